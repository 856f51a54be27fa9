import Derived.Test.YtdomnigegpigiaaLN
namespace Go.Proofs.YtdomnigegpigiaaV
open Go.RowKit
theorem kless_pos (l : List ByteArray) (a b : ByteArray) : kless l a b = if posOf l a = l.length ∧ posOf l b = l.length then Op.bytesLess a.toList b.toList else decide (posOf l a < posOf l b) := by
  unfold kless posOf
  cases ha : lastB l a l.length with
  | none =>
    cases hb : lastB l b l.length with
    | none => simp
    | some j =>
      have := lastB_lt l b _ j hb
      simp only [Option.getD_none, Option.getD_some]
      rw [if_neg (by omega), decide_eq_false (by omega)]
  | some i =>
    have h1 := lastB_lt l a _ i ha
    cases hb : lastB l b l.length with
    | none =>
      simp only [Option.getD_none, Option.getD_some]
      rw [if_neg (by omega), decide_eq_true (by omega)]
    | some j =>
      have := lastB_lt l b _ j hb
      simp only [Option.getD_some]
      rw [if_neg (by omega)]
theorem posOf_le (l : List ByteArray) (k : ByteArray) : posOf l k ≤ l.length := by
  unfold posOf
  cases h : lastB l k l.length with
  | none => exact Nat.le_refl _
  | some i => have := lastB_lt l k _ i h; simp; omega
theorem toList_data (s : ByteArray) : s.toList = s.data.toList := ByteArray.toList_eq s
theorem fresh_stop {A : View} {o o' : Obj} {K : Nat → View → Prop} (h : o = o') : fresh A o K = fresh A o' K := by rw [h]
theorem calls_stop {P : Program} {f : FuncId} {a a' : Array Value} {A : View} {R : Value → View → Prop} (h : a = a') : VCalls P f a A R = VCalls P f a' A R := by rw [h]
theorem xc_step {P : Program} {n : Nat} {c1 c2 : Code} {K : Exit → VQ} {e : Env} {ds : List Deferred} {A : View} (h : ∀ C, C = c2 → xc P n (c1.seq C) K e ds A) : xc P n (c1.seq c2) K e ds A := h c2 rfl
set_option maxHeartbeats 1000000 in
theorem fits11le (A : View) (v : Value) (l : List ByteArray) (h : Texts A v l) (hl : l.length ≤ 9223372036854775807) :
    VCalls Try.prog 11 #[v] A fun r A' => ∃ b, r = .bool b ∧ A' = A := by
  refine xcalls Try.func11 rfl (by simp [Try.ntmps11]) ?_
  obtain ⟨b1, c1, e1⟩ := h.slice
  by_cases hb : l.length ≤ 2147483647
  · simp [go_sem, Try.f11, e1, xlen, xbin, eqPlain, Int.not_lt.2 (show ((l.length : Nat) : Int) ≤ 2147483647 by omega)]
    refine vloopK (fun k e ds A' => ∃ i : Nat, k + i = l.length ∧ A' = A ∧ ds = [] ∧ e 8 = v ∧ e 9 = .int .i64 l.length ∧ e 10 = .int .i64 i) l.length
      ⟨0, by simp, rfl, rfl, by simp [go_sem, e1], by simp [go_sem], by simp [go_sem]⟩ ?_
    rintro k e ds A' ⟨i, hk, rfl, rfl, h8, h9, h10⟩ J X hJ hX
    refine xc_sound _ ?_
    by_cases hi : i < l.length
    · obtain ⟨a, cap, f1, g1⟩ := h.at' hi
      have hw := wrap_nat (i := i) (by omega)
      by_cases hs : (2147483647 : Int) < l[i].size
      · simp [go_sem, h8, h9, h10, xbin, eqPlain, hi, f1, xindexAt, vload, g1, xlen, hs]
        refine hX _ _ _ _ ?_
        simp [go_sem]
      · simp [go_sem, h8, h9, h10, xbin, eqPlain, hi, f1, xindexAt, vload, g1, xlen, hs, hw]
        refine hJ (k - 1) _ _ _ (by omega) ⟨i + 1, by omega, rfl, rfl, by simp [go_sem, h8], by simp [go_sem, h9], by simp [go_sem]⟩
    · simp [go_sem, h8, h9, h10, xbin, eqPlain, hi]
      refine hX _ _ _ _ ?_
      simp [go_sem]
  · simp [go_sem, Try.f11, e1, xlen, xbin, eqPlain, show (2147483647 : Int) < ((l.length : Nat) : Int) by omega]
set_option maxHeartbeats 2000000 in
theorem law7 (A : View) (a b : ByteArray) (v : Value) (l : List ByteArray) (h : Texts A v l) (hl : l.length ≤ 9223372036854775807) :
    VCalls Try.prog 7 #[.string a, .string b, v] A fun r A' => r = .bool true ∧ A ≤ A' := by
  refine xcalls Try.func7 rfl (by simp [Try.ntmps7]) ?_
  obtain ⟨b1, c1, e1⟩ := h.slice
  subst e1
  simp only [Try.f7]
  refine xc_step fun C hC => ?_
  simp [go_sem, xnew, Value.cells]
  intro m hm
  subst hC
  have hA : A ≤ A.set m (.cells #[.slice b1 l.length c1] 25) := le_set hm
  have hp : (A.set m (.cells #[.slice b1 l.length c1] 25)).cell? ⟨m, 0, none⟩ = some (.slice b1 l.length c1) := by simp [View.cell?, View.set]
  generalize A.set m (.cells #[.slice b1 l.length c1] 25) = A1 at hA hp
  have h1 := h.le hA
  refine xc_step fun C hC => ?_
  by_cases ha : (2147483647 : Int) < a.size
  · simp [go_sem, xlen, xbin, eqPlain, gval, ha]
    exact hA
  by_cases hb : (2147483647 : Int) < b.size
  · simp [go_sem, xlen, xbin, eqPlain, gval, ha, hb]
    exact hA
  simp [go_sem, xlen, xbin, eqPlain, gval, ha, hb, vload, hp]
  refine (fits11le A1 _ l h1 hl).mono ?_
  rintro _ _ ⟨q, rfl, rfl⟩
  cases q with
  | false =>
    simp [go_sem, xunop, gval]
    exact hA
  | true =>
  rename_i A1
  simp [go_sem, xunop, gval]
  subst hC
  refine xc_step fun C hC => ?_
  by_cases hl40 : (40 : Int) < l.length
  · simp [go_sem, xunop, gval, vload, hp, xlen, xbin, eqPlain, hl40]
    exact hA
  simp [go_sem, xunop, gval, vload, hp, xlen, xbin, eqPlain, hl40]
  subst hC
  refine xc_step fun C hC => ?_
  simp [go_sem]
  subst hC
  refine xc_step fun C hC => ?_
  simp [go_sem]
  have hn : l.length ≤ 40 := by omega
  refine (at19 A1 a _ _ l hp h1 (by omega)).mono ?_
  rintro _ _ ⟨rfl, rfl⟩
  rename_i A1
  refine (at19 A1 b _ _ l hp h1 (by omega)).mono ?_
  rintro _ _ ⟨rfl, rfl⟩
  rename_i A1
  subst hC
  have hk := kless_pos l a b
  have pa := posOf_le l a
  have pb := posOf_le l b
  generalize posOf l a = i at pa hk
  generalize posOf l b = j at pb hk
  refine xc_step fun C hC => ?_
  simp [go_sem, xbin, eqPlain]
  subst hC
  have tailC : ∀ (A1 : View) (q : Bool), A ≤ A1 → Texts A1 (.slice b1 l.length c1) l → q = kless l a b → VCalls Try.prog 20 #[.string a, .string b, .slice b1 l.length c1] A1 fun v A' => v = .bool q ∧ A ≤ A' := by
    intro A1 q hA1 h1 hq
    refine (kind20 A1 a b _ l h1 (by omega)).mono ?_
    rintro _ A' ⟨rfl, h2⟩
    exact ⟨by rw [hq], View.le_trans hA1 h2⟩
  have lastC : ∀ A2 : View, A ≤ A2 → VCalls Try.prog 20 #[.string { data := #[97] }, .string { data := #[98] }, .slice none 0 0] A2 fun v A' => v = .bool true ∧ A ≤ A' := by
    intro A2 hA2
    refine (kind20 A2 _ _ (.slice none 0 0) [] (.inr ⟨rfl, rfl, rfl⟩) (by simp)).mono ?_
    rintro _ A' ⟨rfl, h2⟩
    refine ⟨congrArg Value.bool ?_, View.le_trans hA2 h2⟩
    have h1 : ∀ k : ByteArray, lastB [] k ([] : List ByteArray).length = none := fun k => rfl
    unfold kless
    rw [h1, h1]
    show Op.bytesLess (ByteArray.toList _) (ByteArray.toList _) = true
    rw [toList_data, toList_data]
    rfl
  by_cases hi : i = l.length
  · have hic : ((i : Int) == (l.length : Int)) = true := by simp [hi]
    by_cases hj : j = l.length
    · have hjc : ((j : Int) == (l.length : Int)) = true := by simp [hj]
      have hk2 : kless l a b = Op.bytesLess a.toList b.toList := by rw [hk, if_pos ⟨hi, hj⟩]
      refine xc_step fun C hC => ?_
      simp [go_sem, gval, vload, hp, xlen, xbin, eqPlain, hic, hjc]
      subst hC
      simp [go_sem, vload, hp]
      refine (tailC A1 _ hA h1 hk2.symm).mono ?_
      rintro _ A2 ⟨rfl, hA2⟩
      simp [go_sem, gval, xbin, eqPlain]
      refine (lastC A2 hA2).mono ?_
      rintro _ A3 ⟨rfl, hA3⟩
      simp [go_sem]
      exact hA3
    · have hjc : ((j : Int) == (l.length : Int)) = false := by simp; omega
      have hk2 : kless l a b = decide (i < j) := by rw [hk, if_neg (by omega)]
      refine xc_step fun C hC => ?_
      simp [go_sem, gval, vload, hp, xlen, xbin, eqPlain, hic, hjc]
      subst hC
      simp [go_sem, vload, hp]
      refine (tailC A1 _ hA h1 hk2.symm).mono ?_
      rintro _ A2 ⟨rfl, hA2⟩
      simp [go_sem, gval, xbin, eqPlain]
      refine (lastC A2 hA2).mono ?_
      rintro _ A3 ⟨rfl, hA3⟩
      simp [go_sem]
      exact hA3
  · have hic : ((i : Int) == (l.length : Int)) = false := by simp; omega
    have hk2 : kless l a b = decide (i < j) := by rw [hk, if_neg (by omega)]
    refine xc_step fun C hC => ?_
    simp [go_sem, gval, vload, hp, xlen, xbin, eqPlain, hic]
    subst hC
    simp [go_sem, vload, hp]
    refine (tailC A1 _ hA h1 hk2.symm).mono ?_
    rintro _ A2 ⟨rfl, hA2⟩
    simp [go_sem, gval, xbin, eqPlain]
    refine (lastC A2 hA2).mono ?_
    rintro _ A3 ⟨rfl, hA3⟩
    simp [go_sem]
    exact hA3
theorem law7' (W : World) (a : ByteArray) (wa : a.size ≤ 140737488351232) (b : ByteArray) (wb : b.size ≤ 140737488351232) (v : Value) (y : List ByteArray)
    (o : Texts (full W) v y ∧ y.length ≤ maxLen ∧ ∀ s ∈ y, s.size ≤ maxLen) :
    VCalls Try.prog 7 #[.string a, .string b, v] (full W) fun r A' => r = .bool true ∧ full W ≤ A' :=
  law7 (full W) a b v y o.1 (Nat.le_trans o.2.1 (by decide))
end Go.Proofs.YtdomnigegpigiaaV

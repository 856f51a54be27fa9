import Derived.Test.YtdomnigegpigiaaLK
namespace Go.Proofs.YtdomnigegpigiaaV
open Go.RowKit
def ins (xs : List ByteArray) (l : List (List ByteArray)) : List (List ByteArray) := if has xs l then l else l ++ [xs]
set_option maxHeartbeats 1000000 in
theorem ins31 (A0 A : View) (v x : Value) (l : List (List ByteArray)) (xs : List ByteArray) (hle0 : A0 ≤ A) (h : OwnT A0 A 25 v l) (hx : Texts (eraseB A v) x xs) (hl : l.length < 1000) (hle : ∀ y ∈ l, y.length < 9223372036854775807) :
    VCalls Try.prog 31 #[v, x] A fun r A' => A0 ≤ A' ∧ eraseB A v ≤ eraseB A' r ∧ OwnT A0 A' 25 r (ins xs l) := by
  refine xcalls Try.func31 rfl (by simp [Try.ntmps31]) ?_
  have hx' := hx.le (eraseB_le A v)
  obtain ⟨bx, cx, ex⟩ := hx.slice
  subst ex
  simp [go_sem, Try.f31]
  refine (has32 A v _ l xs h.rows hx' (by omega) hle).mono ?_
  rintro _ _ ⟨rfl, rfl⟩
  by_cases hq : has xs l = true
  · simp [go_sem, hq, xunop, ins]
    exact ⟨hle0, View.le_refl _, h⟩
  · simp only [Bool.not_eq_true] at hq
    simp [go_sem, hq, xunop, ins, xnew, Instr.fill, zerosB, Value.cells]
    intro b hb
    obtain ⟨ws, hw, hwl, hwt⟩ := id h
    refine xappend_own ti43 ti43 (fun k => by simp) ti25 rfl (by decide) (hw.le (le_set hb)) (View.le_trans hle0 (le_set hb)) appended_one (by simp) (by simp [one]) (by omega) fun v' A3 h1' h2' h3' => ?_
    refine ⟨h1', View.le_trans (eraseB_mono (le_set hb) v) h3', ?_⟩
    refine OwnT.grow (m := [xs]) h hw rfl (fun i hi => ?_) h2' (View.le_trans (eraseB_mono (le_set hb) v) h3')
    have : i = 0 := by simpa using hi
    subst this
    exact ⟨_, rfl, hx⟩
set_option maxHeartbeats 1000000 in
theorem lins23 (A0 A : View) (v x : Value) (l : List (List ByteArray)) (xs : List ByteArray) (hle0 : A0 ≤ A) (h : OwnT A0 A 25 v l) (hx : Texts (eraseB A v) x xs) (hl : l.length < 1000) (hle : ∀ y ∈ l, y.length < 9223372036854775807) (hxs : xs.length < 9223372036854775807) :
    VCalls Try.prog 23 #[v, x] A fun r A' => ∃ r', r = .tuple #[r', .bool true] ∧ A0 ≤ A' ∧ eraseB A v ≤ eraseB A' r' ∧ OwnT A0 A' 25 r' (ins xs l) := by
  refine xcalls Try.func23 rfl (by simp [Try.ntmps23]) ?_
  simp [go_sem, Try.f23]
  refine (ins31 A0 A v x l xs hle0 h hx hl hle).mono ?_
  rintro r A' ⟨h1, h2, h3⟩
  refine (has32 A' r x (ins xs l) xs h3.rows (hx.le (View.le_trans h2 (eraseB_le _ _))) (by unfold ins; split <;> (try rw [List.length_append]) <;> (try rw [List.length_singleton]) <;> omega) (fun y hy => ?_)).mono ?_
  · unfold ins at hy
    split at hy
    · exact hle y hy
    · rcases List.mem_append.1 hy with hy | hy
      · exact hle y hy
      · rw [List.mem_singleton.1 hy]; exact hxs
  rintro _ _ ⟨rfl, rfl⟩
  have : has xs (ins xs l) = true := by
    unfold ins
    split
    · assumption
    · simp [has]
  rw [this]
  exact ⟨_, by first | rfl | (simp; done), h1, h2, h3⟩
set_option maxHeartbeats 1000000 in
theorem fits11 (A : View) (v : Value) (l : List ByteArray) (h : Texts A v l) (hl : l.length < 9223372036854775807) :
    VCalls Try.prog 11 #[v] A fun r A' => ∃ b, r = .bool b ∧ A' = A := by
  refine xcalls Try.func11 rfl (by simp [Try.ntmps11]) ?_
  obtain ⟨b1, c1, e1⟩ := h.slice
  by_cases hb : l.length ≤ 2147483647
  · simp [go_sem, Try.f11, e1, xlen, xbin, eqPlain, Int.not_lt.2 (show ((l.length : Nat) : Int) ≤ 2147483647 by omega)]
    refine vloopK (fun k e ds A' => ∃ i : Nat, k + i = l.length ∧ A' = A ∧ ds = [] ∧ e 8 = v ∧ e 9 = .int .i64 l.length ∧ e 10 = .int .i64 i) l.length
      ⟨0, by simp, rfl, rfl, by simp [go_sem, e1], by simp [go_sem], by simp [go_sem]⟩ ?_
    rintro k e ds A' ⟨i, hk, rfl, rfl, h8, h9, h10⟩ J X hJ hX
    refine xc_sound _ ?_
    by_cases hi : i < l.length
    · obtain ⟨a, cap, f1, g1⟩ := h.at' hi
      have hw := wrap_nat (i := i) (by omega)
      by_cases hs : (2147483647 : Int) < l[i].size
      · simp [go_sem, h8, h9, h10, xbin, eqPlain, hi, f1, xindexAt, vload, g1, xlen, hs]
        refine hX _ _ _ _ ?_
        simp [go_sem]
      · simp [go_sem, h8, h9, h10, xbin, eqPlain, hi, f1, xindexAt, vload, g1, xlen, hs, hw]
        refine hJ (k - 1) _ _ _ (by omega) ⟨i + 1, by omega, rfl, rfl, by simp [go_sem, h8], by simp [go_sem, h9], by simp [go_sem]⟩
    · simp [go_sem, h8, h9, h10, xbin, eqPlain, hi]
      refine hX _ _ _ _ ?_
      simp [go_sem]
  · simp [go_sem, Try.f11, e1, xlen, xbin, eqPlain, show (2147483647 : Int) < ((l.length : Nat) : Int) by omega]
set_option maxHeartbeats 1000000 in
theorem fits21 (A : View) (v : Value) (l : List (List ByteArray)) (h : Rows2 A v l) (hl : l.length < 9223372036854775807) (hle : ∀ y ∈ l, y.length < 9223372036854775807) :
    VCalls Try.prog 21 #[v] A fun r A' => ∃ b, r = .bool b ∧ A' = A := by
  refine xcalls Try.func21 rfl (by simp [Try.ntmps21]) ?_
  obtain ⟨b1, c1, e1⟩ := h.slice
  by_cases hb : l.length ≤ 2147483647
  · simp [go_sem, Try.f21, e1, xlen, xbin, eqPlain, Int.not_lt.2 (show ((l.length : Nat) : Int) ≤ 2147483647 by omega)]
    refine vloopK (fun k e ds A' => ∃ i : Nat, k + i = l.length ∧ A' = A ∧ ds = [] ∧ e 8 = v ∧ e 9 = .int .i64 l.length ∧ e 10 = .int .i64 i) l.length
      ⟨0, by simp, rfl, rfl, by simp [go_sem, e1], by simp [go_sem], by simp [go_sem]⟩ ?_
    rintro k e ds A' ⟨i, hk, rfl, rfl, h8, h9, h10⟩ J X hJ hX
    refine xc_sound _ ?_
    by_cases hi : i < l.length
    · obtain ⟨a, cap, u, f1, g1, t1⟩ := h.at' hi
      have hw := wrap_nat (i := i) (by omega)
      simp [go_sem, h8, h9, h10, xbin, eqPlain, hi, f1, xindexAt, vload, g1]
      refine (fits11 A' u l[i] t1 (hle _ (List.getElem_mem hi))).mono ?_
      rintro _ _ ⟨q, rfl, rfl⟩
      cases q with
      | false =>
        simp [go_sem, xunop]
        refine hX _ _ _ _ ?_
        simp [go_sem]
      | true =>
        simp [go_sem, h8, h9, h10, xbin, eqPlain, hw, xunop]
        refine hJ (k - 1) _ _ _ (by omega) ⟨i + 1, by omega, rfl, rfl, by simp [go_sem, h8], by simp [go_sem, h9], by simp [go_sem]⟩
    · simp [go_sem, h8, h9, h10, xbin, eqPlain, hi]
      refine hX _ _ _ _ ?_
      simp [go_sem]
  · simp [go_sem, Try.f21, e1, xlen, xbin, eqPlain, show (2147483647 : Int) < ((l.length : Nat) : Int) by omega]
end Go.Proofs.YtdomnigegpigiaaV

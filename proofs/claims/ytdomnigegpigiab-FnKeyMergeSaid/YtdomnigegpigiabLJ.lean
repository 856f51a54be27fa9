import Derived.Test.YtdomnigegpigiabLI
namespace Go.Proofs.YtdomnigegpigiabV
open Go.RowKit
theorem cells_take {A : View} {a : Addr} : ∀ (n i k : Nat) (cs : List Value), A.cells? a i n = some cs → k ≤ n → A.cells? a i k = some (cs.take k)
  | _, _, 0, cs, h, _ => by simp [View.cells?]
  | 0, _, k + 1, cs, h, hk => by omega
  | n + 1, i, k + 1, cs, h, hk => by
    simp only [View.cells?] at h ⊢
    obtain ⟨v, hv, h⟩ := Option.bind_eq_some_iff.1 h
    obtain ⟨vs, hvs, h⟩ := Option.map_eq_some_iff.1 h
    rw [hv]
    simp only [Option.bind_some]
    rw [cells_take n (i + 1) k vs hvs (by omega), ← h]
    rfl
theorem Rows2.take {A : View} {b : Option Addr} {cap cap' : Nat} {l : List (List ByteArray)} (h : Rows2 A (.slice b l.length cap) l) (k : Nat) (hk : k ≤ l.length) (hc : b = none → cap' = 0) : Rows2 A (.slice b k cap') (l.take k) := by
  obtain ⟨cs, h1, h2, h3⟩ := h
  have hl : (l.take k).length = k := by simp [hk]
  refine ⟨cs.take k, ?_, by simp [h2], fun i hi => ?_⟩
  · rw [hl]
    rcases h1 with ⟨a, c, e1, e2⟩ | ⟨e1, e2, e3⟩
    · simp only [Value.slice.injEq] at e1
      refine .inl ⟨a, cap', by rw [e1.1], ?_⟩
      rw [Nat.mul_one] at e2 ⊢
      exact cells_take _ _ _ _ e2 hk
    · simp only [Value.slice.injEq] at e1
      refine .inr ⟨?_, by omega, by rw [e3]; simp⟩
      rw [e1.1, hc e1.1]
      congr 1
      omega
  · rw [hl] at hi
    obtain ⟨u, hu, ht⟩ := h3 i (by omega)
    refine ⟨u, by rw [List.getElem?_take_of_lt hi]; exact hu, ?_⟩
    rw [List.getElem_take]
    exact ht
theorem Short.innI {S : List (List ByteArray)} (h : Short S) {v : List ByteArray} (hv : v.length ≤ 100) (i : Nat) : ∀ j, Short (innI v i S j)
  | 0 => h
  | j + 1 => by rw [YtdomnigegpigiabV.innI]; exact Short.put2 (Short.innI h hv i j) hv
theorem Short.outI {S : List (List ByteArray)} (h : Short S) : ∀ i, Short (outI S i)
  | 0 => h
  | i + 1 => by rw [YtdomnigegpigiabV.outI]; exact Short.innI (Short.outI h i) (Short.getD (Short.outI h i) i) i _
set_option maxHeartbeats 2000000 in
theorem law3 (A : View) (v0 : Value) (y1 : Int) (L : List (List ByteArray)) (h : Rows2 A v0 L) (hcap : ∃ b n c, v0 = .slice b n c ∧ n ≤ c) (hy : 0 ≤ y1 ∧ y1 < 256) (hl : L.length ≤ 9223372036854775807) (hle : ∀ y ∈ L, y.length ≤ 9223372036854775807) (hsz : ∀ y ∈ L, ∀ s ∈ y, s.size ≤ 9223372036854775807) :
    VCalls Try.prog 3 #[v0, .int .u8 y1] A fun r A' => r = .bool true ∧ A ≤ A' := by
  refine xcalls Try.func3 rfl (by simp [Try.ntmps3]) ?_
  obtain ⟨b0, c0, e0⟩ := h.slice
  simp [go_sem, Try.f3]
  refine (fits7 A v0 L h hl hle).mono ?_
  rintro _ _ ⟨q, rfl, rfl⟩
  cases q with
  | false =>
    simp [go_sem, xunop]
    exact View.le_refl _
  | true =>
  rename_i A
  have hc0 : L.length ≤ c0 := by
    obtain ⟨b, n, c, h1, h2⟩ := hcap
    rw [e0] at h1
    simp only [Value.slice.injEq] at h1
    omega
  have hb0 : b0 = none → c0 = 0 := by
    intro hb
    obtain ⟨cs, h1, _⟩ := h
    rcases h1 with ⟨a, c, h1, _⟩ | ⟨h1, _⟩
    · rw [e0, hb] at h1; simp at h1
    · rw [e0] at h1; simp only [Value.slice.injEq] at h1; exact h1.2.2
  have hmin : (if (2 : Int) < (L.length : Int) then (2 : Int) else (L.length : Int)) = ((min L.length 2 : Nat) : Int) := by split <;> omega
  obtain ⟨m, hm⟩ : ∃ m : Nat, y1.tmod 4 = (m : Int) := ⟨(y1.tmod 4).toNat, by
    have := Int.tmod_nonneg 4 hy.1
    omega⟩
  have hm4 : m < 4 := by
    have := Int.tmod_lt_of_pos y1 (show (0 : Int) < 4 by omega)
    omega
  have hw1 : IntKind.i64.wrap (m : Int) = (m : Int) := wrap_in (by omega) (by omega)
  have hw2 : IntKind.i64.wrap (1 + (m : Int)) = ((1 + m : Nat) : Int) := by rw [wrap_in (by omega) (by omega)]; omega
  simp [go_sem, xunop, e0, xlen, xmin, xslice, xbin, hmin, hm, xconv, hw1, hw2, eqPlain, show min L.length 2 ≤ c0 by omega]
  have hcast : (1 + (m : Int)) = ((1 + m : Nat) : Int) := by omega
  rw [hcast]
  have h2 : Rows2 A (.slice b0 (min L.length 2) c0) (L.take (min L.length 2)) := Rows2.take (e0 ▸ h) _ (Nat.min_le_left _ _) hb0
  have hl2 : (L.take (min L.length 2)).length ≤ 2 := by simp; omega
  have hmem : ∀ y ∈ L.take (min L.length 2), y ∈ L := fun y hy => List.mem_of_mem_take hy
  refine (lists8 A _ (L.take (min L.length 2)) (1 + m) h2 (by omega) (by omega) (fun y hy => hle y (hmem y hy)) (fun y hy => hsz y (hmem y hy))).mono ?_
  rintro v A1 ⟨hA1, l, ol, hll, _, hsh⟩
  refine (merge9 A1 v l ol.rows (by omega) hsh).mono ?_
  rintro want A2 ⟨hA2, ow⟩
  refine (key11 A2 v l (ol.rows.le hA2) (by omega) hsh).mono ?_
  rintro got A3 ⟨hA3, og⟩
  have heq := out_eq l (by omega)
  have hlo := outI_len l l.length
  have hsho : ∀ y ∈ outI l l.length, y.length ≤ 9223372036854775807 := fun y hy => by have := hsh.outI l.length y hy; omega
  refine (same10 A3 got want _ _ og.rows (ow.rows.le hA3) (by omega) hsho).mono ?_
  rintro _ _ ⟨rfl, rfl⟩
  rename_i A3
  simp [go_sem, gval, heq, xnew, Instr.fill, zerosB, Value.cells]
  intro b1 hb1 b2 hb2
  have hne : b1 ≠ b2 := by
    intro hx
    subst hx
    simp [View.set] at hb2
  have hT : Texts ((A3.set b1 (.cells #[.string ⟨#[97]⟩] 9)).set b2 (.cells #[.slice (some ⟨b1, 0, none⟩) 1 1] 27)) (.slice (some ⟨b1, 0, none⟩) 1 1) [⟨#[97]⟩] := by
    refine .inl ⟨_, 1, rfl, ?_⟩
    simp [View.cells?, View.cell?, View.set, Addr.add, hne]
  have hR : Rows2 ((A3.set b1 (.cells #[.string ⟨#[97]⟩] 9)).set b2 (.cells #[.slice (some ⟨b1, 0, none⟩) 1 1] 27)) (.slice (some ⟨b2, 0, none⟩) 1 1) [[⟨#[97]⟩]] := by
    refine ⟨[.slice (some ⟨b1, 0, none⟩) 1 1], .inl ⟨_, 1, rfl, ?_⟩, rfl, fun i hi => ?_⟩
    · simp [View.cells?, View.cell?, View.set, Addr.add]
    · have : i = 0 := by simpa using hi
      subst this
      exact ⟨_, rfl, hT⟩
  refine (key11 _ _ _ hR (by simp) (fun y hy => by rw [List.mem_singleton.1 hy]; simp)).mono ?_
  rintro r A4 ⟨hA4, o4⟩
  obtain ⟨b4, c4, e4⟩ := o4.rows.slice
  rw [outI_len] at e4
  simp [go_sem, e4, xlen, xbin, eqPlain]
  exact View.le_trans (View.le_trans (View.le_trans hA1 hA2) hA3) (View.le_trans (View.le_trans (le_set hb1) (le_set hb2)) hA4)
theorem law3' (W : World) (v0 : Value) (y0 : List (List ByteArray)) (o0 : (Rows2 (full W) v0 y0 ∧ y0.length ≤ maxLen ∧ ∀ y ∈ y0, y.length ≤ maxLen ∧ ∀ s ∈ y, s.size ≤ maxLen) ∧ ∃ b n c, v0 = .slice b n c ∧ n ≤ c)
    (y1 : Int) (o1 : (Lit.int .u8 y1).wf = true) : VCalls Try.prog 3 #[v0, .int .u8 y1] (full W) fun r A' => r = .bool true ∧ full W ≤ A' := by
  have hm : maxLen ≤ 9223372036854775807 := by decide
  obtain ⟨⟨o2, o3, o4⟩, o5⟩ := o0
  refine law3 (full W) v0 y1 y0 o2 o5 ?_ (by omega) (fun y hy => by have := (o4 y hy).1; omega) (fun y hy s hs => by have := (o4 y hy).2 s hs; omega)
  have e1 : IntKind.u8.min = 0 := by decide
  have e2 : IntKind.u8.max = 255 := by decide
  simp [Lit.wf, e1, e2] at o1
  omega
end Go.Proofs.YtdomnigegpigiabV

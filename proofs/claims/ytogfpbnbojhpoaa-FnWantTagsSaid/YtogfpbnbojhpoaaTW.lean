/- Tables: what fits, what is a table, and tables of which one is none. -/
import Derived.Test.YtogfpbnbojhpoaaTS
namespace Go.Proofs.YtogfpbnbojhpoaaV
open Go.RowKit
set_option linter.unusedSimpArgs false
set_option linter.unusedVariables false
set_option maxHeartbeats 1000000 in
theorem fits32 (A : View) (v : Value) (l : List ByteArray) (h : Texts A v l) (hl : l.length ≤ 9223372036854775807) :
    VCalls Try.prog 32 #[v] A fun r A' => isB r ∧ A' = A := by
  refine xcalls Try.func32 rfl (by simp [Try.ntmps32]) ?_
  obtain ⟨b1, c1, e1⟩ := h.slice
  by_cases hb : l.length ≤ 2147483647
  · simp [go_sem, Try.f32, e1, xlen, xbin, eqPlain, Int.not_lt.2 (show ((l.length : Nat) : Int) ≤ 2147483647 by omega)]
    refine vloopK (fun k e ds A' => ∃ i : Nat, k + i = l.length ∧ A' = A ∧ ds = [] ∧ e 8 = v ∧ e 9 = .int .i64 l.length ∧ e 10 = .int .i64 i) l.length
      ⟨0, by simp, rfl, rfl, by simp [go_sem, e1], by simp [go_sem], by simp [go_sem]⟩ ?_
    rintro k e ds A' ⟨i, hk, rfl, rfl, h8, h9, h10⟩ J X hJ hX
    refine xc_sound _ ?_
    by_cases hi : i < l.length
    · obtain ⟨a, cap, f1, g1⟩ := h.at' hi
      have hw := wrap_nat (i := i) (by omega)
      by_cases hs : (2147483647 : Int) < l[i].size
      · simp [go_sem, h8, h9, h10, xbin, eqPlain, hi, f1, xindexAt, vload, g1, xlen, hs]
        refine hX _ _ _ _ ?_
        simp [go_sem]
      · simp [go_sem, h8, h9, h10, xbin, eqPlain, hi, f1, xindexAt, vload, g1, xlen, hs, hw]
        refine hJ (k - 1) _ _ _ (by omega) ⟨i + 1, by omega, rfl, rfl, by simp [go_sem, h8], by simp [go_sem, h9], by simp [go_sem]⟩
    · simp [go_sem, h8, h9, h10, xbin, eqPlain, hi]
      refine hX _ _ _ _ ?_
      simp [go_sem]
  · simp [go_sem, Try.f32, e1, xlen, xbin, eqPlain, show (2147483647 : Int) < ((l.length : Nat) : Int) by omega]
theorem isB_ofInt (a b : Int) : isB (.bool (decide (a < b))) := ⟨_, rfl⟩
set_option maxHeartbeats 4000000 in
theorem fits10 (A : View) (v : RV) (c : Array Value) (hc : IsRV A v c) : VCalls Try.prog 10 #[.agg c] A fun r A' => isB r ∧ A ≤ A' := by
  refine xcalls Try.func10 rfl (by simp [Try.ntmps10]) ?_
  simp only [Try.f10]
  obtain ⟨k, b, i, f, t, keys, list⟩ := v
  rw [IsRV] at hc
  obtain ⟨ks, ls, hcs, hks, hkl, ⟨bl, cl, rfl⟩, -⟩ := hc
  refine xc_step fun C hC => ?_
  simp [go_sem, xnew, Value.cells]
  intro q hq
  subst hC
  have LA : A ≤ A.set q (.cells c 27) := le_set hq
  have hN := set_at A q (.cells c 27)
  have hk2 := hks.le LA
  generalize A.set q (.cells c 27) = B at LA hN hk2
  subst hcs
  have c4 := cell_of hN (i := 4) rfl
  have c5 := cell_of hN (i := 5) rfl
  have c6 := cell_of hN (i := 6) rfl
  refine xc_step fun C hC => ?_
  by_cases hs : (2147483647 : Int) < t.size
  · simp [go_sem, xfieldAt, xlen, vload, c4, xbin, eqPlain, hs]
    exact LA
  simp [go_sem, xfieldAt, xlen, vload, c4, xbin, eqPlain, hs]
  subst hC
  refine xc_step fun C hC => ?_
  simp [go_sem, xfieldAt, vload, c5]
  refine (fits32 B _ _ hk2 hkl).mono ?_
  rintro _ B2 ⟨⟨x, rfl⟩, rfl⟩
  cases x with
  | false =>
    simp [go_sem, xunop]
    exact LA
  | true =>
    simp [go_sem, xunop]
    subst hC
    refine xc_step fun C hC => ?_
    by_cases hs : (2147483647 : Int) < list.length
    · simp [go_sem, xfieldAt, xlen, vload, c6, xbin, eqPlain, hs]
      exact LA
    simp [go_sem, xfieldAt, xlen, vload, c6, xbin, eqPlain, hs]
    subst hC
    simp [go_sem]
    exact LA
set_option maxHeartbeats 4000000 in
theorem isTable23 (A : View) (v : RV) (c : Array Value) (hc : IsRV A v c) : VCalls Try.prog 23 #[.agg c] A fun r A' => r = .bool (kindOf v == 7) ∧ A ≤ A' := by
  refine xcalls Try.func23 rfl (by simp [Try.ntmps23]) ?_
  obtain ⟨k, b, i, f, t, keys, list⟩ := v
  rw [IsRV] at hc
  obtain ⟨ks, ls, hcs, -⟩ := hc
  simp only [Try.f23]
  refine xc_step fun C hC => ?_
  simp [go_sem, xnew, Value.cells]
  intro q hq
  subst hC
  have LA : A ≤ A.set q (.cells c 27) := le_set hq
  have hN := set_at A q (.cells c 27)
  generalize A.set q (.cells c 27) = B at LA hN
  subst hcs
  have c0 := cell_of hN (i := 0) rfl
  simp [go_sem, xfieldAt, vload, c0, xbin, eqPlain, kindOf]
  exact LA
/-- What a table of at most 300 values is. -/
def TB (v : RV) : Prop := kindOf v = 7 ∧ Good v 50 ∧ nodes v ≤ 300
def Tq (v : RV) (r : Value) : Prop := ∃ q, r = .bool q ∧ (q = true → TB v)
set_option maxHeartbeats 4000000 in
theorem tbTable12 (A : View) (v : RV) (c : Array Value) (hc : IsRV A v c) : VCalls Try.prog 12 #[.agg c] A fun r A' => Tq v r ∧ A ≤ A' := by
  refine xcalls Try.func12 rfl (by simp [Try.ntmps12]) ?_
  have hcz := hc.size
  simp only [Try.f12]
  refine xc_step fun C hC => ?_
  simp [go_sem, xnew, Value.cells]
  intro q hq
  subst hC
  have LA : A ≤ A.set q (.cells c 27) := le_set hq
  have hN := set_at A q (.cells c 27)
  generalize A.set q (.cells c 27) = B at LA hN
  have gq := cells_block hN hcz
  refine xc_step fun C hC => ?_
  simp [go_sem, vload, gq]
  refine (isTable23 B v c (hc.le LA)).mono ?_
  rintro _ B2 ⟨rfl, L2⟩
  have gq := cells_block (L2 _ _ hN) hcz
  cases hk : kindOf v == 7 with
  | false =>
    simp [go_sem, gval, undef]
    subst hC
    simp [go_sem]
    exact ⟨⟨false, rfl, fun h => by cases h⟩, View.le_trans LA L2⟩
  | true =>
    simp [go_sem, gval, undef, vload, gq]
    refine (right34 B2 v c (hc.le (View.le_trans LA L2))).mono ?_
    rintro _ B3 ⟨⟨x, rfl, hx⟩, L3⟩
    subst hC
    simp [go_sem]
    refine ⟨⟨x, rfl, fun h => ?_⟩, View.le_trans LA (View.le_trans L2 L3)⟩
    have := hx h
    exact ⟨by simpa using hk, this.1, this.2⟩
set_option maxHeartbeats 4000000 in
theorem tbGot17 (A : View) (v w : RV) (c c' : Array Value) (lv lv' : Nat) (hc : IsRV A v c) (hc' : IsRV A w c') (hG : Good v lv) (hG' : Good w lv') (hN : norm v = norm w) (hn : nodes v ≤ 1000000) :
    VCalls Try.prog 17 #[.agg c, .int .i64 0, .agg c'] A fun r A' => r = .bool true ∧ A ≤ A' := by
  refine xcalls Try.func17 rfl (by simp [Try.ntmps17]) ?_
  have hcz := hc.size
  have hcz' := hc'.size
  simp only [Try.f17]
  refine xc_step fun C hC => ?_
  simp [go_sem, xnew, Value.cells]
  intro q hq q' hq'
  subst hC
  obtain ⟨dqq, hq2, hQ, hQ'⟩ := two_blocks (d := c') (e2 := 27) hq'
  have LA : A ≤ (A.set q (.cells c 27)).set q' (.cells c' 27) := View.le_trans (le_set hq) (le_set hq')
  generalize (A.set q (.cells c 27)).set q' (.cells c' 27) = B0 at hQ hQ' LA
  have gq := cells_block hQ hcz
  have gq' := cells_block hQ' hcz'
  refine xc_step fun C hC => ?_
  simp [go_sem, xbin, eqPlain, gval, undef, vload, gq, gq']
  refine (same44 v w B0 c c' lv lv' (hc.le LA) (hc'.le LA) hG hG' hN hn).mono ?_
  rintro _ B2 ⟨rfl, L2⟩
  subst hC
  simp [go_sem]
  exact View.le_trans LA L2
end Go.Proofs.YtogfpbnbojhpoaaV

/- Tables: what is a table, prefixes, what is printed, and tables of the thin package's, owned. -/
import Derived.Test.YtogfpbnbojhpoaaUI
namespace Go.Proofs.YtogfpbnbojhpoaaV
open Go.RowKit
set_option linter.unusedSimpArgs false
set_option linter.unusedVariables false
set_option maxHeartbeats 1000000 in
theorem printf68 (A : View) (s : ByteArray) (x : Value) : VCalls Try.prog 68 #[.string s, x] A fun r A' => r = .tuple #[] ∧ A' = A := by
  refine xcalls Try.func68 rfl (by simp [Try.ntmps68]) ?_
  simp [go_sem, Try.f68]
set_option maxHeartbeats 1000000 in
theorem istable80 (A : View) (x : Value) (h : x = .nilIface ∨ ∃ t y, x = .iface t y) : VCalls Try.prog 80 #[x] A fun r A' => r = .bool (is63 x) ∧ A' = A := by
  rcases h with rfl | ⟨t, y, rfl⟩
  · skip
    refine xcalls Try.func80 rfl (by simp [Try.ntmps80]) ?_
    simp only [Try.f80]
    have hP : Priv A (addrs []) := Priv.nil A
    show xc _ _ _ _ _ _ (ov A [])
    refine xc_two fun N1 hN1 => ?_
    refine xc_reg1 1 rfl fun K hK => ?_
    simp only [show (List.range 1).map (·, true) = [(0, true)] from rfl, rslv_cons, rslv_nil, List.getElem?_toArray, List.getElem?_cons_zero, List.getElem?_cons_succ, gres]
    (refine seqX_hide2 fun R hR => ?_; simp [go_sem]; refine hR _ _ _ ?_; clear hR R)
    rw [seqX_nil]
    refine hK _ _ _ ?_; clear hK K
    refine hN1 _ _ _ ?_
    refine xc_two fun N2 hN2 => ?_
    refine xc_reg1 7 rfl fun K hK => ?_
    simp only [show (List.range 7).map (·, true) = [(0, true), (1, true), (2, true), (3, true), (4, true), (5, true), (6, true)] from rfl, rslv_cons, rslv_nil, List.getElem?_toArray, List.getElem?_cons_zero, List.getElem?_cons_succ, gres]
    iterate 7 (refine seqX_hide2 fun R hR => ?_; simp [go_sem]; refine hR _ _ _ ?_; clear hR R)
    rw [seqX_nil]
    refine hK _ _ _ ?_; clear hK K
    refine hN2 _ _ _ ?_
    refine xc_two fun N3 hN3 => ?_
    refine xc_reg1 2 rfl fun K hK => ?_
    simp only [show (List.range 2).map (·, true) = [(0, true), (1, true)] from rfl, rslv_cons, rslv_nil, List.getElem?_toArray, List.getElem?_cons_zero, List.getElem?_cons_succ, gres]
    iterate 2 (refine seqX_hide2 fun R hR => ?_; simp [go_sem]; refine hR _ _ _ ?_; clear hR R)
    rw [seqX_nil]
    refine hK _ _ _ ?_; clear hK K
    refine hN3 _ _ _ ?_
    simp [go_sem]
    exact ⟨rfl, rfl⟩
  · by_cases ht : t = 63
    · subst ht
      refine xcalls Try.func80 rfl (by simp [Try.ntmps80]) ?_
      simp only [Try.f80]
      have hP : Priv A (addrs []) := Priv.nil A
      show xc _ _ _ _ _ _ (ov A [])
      refine xc_two fun N1 hN1 => ?_
      refine xc_reg1 1 rfl fun K hK => ?_
      simp only [show (List.range 1).map (·, true) = [(0, true)] from rfl, rslv_cons, rslv_nil, List.getElem?_toArray, List.getElem?_cons_zero, List.getElem?_cons_succ, gres]
      (refine seqX_hide2 fun R hR => ?_; simp [go_sem]; refine hR _ _ _ ?_; clear hR R)
      rw [seqX_nil]
      refine hK _ _ _ ?_; clear hK K
      refine hN1 _ _ _ ?_
      refine xc_two fun N2 hN2 => ?_
      refine xc_reg1 7 rfl fun K hK => ?_
      simp only [show (List.range 7).map (·, true) = [(0, true), (1, true), (2, true), (3, true), (4, true), (5, true), (6, true)] from rfl, rslv_cons, rslv_nil, List.getElem?_toArray, List.getElem?_cons_zero, List.getElem?_cons_succ, gres]
      iterate 7 (refine seqX_hide2 fun R hR => ?_; simp [go_sem]; refine hR _ _ _ ?_; clear hR R)
      rw [seqX_nil]
      refine hK _ _ _ ?_; clear hK K
      refine hN2 _ _ _ ?_
      refine xc_two fun N3 hN3 => ?_
      refine xc_reg1 2 rfl fun K hK => ?_
      simp only [show (List.range 2).map (·, true) = [(0, true), (1, true)] from rfl, rslv_cons, rslv_nil, List.getElem?_toArray, List.getElem?_cons_zero, List.getElem?_cons_succ, gres]
      iterate 2 (refine seqX_hide2 fun R hR => ?_; simp [go_sem]; refine hR _ _ _ ?_; clear hR R)
      rw [seqX_nil]
      refine hK _ _ _ ?_; clear hK K
      refine hN3 _ _ _ ?_
      simp [go_sem]
      simp [is63, ov]
    · have ht' : (t == 63) = false := by simp [ht]
      refine xcalls Try.func80 rfl (by simp [Try.ntmps80]) ?_
      simp only [Try.f80]
      have hP : Priv A (addrs []) := Priv.nil A
      show xc _ _ _ _ _ _ (ov A [])
      refine xc_two fun N1 hN1 => ?_
      refine xc_reg1 1 rfl fun K hK => ?_
      simp only [show (List.range 1).map (·, true) = [(0, true)] from rfl, rslv_cons, rslv_nil, List.getElem?_toArray, List.getElem?_cons_zero, List.getElem?_cons_succ, gres]
      (refine seqX_hide2 fun R hR => ?_; simp [go_sem, ht, ht']; refine hR _ _ _ ?_; clear hR R)
      rw [seqX_nil]
      refine hK _ _ _ ?_; clear hK K
      refine hN1 _ _ _ ?_
      refine xc_two fun N2 hN2 => ?_
      refine xc_reg1 7 rfl fun K hK => ?_
      simp only [show (List.range 7).map (·, true) = [(0, true), (1, true), (2, true), (3, true), (4, true), (5, true), (6, true)] from rfl, rslv_cons, rslv_nil, List.getElem?_toArray, List.getElem?_cons_zero, List.getElem?_cons_succ, gres]
      iterate 7 (refine seqX_hide2 fun R hR => ?_; simp [go_sem, ht, ht']; refine hR _ _ _ ?_; clear hR R)
      rw [seqX_nil]
      refine hK _ _ _ ?_; clear hK K
      refine hN2 _ _ _ ?_
      refine xc_two fun N3 hN3 => ?_
      refine xc_reg1 2 rfl fun K hK => ?_
      simp only [show (List.range 2).map (·, true) = [(0, true), (1, true)] from rfl, rslv_cons, rslv_nil, List.getElem?_toArray, List.getElem?_cons_zero, List.getElem?_cons_succ, gres]
      iterate 2 (refine seqX_hide2 fun R hR => ?_; simp [go_sem, ht, ht']; refine hR _ _ _ ?_; clear hR R)
      rw [seqX_nil]
      refine hK _ _ _ ?_; clear hK K
      refine hN3 _ _ _ ?_
      simp [go_sem, ht, ht']
      simp [is63, ht, ov]
set_option maxHeartbeats 1000000 in
theorem concat79 (A : View) (a b : ByteArray) (h : a.size + b.size + 1 ≤ 9223372036854775807) : VCalls Try.prog 79 #[.string a, .string b] A fun r A' => (∃ s, r = .string s ∧ s.size ≤ a.size + b.size + 1) ∧ A' = A := by
  cases he : a.toList.isEmpty with
  | true =>
    refine xcalls Try.func79 rfl (by simp [Try.ntmps79]) ?_
    simp only [Try.f79]
    have hP : Priv A (addrs []) := Priv.nil A
    show xc _ _ _ _ _ _ (ov A [])
    refine xc_two fun N1 hN1 => ?_
    refine xc_reg1 1 rfl fun K hK => ?_
    simp only [show (List.range 1).map (·, true) = [(0, true)] from rfl, rslv_cons, rslv_nil, List.getElem?_toArray, List.getElem?_cons_zero, List.getElem?_cons_succ, gres]
    (refine seqX_hide2 fun R hR => ?_; simp [go_sem, he]; refine hR _ _ _ ?_; clear hR R)
    rw [seqX_nil]
    refine hK _ _ _ ?_; clear hK K
    refine hN1 _ _ _ ?_
    refine xc_two fun N2 hN2 => ?_
    refine xc_two fun N3 hN3 => ?_
    refine xc_reg1 2 rfl fun K hK => ?_
    simp only [show (List.range 2).map (·, true) = [(0, true), (1, true)] from rfl, rslv_cons, rslv_nil, List.getElem?_toArray, List.getElem?_cons_zero, List.getElem?_cons_succ, gres]
    iterate 2 (refine seqX_hide2 fun R hR => ?_; simp [go_sem, he]; refine hR _ _ _ ?_; clear hR R)
    rw [seqX_nil]
    refine hK _ _ _ ?_; clear hK K
    refine hN3 _ _ _ ?_
    refine xc_iftrue (by simp [go_sem, he]) ?_
    refine xc_two fun N4 hN4 => ?_
    refine xc_reg1 2 rfl fun K hK => ?_
    simp only [show (List.range 2).map (·, true) = [(0, true), (1, true)] from rfl, rslv_cons, rslv_nil, List.getElem?_toArray, List.getElem?_cons_zero, List.getElem?_cons_succ, gres]
    iterate 2 (refine seqX_hide2 fun R hR => ?_; simp [go_sem, he]; refine hR _ _ _ ?_; clear hR R)
    rw [seqX_nil]
    refine hK _ _ _ ?_; clear hK K
    refine hN4 _ _ _ ?_
    simp [go_sem, he]
    exact ⟨by omega, rfl⟩
  | false =>
    have h1 : a.size + 1 ≤ 9223372036854775807 := by omega
    have h2 : a.size + 1 + b.size ≤ 9223372036854775807 := by omega
    have h1' : a.size ≤ 9223372036854775806 := by omega
    refine xcalls Try.func79 rfl (by simp [Try.ntmps79]) ?_
    simp only [Try.f79]
    have hP : Priv A (addrs []) := Priv.nil A
    show xc _ _ _ _ _ _ (ov A [])
    refine xc_two fun N1 hN1 => ?_
    refine xc_reg1 1 rfl fun K hK => ?_
    simp only [show (List.range 1).map (·, true) = [(0, true)] from rfl, rslv_cons, rslv_nil, List.getElem?_toArray, List.getElem?_cons_zero, List.getElem?_cons_succ, gres]
    (refine seqX_hide2 fun R hR => ?_; simp [go_sem, he, h1, h2, h1']; refine hR _ _ _ ?_; clear hR R)
    rw [seqX_nil]
    refine hK _ _ _ ?_; clear hK K
    refine hN1 _ _ _ ?_
    refine xc_two fun N2 hN2 => ?_
    refine xc_two fun N3 hN3 => ?_
    refine xc_reg1 2 rfl fun K hK => ?_
    simp only [show (List.range 2).map (·, true) = [(0, true), (1, true)] from rfl, rslv_cons, rslv_nil, List.getElem?_toArray, List.getElem?_cons_zero, List.getElem?_cons_succ, gres]
    iterate 2 (refine seqX_hide2 fun R hR => ?_; simp [go_sem, he, h1, h2, h1']; refine hR _ _ _ ?_; clear hR R)
    rw [seqX_nil]
    refine hK _ _ _ ?_; clear hK K
    refine hN3 _ _ _ ?_
    refine xc_iffalse (by simp [go_sem, he, h1, h2, h1']) ?_
    refine hN2 _ _ _ ?_
    refine xc_two fun N4 hN4 => ?_
    refine xc_reg1 5 rfl fun K hK => ?_
    simp only [show (List.range 5).map (·, true) = [(0, true), (1, true), (2, true), (3, true), (4, true)] from rfl, rslv_cons, rslv_nil, List.getElem?_toArray, List.getElem?_cons_zero, List.getElem?_cons_succ, gres]
    iterate 5 (refine seqX_hide2 fun R hR => ?_; simp [go_sem, he, h1, h2, h1']; refine hR _ _ _ ?_; clear hR R)
    rw [seqX_nil]
    refine hK _ _ _ ?_; clear hK K
    refine hN4 _ _ _ ?_
    simp [go_sem, he, h1, h2, h1']
    exact ⟨by omega, rfl⟩
/-- What table gives: no map for a null, and for a table a map of its own. -/
def TabW (A : View) (v : RV) (x : Value) (A' : View) : Prop := (kindOf v = 0 ∧ x = .map none) ∨ (kindOf v = 7 ∧ ∃ r F J, x = .map (some r) ∧ TF J A' r (at' v) F ∧ (∀ b, F b → A b = none ∧ A' b ≠ none ∧ ¬ J b) ∧ ∀ b, J b → A b = none ∧ A' b ≠ none)
set_option maxRecDepth 20000 in
set_option maxHeartbeats 4000000 in
theorem table36o (v : RV) (A : View) (c : Array Value) (lv : Nat) (hc : IsRV A v c) (hG : Good v lv) (hlv : lv ≤ 60) (hn : nodes v ≤ 2000) (hk : kindOf v = 0 ∨ kindOf v = 7) :
    VCalls Try.prog 36 #[.agg c] A fun r A' => ∃ x, r = .tuple #[x, .bool true] ∧ A ≤ A' ∧ TabW A v x A' := by
  have hcz := hc.size
  have hco := hc.ones
  have hck := hc.kind1
  refine xcalls Try.func36 rfl (by simp [Try.ntmps36]) ?_
  simp only [Try.f36]
  have hP : Priv A (addrs []) := Priv.nil A
  show xc _ _ _ _ _ _ (ov A [])
  refine xc_two fun N1 hN1 => ?_
  refine xc_reg1 3 rfl fun K hK => ?_
  simp only [show (List.range 3).map (·, true) = [(0, true), (1, true), (2, true)] from rfl, rslv_cons, rslv_nil, List.getElem?_toArray, List.getElem?_cons_zero, List.getElem?_cons_succ, gres]
  refine seqX_hide2 fun R hR => ?_
  simp [go_sem, hcz, hco]
  intro q1 hq1
  replace hP := hP.cons hq1
  clear hq1
  refine hR _ _ _ ?_; clear hR R
  iterate 2 (refine seqX_hide2 fun R hR => ?_; simp [go_sem, hcz, hco]; refine hR _ _ _ ?_; clear hR R)
  rw [seqX_nil]
  refine hK _ _ _ ?_; clear hK K
  refine hN1 _ _ _ ?_
  refine xc_two fun N2 hN2 => ?_
  refine xc_reg1 2 rfl fun K hK => ?_
  simp only [show (List.range 2).map (·, true) = [(0, true), (1, true)] from rfl, rslv_cons, rslv_nil, List.getElem?_toArray, List.getElem?_cons_zero, List.getElem?_cons_succ, gres]
  refine seqX_hide2 fun R hR => ?_
  simp [go_sem, hcz, hco]
  intro q4 hq4
  replace hP := hP.cons hq4
  clear hq4
  have d41 : q4 ≠ q1 := (hP.ne q1 (by simp [addrs])).1
  have d14 : q1 ≠ q4 := (hP.ne q1 (by simp [addrs])).2
  refine hR _ _ _ ?_; clear hR R
  refine seqX_hide2 fun R hR => ?_
  simp [go_sem, hcz, hco, d41, d14]
  refine hR _ _ _ ?_; clear hR R
  rw [seqX_nil]
  refine hK _ _ _ ?_; clear hK K
  refine hN2 _ _ _ ?_
  refine xc_two fun N3 hN3 => ?_
  refine xc_reg1 7 rfl fun K hK => ?_
  simp only [show (List.range 7).map (·, true) = [(0, true), (1, true), (2, true), (3, true), (4, true), (5, true), (6, true)] from rfl, rslv_cons, rslv_nil, List.getElem?_toArray, List.getElem?_cons_zero, List.getElem?_cons_succ, gres]
  (refine seqX_hide2 fun R hR => ?_; simp [go_sem, hcz, hco, d41, d14]; refine hR _ _ _ ?_; clear hR R)
  refine seqX_hide2 fun R hR => ?_
  simp [go_sem, hcz, hco, d41, d14]
  refine call_ctr (R' := fun v' D1 o' => ∃ x F J, v' = .tuple #[x, .bool true] ∧ OV J D1 v x F ∧ (∀ b, F b → A b = none ∧ D1 b ≠ none ∧ ¬ J b) ∧ ∀ b, J b → A b = none ∧ D1 b ≠ none) 0 hP rfl (View.le_refl _) (any63o v A c lv 0 q4 0 hc (hP.no (by simp [addrs])) hG (by omega) (by omega)) ?_ ?_
  · rintro v' E ⟨x, D1, F, J, rfl, h1, h2, rfl, h3, h4, h5⟩
    exact ⟨D1, _, rfl, h2, h1, x, F, J, rfl, h3, h4, h5⟩
  clear hP
  rintro _ D1 om D' ⟨x, F, J, rfl, hx, hF, hJ⟩ h01 h1D hKeep hDD hP
  simp only [List.set_cons_zero, List.set_cons_succ, addrs_cons, addrs_nil] at hP ⊢
  have hx := hx.le h1D
  have hF' : ∀ b, F b → A b = none ∧ D' b ≠ none ∧ ¬ J b := fun b hb => ⟨(hF b hb).1, fun hz => (hF b hb).2.1 (none_le h1D hz), (hF b hb).2.2⟩
  have hJ' : ∀ b, J b → A b = none ∧ D' b ≠ none := fun b hb => ⟨(hJ b hb).1, fun hz => (hJ b hb).2 (none_le h1D hz)⟩
  have hAD : A ≤ D' := View.le_trans h01 h1D
  rcases hx.cls with ⟨h0, rfl⟩ | ⟨h0, h7, _⟩ | ⟨h7, r, rfl, hT⟩
  · have hk0 : c[0]'(by omega) = .int .i64 0 := by rw [hck]; rw [h0]
    refine hR _ _ _ ?_; clear hR R
    iterate 5 (refine seqX_hide2 fun R hR => ?_; simp [go_sem, hcz, hco, d41, d14, hk0]; refine hR _ _ _ ?_; clear hR R)
    rw [seqX_nil]
    refine hK _ _ _ ?_; clear hK K
    refine hN3 _ _ _ ?_
    refine xc_two fun N4 hN4 => ?_
    refine xc_reg1 7 rfl fun K hK => ?_
    simp only [show (List.range 7).map (·, true) = [(0, true), (1, true), (2, true), (3, true), (4, true), (5, true), (6, true)] from rfl, rslv_cons, rslv_nil, List.getElem?_toArray, List.getElem?_cons_zero, List.getElem?_cons_succ, gres]
    iterate 7 (refine seqX_hide2 fun R hR => ?_; simp [go_sem, hcz, hco, d41, d14, hk0]; refine hR _ _ _ ?_; clear hR R)
    rw [seqX_nil]
    refine hK _ _ _ ?_; clear hK K
    refine hN4 _ _ _ ?_
    refine xc_two fun N5 hN5 => ?_
    rw [xc_draws]
    refine vdrawK [(0, true), (1, true), (2, true), (3, true), (4, true), (5, true), (6, true), (7, true), (8, true), (9, true), (10, true), (11, true)] (ov D' [(q4, om), (q1, .cells c 27 (0, 0))]) mixed (by kernel_rfl) (View.le_refl _) fun K hK => ?_
    simp only [rslv_cons, rslv_nil, List.getElem?_toArray, List.getElem?_cons_zero, List.getElem?_cons_succ, gres]
    iterate 12 (refine seqR_hide fun R hR => ?_; simp [go_sem, hcz, hco, d41, d14, hk0]; refine hR _ _ _ ?_; clear hR R)
    rw [seqR_nil]
    refine hK _ _ _ ?_; clear hK K
    refine hN5 _ _ _ ?_
    simp [go_sem, hcz, hco, d41, d14, hk0]
    refine ⟨View.le_trans hAD ?_, .inl ⟨h0, rfl⟩⟩
    exact le_ov hP
  · exfalso
    rcases hk with hk | hk
    · exact h0 hk
    · exact h7 hk
  · skip
    refine hR _ _ _ ?_; clear hR R
    iterate 5 (refine seqX_hide2 fun R hR => ?_; simp [go_sem, hcz, hco, d41, d14]; refine hR _ _ _ ?_; clear hR R)
    rw [seqX_nil]
    refine hK _ _ _ ?_; clear hK K
    refine hN3 _ _ _ ?_
    refine xc_two fun N4 hN4 => ?_
    refine xc_reg1 7 rfl fun K hK => ?_
    simp only [show (List.range 7).map (·, true) = [(0, true), (1, true), (2, true), (3, true), (4, true), (5, true), (6, true)] from rfl, rslv_cons, rslv_nil, List.getElem?_toArray, List.getElem?_cons_zero, List.getElem?_cons_succ, gres]
    iterate 7 (refine seqX_hide2 fun R hR => ?_; simp [go_sem, hcz, hco, d41, d14]; refine hR _ _ _ ?_; clear hR R)
    rw [seqX_nil]
    refine hK _ _ _ ?_; clear hK K
    refine hN4 _ _ _ ?_
    refine xc_two fun N5 hN5 => ?_
    rw [xc_draws]
    refine vdrawK [(0, true), (1, true), (2, true), (3, true), (4, true), (5, true), (6, true), (7, true), (8, true), (9, true), (10, true), (11, true)] (ov D' [(q4, om), (q1, .cells c 27 (0, 0))]) mixed (by kernel_rfl) (View.le_refl _) fun K hK => ?_
    simp only [rslv_cons, rslv_nil, List.getElem?_toArray, List.getElem?_cons_zero, List.getElem?_cons_succ, gres]
    iterate 12 (refine seqR_hide fun R hR => ?_; simp [go_sem, hcz, hco, d41, d14]; refine hR _ _ _ ?_; clear hR R)
    rw [seqR_nil]
    refine hK _ _ _ ?_; clear hK K
    refine hN5 _ _ _ ?_
    simp [go_sem, hcz, hco, d41, d14]
    have hle : D' ≤ ov D' [(q4, om), (q1, .cells c 27 (0, 0))] := le_ov hP
    exact ⟨View.le_trans hAD hle, .inr ⟨h7, r, F, J, rfl, hT.le hle, fun b hb => ⟨(hF' b hb).1, fun hz => (hF' b hb).2.1 (none_le hle hz), (hF' b hb).2.2⟩, fun b hb => ⟨(hJ' b hb).1, fun hz => (hJ' b hb).2 (none_le hle hz)⟩⟩⟩
end Go.Proofs.YtogfpbnbojhpoaaV

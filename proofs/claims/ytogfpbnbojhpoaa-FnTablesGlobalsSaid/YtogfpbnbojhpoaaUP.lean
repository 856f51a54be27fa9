/- Tables: FnTablesMerge. -/
import Derived.Test.YtogfpbnbojhpoaaUO
import Derived.Test.YtogfpbnbojhpoaaUN
namespace Go.Proofs.YtogfpbnbojhpoaaV
open Go.RowKit
set_option linter.unusedSimpArgs false
set_option linter.unusedVariables false
set_option maxRecDepth 20000 in
set_option maxHeartbeats 4000000 in
theorem merge4 (A : View) (v w : RV) (c c' : Array Value) (hc : IsRV A v c) (hc' : IsRV A w c') (hk : KB v) (hk' : KB w) : VCalls Try.prog 4 #[.agg c, .agg c'] A fun r A' => r = .bool true ∧ A ≤ A' := by
  have hcz := hc.size
  have hco := hc.ones
  have hcz' := hc'.size
  have hco' := hc'.ones
  refine xcalls Try.func4 rfl (by simp [Try.ntmps4]) ?_
  simp only [Try.f4]
  have hP : Priv A (addrs []) := Priv.nil A
  show xc _ _ _ _ _ _ (ov A [])
  refine xc_two fun N1 hN1 => ?_
  refine xc_reg1 3 rfl fun K hK => ?_
  simp only [show (List.range 3).map (·, true) = [(0, true), (1, true), (2, true)] from rfl, rslv_cons, rslv_nil, List.getElem?_toArray, List.getElem?_cons_zero, List.getElem?_cons_succ, gres]
  refine seqX_hide2 fun R hR => ?_
  simp [go_sem, hcz, hco, hcz', hco']
  intro q2 hq2
  replace hP := hP.cons hq2
  clear hq2
  refine hR _ _ _ ?_; clear hR R
  refine seqX_hide2 fun R hR => ?_
  simp [go_sem, hcz, hco, hcz', hco']
  intro q3 hq3
  replace hP := hP.cons hq3
  clear hq3
  have d32 : q3 ≠ q2 := (hP.ne q2 (by simp [addrs])).1
  have d23 : q2 ≠ q3 := (hP.ne q2 (by simp [addrs])).2
  refine hR _ _ _ ?_; clear hR R
  (refine seqX_hide2 fun R hR => ?_; simp [go_sem, hcz, hco, hcz', hco', d32, d23]; refine hR _ _ _ ?_; clear hR R)
  rw [seqX_nil]
  refine hK _ _ _ ?_; clear hK K
  refine hN1 _ _ _ ?_
  refine xc_two fun N2 hN2 => ?_
  refine xc_two fun N3 hN3 => ?_
  refine xc_reg1 8 rfl fun K hK => ?_
  simp only [show (List.range 8).map (·, true) = [(0, true), (1, true), (2, true), (3, true), (4, true), (5, true), (6, true), (7, true)] from rfl, rslv_cons, rslv_nil, List.getElem?_toArray, List.getElem?_cons_zero, List.getElem?_cons_succ, gres]
  (refine seqX_hide2 fun R hR => ?_; simp [go_sem, hcz, hco, hcz', hco', d32, d23]; refine hR _ _ _ ?_; clear hR R)
  refine seqX_hide2 fun R hR => ?_
  simp [go_sem, hcz, hco, hcz', hco', d32, d23]
  refine call_ov hP (fits10 A v c hc) ?_
  clear hP
  rintro _ A1 ⟨⟨x, rfl⟩, hA1⟩ hP
  cases x with
  | false =>
    refine hR _ _ _ ?_; clear hR R
    iterate 3 (refine seqX_hide2 fun R hR => ?_; simp [go_sem, hcz, hco, hcz', hco', d32, d23]; refine hR _ _ _ ?_; clear hR R)
    refine seqX_hide2 fun R hR => ?_
    simp [go_sem, hcz, hco, hcz', hco', d32, d23]
    refine hR _ _ _ ?_; clear hR R
    iterate 2 (refine seqX_hide2 fun R hR => ?_; simp [go_sem, hcz, hco, hcz', hco', d32, d23]; refine hR _ _ _ ?_; clear hR R)
    rw [seqX_nil]
    refine hK _ _ _ ?_; clear hK K
    refine hN3 _ _ _ ?_
    refine xc_iftrue (by simp [go_sem, hcz, hco, hcz', hco', d32, d23]) ?_
    refine xc_two fun N4 hN4 => ?_
    refine xc_reg1 1 rfl fun K hK => ?_
    simp only [show (List.range 1).map (·, true) = [(0, true)] from rfl, rslv_cons, rslv_nil, List.getElem?_toArray, List.getElem?_cons_zero, List.getElem?_cons_succ, gres]
    (refine seqX_hide2 fun R hR => ?_; simp [go_sem, hcz, hco, hcz', hco', d32, d23]; refine hR _ _ _ ?_; clear hR R)
    rw [seqX_nil]
    refine hK _ _ _ ?_; clear hK K
    refine hN4 _ _ _ ?_
    simp [go_sem, hcz, hco, hcz', hco', d32, d23]
    exact View.le_trans hA1 (le_ov hP)
  | true =>
  refine hR _ _ _ ?_; clear hR R
  iterate 3 (refine seqX_hide2 fun R hR => ?_; simp [go_sem, hcz, hco, hcz', hco', d32, d23]; refine hR _ _ _ ?_; clear hR R)
  refine seqX_hide2 fun R hR => ?_
  simp [go_sem, hcz, hco, hcz', hco', d32, d23]
  refine call_ov hP (fits10 A1 w c' (hc'.le hA1)) ?_
  clear hP
  rintro _ A2 ⟨⟨x, rfl⟩, hA2⟩ hP
  cases x with
  | false =>
    refine hR _ _ _ ?_; clear hR R
    iterate 2 (refine seqX_hide2 fun R hR => ?_; simp [go_sem, hcz, hco, hcz', hco', d32, d23]; refine hR _ _ _ ?_; clear hR R)
    rw [seqX_nil]
    refine hK _ _ _ ?_; clear hK K
    refine hN3 _ _ _ ?_
    refine xc_iftrue (by simp [go_sem, hcz, hco, hcz', hco', d32, d23]) ?_
    refine xc_two fun N4 hN4 => ?_
    refine xc_reg1 1 rfl fun K hK => ?_
    simp only [show (List.range 1).map (·, true) = [(0, true)] from rfl, rslv_cons, rslv_nil, List.getElem?_toArray, List.getElem?_cons_zero, List.getElem?_cons_succ, gres]
    (refine seqX_hide2 fun R hR => ?_; simp [go_sem, hcz, hco, hcz', hco', d32, d23]; refine hR _ _ _ ?_; clear hR R)
    rw [seqX_nil]
    refine hK _ _ _ ?_; clear hK K
    refine hN4 _ _ _ ?_
    simp [go_sem, hcz, hco, hcz', hco', d32, d23]
    exact View.le_trans (View.le_trans hA1 hA2) (le_ov hP)
  | true =>
  refine hR _ _ _ ?_; clear hR R
  iterate 2 (refine seqX_hide2 fun R hR => ?_; simp [go_sem, hcz, hco, hcz', hco', d32, d23]; refine hR _ _ _ ?_; clear hR R)
  rw [seqX_nil]
  refine hK _ _ _ ?_; clear hK K
  refine hN3 _ _ _ ?_
  refine xc_iffalse (by simp [go_sem, hcz, hco, hcz', hco', d32, d23]) ?_
  refine hN2 _ _ _ ?_
  refine xc_two fun N4 hN4 => ?_
  refine xc_two fun N5 hN5 => ?_
  refine xc_reg1 8 rfl fun K hK => ?_
  simp only [show (List.range 8).map (·, true) = [(0, true), (1, true), (2, true), (3, true), (4, true), (5, true), (6, true), (7, true)] from rfl, rslv_cons, rslv_nil, List.getElem?_toArray, List.getElem?_cons_zero, List.getElem?_cons_succ, gres]
  (refine seqX_hide2 fun R hR => ?_; simp [go_sem, hcz, hco, hcz', hco', d32, d23]; refine hR _ _ _ ?_; clear hR R)
  refine seqX_hide2 fun R hR => ?_
  simp [go_sem, hcz, hco, hcz', hco', d32, d23]
  have hA := View.le_trans hA1 hA2
  refine call_ov hP (tbTable12 A2 v c (hc.le hA)) ?_
  clear hP
  rintro _ A3 ⟨⟨x, rfl, hx⟩, hA3⟩ hP
  have hA := View.le_trans hA hA3
  cases x with
  | false =>
    refine hR _ _ _ ?_; clear hR R
    iterate 3 (refine seqX_hide2 fun R hR => ?_; simp [go_sem, hcz, hco, hcz', hco', d32, d23]; refine hR _ _ _ ?_; clear hR R)
    refine seqX_hide2 fun R hR => ?_
    simp [go_sem, hcz, hco, hcz', hco', d32, d23]
    refine hR _ _ _ ?_; clear hR R
    iterate 2 (refine seqX_hide2 fun R hR => ?_; simp [go_sem, hcz, hco, hcz', hco', d32, d23]; refine hR _ _ _ ?_; clear hR R)
    rw [seqX_nil]
    refine hK _ _ _ ?_; clear hK K
    refine hN5 _ _ _ ?_
    refine xc_iftrue (by simp [go_sem, hcz, hco, hcz', hco', d32, d23]) ?_
    refine xc_two fun N6 hN6 => ?_
    refine xc_reg1 1 rfl fun K hK => ?_
    simp only [show (List.range 1).map (·, true) = [(0, true)] from rfl, rslv_cons, rslv_nil, List.getElem?_toArray, List.getElem?_cons_zero, List.getElem?_cons_succ, gres]
    (refine seqX_hide2 fun R hR => ?_; simp [go_sem, hcz, hco, hcz', hco', d32, d23]; refine hR _ _ _ ?_; clear hR R)
    rw [seqX_nil]
    refine hK _ _ _ ?_; clear hK K
    refine hN6 _ _ _ ?_
    simp [go_sem, hcz, hco, hcz', hco', d32, d23]
    exact View.le_trans hA (le_ov hP)
  | true =>
  obtain ⟨h71, hG, hn⟩ := hx rfl
  refine hR _ _ _ ?_; clear hR R
  iterate 3 (refine seqX_hide2 fun R hR => ?_; simp [go_sem, hcz, hco, hcz', hco', d32, d23]; refine hR _ _ _ ?_; clear hR R)
  refine seqX_hide2 fun R hR => ?_
  simp [go_sem, hcz, hco, hcz', hco', d32, d23]
  refine call_ov hP (tbTable12 A3 w c' (hc'.le hA)) ?_
  clear hP
  rintro _ A4 ⟨⟨x, rfl, hx⟩, hA4⟩ hP
  have hA := View.le_trans hA hA4
  cases x with
  | false =>
    refine hR _ _ _ ?_; clear hR R
    iterate 2 (refine seqX_hide2 fun R hR => ?_; simp [go_sem, hcz, hco, hcz', hco', d32, d23]; refine hR _ _ _ ?_; clear hR R)
    rw [seqX_nil]
    refine hK _ _ _ ?_; clear hK K
    refine hN5 _ _ _ ?_
    refine xc_iftrue (by simp [go_sem, hcz, hco, hcz', hco', d32, d23]) ?_
    refine xc_two fun N6 hN6 => ?_
    refine xc_reg1 1 rfl fun K hK => ?_
    simp only [show (List.range 1).map (·, true) = [(0, true)] from rfl, rslv_cons, rslv_nil, List.getElem?_toArray, List.getElem?_cons_zero, List.getElem?_cons_succ, gres]
    (refine seqX_hide2 fun R hR => ?_; simp [go_sem, hcz, hco, hcz', hco', d32, d23]; refine hR _ _ _ ?_; clear hR R)
    rw [seqX_nil]
    refine hK _ _ _ ?_; clear hK K
    refine hN6 _ _ _ ?_
    simp [go_sem, hcz, hco, hcz', hco', d32, d23]
    exact View.le_trans hA (le_ov hP)
  | true =>
  obtain ⟨h72, hG', hn'⟩ := hx rfl
  refine hR _ _ _ ?_; clear hR R
  iterate 2 (refine seqX_hide2 fun R hR => ?_; simp [go_sem, hcz, hco, hcz', hco', d32, d23]; refine hR _ _ _ ?_; clear hR R)
  rw [seqX_nil]
  refine hK _ _ _ ?_; clear hK K
  refine hN5 _ _ _ ?_
  refine xc_iffalse (by simp [go_sem, hcz, hco, hcz', hco', d32, d23]) ?_
  refine hN4 _ _ _ ?_
  refine xc_two fun N6 hN6 => ?_
  refine xc_reg1 9 rfl fun K hK => ?_
  simp only [show (List.range 9).map (·, true) = [(0, true), (1, true), (2, true), (3, true), (4, true), (5, true), (6, true), (7, true), (8, true)] from rfl, rslv_cons, rslv_nil, List.getElem?_toArray, List.getElem?_cons_zero, List.getElem?_cons_succ, gres]
  iterate 2 (refine seqX_hide2 fun R hR => ?_; simp [go_sem, hcz, hco, hcz', hco', d32, d23]; refine hR _ _ _ ?_; clear hR R)
  refine seqX_hide2 fun R hR => ?_
  simp [go_sem, hcz, hco, hcz', hco', d32, d23]
  refine call_ov hP (join16o A4 v w c c' (hc.le hA) (hc'.le hA) h71 h72 hG hG' (by omega) (by omega) hk hk') ?_
  clear hP
  rintro _ A5 ⟨c2, rfl, hA5, hc2⟩ hP
  have hA := View.le_trans hA hA5
  obtain ⟨hGc, hnc⟩ := good_coalR true w v 50 h71 h72 hG hG'
  have hnn := nodes_norm (coalR v true w)
  refine hR _ _ _ ?_; clear hR R
  iterate 3 (refine seqX_hide2 fun R hR => ?_; simp [go_sem, hcz, hco, hcz', hco', d32, d23, hc2.size, hc2.ones]; refine hR _ _ _ ?_; clear hR R)
  refine seqX_hide2 fun R hR => ?_
  simp [go_sem, hcz, hco, hcz', hco', d32, d23, hc2.size, hc2.ones]
  intro q5 hq5
  replace hP := hP.cons hq5
  clear hq5
  have d53 : q5 ≠ q3 := (hP.ne q3 (by simp [addrs])).1
  have d35 : q3 ≠ q5 := (hP.ne q3 (by simp [addrs])).2
  have d52 : q5 ≠ q2 := (hP.ne q2 (by simp [addrs])).1
  have d25 : q2 ≠ q5 := (hP.ne q2 (by simp [addrs])).2
  refine hR _ _ _ ?_; clear hR R
  refine seqX_hide2 fun R hR => ?_
  simp [go_sem, hcz, hco, hcz', hco', d32, d23, hc2.size, hc2.ones, d53, d35, d52, d25]
  refine hR _ _ _ ?_; clear hR R
  (refine seqX_hide2 fun R hR => ?_; simp [go_sem, hcz, hco, hcz', hco', d32, d23, hc2.size, hc2.ones, d53, d35, d52, d25]; refine hR _ _ _ ?_; clear hR R)
  rw [seqX_nil]
  refine hK _ _ _ ?_; clear hK K
  refine hN6 _ _ _ ?_
  refine xc_two fun N7 hN7 => ?_
  rw [xc_draws]
  refine vdrawK [(0, true), (1, true), (2, true), (3, true), (4, true), (5, false), (6, true)] (ov A5 [(q5, .cells c2 27 (0, 0)), (q3, .cells c' 27 (0, 0)), (q2, .cells c 27 (0, 0))]) mixed (by kernel_rfl) (View.le_refl _) fun K hK => ?_
  simp only [rslv_cons, rslv_nil, List.getElem?_toArray, List.getElem?_cons_zero, List.getElem?_cons_succ, gres]
  iterate 4 (refine seqR_hide fun R hR => ?_; simp [go_sem, hcz, hco, hcz', hco', d32, d23, hc2.size, hc2.ones, d53, d35, d52, d25]; refine hR _ _ _ ?_; clear hR R)
  refine seqR_hide fun R hR => ?_
  simp [go_sem, hcz, hco, hcz', hco', d32, d23, hc2.size, hc2.ones, d53, d35, d52, d25]
  refine call_ov hP (coal18 w A5 v c c' 50 50 true (hc.le hA) (hc'.le hA) hG hG' (by omega) (by omega) (.inr h71) (.inr h72)) ?_
  clear hP
  rintro _ A6 ⟨c3, rfl, hA6, hc3⟩ hP
  refine ⟨ov_mono hA6, hR _ _ _ ?_⟩; clear hR R
  refine seqR_hide fun R hR => ?_
  simp [go_sem, hcz, hco, hcz', hco', d32, d23, hc2.size, hc2.ones, d53, d35, d52, d25]
  refine call_ov hP (tbGot17 A6 (norm (coalR v true w)) (coalR v true w) c2 c3 50 50 (hc2.le hA6) hc3 (good_norm _ 50 hGc) hGc (norm_norm _) (by omega)) ?_
  clear hP
  rintro _ A7 ⟨rfl, hA7⟩ hP
  refine hR _ _ _ ?_; clear hR R
  (refine seqR_hide fun R hR => ?_; simp [go_sem, hcz, hco, hcz', hco', d32, d23, hc2.size, hc2.ones, d53, d35, d52, d25]; refine hR _ _ _ ?_; clear hR R)
  rw [seqR_nil]
  refine hK _ _ _ ?_; clear hK K
  refine hN7 _ _ _ ?_
  simp [go_sem, hcz, hco, hcz', hco', d32, d23, hc2.size, hc2.ones, d53, d35, d52, d25]
  exact View.le_trans (View.le_trans hA (View.le_trans hA6 hA7)) (le_ov hP)
theorem law4 (W : World) (c : Array Value) (v : RV) (o : IsRV (full W) v c ∧ KB v) (c' : Array Value) (w : RV) (o' : IsRV (full W) w c' ∧ KB w) : VCalls Try.prog 4 #[.agg c, .agg c'] (full W) fun r A' => r = .bool true ∧ full W ≤ A' :=
  merge4 (full W) v w c c' o.1 o'.1 o.2 o'.2
end Go.Proofs.YtogfpbnbojhpoaaV

/- Trees: a list of one. -/
import Derived.Test.YtpinamipjddobaaKE
namespace Go.Proofs.YtpinamipjddobaaV
open Go.RowKit
set_option linter.unusedSimpArgs false
set_option linter.unusedVariables false
theorem one11 (A : View) (t : Tr) (c : Array Value) (hc : IsTr A t c) : VCalls Try.prog 18 #[.agg c] A fun r A' => Trs A' r [t] ∧ A ≤ A' := by
  have hcz := hc.size
  have hco := hc.ones
  refine xcalls Try.func18 rfl (by simp [Try.ntmps18]) ?_
  simp only [Try.f18]
  have hP : Priv A (addrs []) := Priv.nil A
  show xc _ _ _ _ _ _ (ov A [])
  refine xc_two fun N1 hN1 => ?_
  refine xc_reg2 fun K hK => ?_
  simp only [rall, rsl, gres]
  refine seqX_hide2 fun R hR => ?_
  simp [go_sem, hcz, hco]
  intro q1 hq1
  replace hP := hP.cons hq1
  clear hq1
  refine hR _ _ _ ?_; clear hR R
  (refine seqX_hide2 fun R hR => ?_; simp [go_sem, hcz, hco]; refine hR _ _ _ ?_; clear hR R)
  rw [seqX_nil]
  refine hK _ _ _ ?_; clear hK K
  refine hN1 _ _ _ ?_
  refine xc_two fun N2 hN2 => ?_
  refine xc_reg2 fun K hK => ?_
  simp only [rall, rsl, gres]
  (refine seqX_hide2 fun R hR => ?_; simp [go_sem, hcz, hco]; refine hR _ _ _ ?_; clear hR R)
  refine seqX_hide2 fun R hR => ?_
  simp [go_sem, hcz, hco]
  intro q4 hq4
  replace hP := hP.cons hq4
  clear hq4
  have d41 : q4 ≠ q1 := (hP.ne q1 (by simp [addrs])).1
  have d14 : q1 ≠ q4 := (hP.ne q1 (by simp [addrs])).2
  refine hR _ _ _ ?_; clear hR R
  (refine seqX_hide2 fun R hR => ?_; simp [go_sem, hcz, hco, d41, d14]; refine hR _ _ _ ?_; clear hR R)
  rw [seqX_nil]
  refine hK _ _ _ ?_; clear hK K
  refine hN2 _ _ _ ?_
  refine sink_goal 0 hP rfl fun hPn lq4 nq4 => ?_
  clear hP; have hP := hPn; clear hPn
  simp only [List.eraseIdx_cons_zero, List.eraseIdx_cons_succ, addrs_cons, addrs_nil] at hP ⊢
  have h4 : (A.set q4 (.cells c 24 (0, 0))) q4 = some (.cells c 24 (0, 0)) := set_at _ _ _
  simp [go_sem, hcz, hco, d41, d14]
  refine ⟨Trs.le ?_ (Trs.one h4 (IsTr.le lq4 _ _ hc)), View.le_trans lq4 ?_⟩
  · exact le_ov hP
  · exact le_ov hP
end Go.Proofs.YtpinamipjddobaaV

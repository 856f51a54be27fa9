/- Trees: spec.IsNull. -/
import Derived.Test.YtpinamipjddobaaKI0
namespace Go.Proofs.YtpinamipjddobaaV
open Go.RowKit
set_option linter.unusedSimpArgs false
set_option linter.unusedVariables false
set_option maxRecDepth 20000 in
theorem isNull16 (A : View) (t : Tr) (c : Array Value) (hc : IsTr A t c) : VCalls Try.prog 16 #[.agg c] A fun r A' => (∃ b, r = .bool b ∧ (b = false → ¬ (t.kind = 8 ∧ t.tag = tNull))) ∧ A ≤ A' := by
  obtain ⟨k, st, tag, val, an, h, l, f, row, col, al, kids, rfl⟩ := t.ex
  obtain ⟨bb, bc0, rfl, -⟩ := hc.open
  refine xcalls Try.func16 rfl (by simp [Try.ntmps16]) ?_
  simp only [Try.f16]
  have hP : Priv A (addrs []) := Priv.nil A
  show xc _ _ _ _ _ _ (ov A [])
  by_cases hk : k = 8
  rotate_left
  · have hkb : (k == 8) = false := beq_eq_false_iff_ne.2 hk
    refine xc_two fun N1 hN1 => ?_
    refine xc_reg2 fun K hK => ?_
    simp only [rall, rsl, gres]
    refine seqX_hide2 fun R hR => ?_
    simp [go_sem, hk, hkb]
    intro q1 hq1
    replace hP := hP.cons hq1
    clear hq1
    refine hR _ _ _ ?_; clear hR R
    (refine seqX_hide2 fun R hR => ?_; simp [go_sem, hk, hkb]; refine hR _ _ _ ?_; clear hR R)
    rw [seqX_nil]
    refine hK _ _ _ ?_; clear hK K
    refine hN1 _ _ _ ?_
    refine xc_two fun N2 hN2 => ?_
    refine xc_reg2 fun K hK => ?_
    simp only [rall, rsl, gres]
    iterate 9 (refine seqX_hide2 fun R hR => ?_; simp [go_sem, hk, hkb]; refine hR _ _ _ ?_; clear hR R)
    rw [seqX_nil]
    refine hK _ _ _ ?_; clear hK K
    refine hN2 _ _ _ ?_
    simp [go_sem, hk, hkb]
    exact ⟨fun e => absurd e hk, le_ov hP⟩
  subst hk
  by_cases ht : tag = tNull
  · have ht' : tag.toList = [33, 33, 110, 117, 108, 108] := by rw [ht]; kernel_rfl
    refine xc_two fun N1 hN1 => ?_
    refine xc_reg2 fun K hK => ?_
    simp only [rall, rsl, gres]
    refine seqX_hide2 fun R hR => ?_
    simp [go_sem, ht']
    intro q1 hq1
    replace hP := hP.cons hq1
    clear hq1
    refine hR _ _ _ ?_; clear hR R
    (refine seqX_hide2 fun R hR => ?_; simp [go_sem, ht']; refine hR _ _ _ ?_; clear hR R)
    rw [seqX_nil]
    refine hK _ _ _ ?_; clear hK K
    refine hN1 _ _ _ ?_
    refine xc_two fun N2 hN2 => ?_
    refine xc_reg2 fun K hK => ?_
    simp only [rall, rsl, gres]
    iterate 9 (refine seqX_hide2 fun R hR => ?_; simp [go_sem, ht']; refine hR _ _ _ ?_; clear hR R)
    rw [seqX_nil]
    refine hK _ _ _ ?_; clear hK K
    refine hN2 _ _ _ ?_
    simp [go_sem, ht']
    exact le_ov hP
  have ht' : ¬ tag.toList = [33, 33, 110, 117, 108, 108] := fun e => bytes_ne ht (e.trans (by kernel_rfl))
  refine xc_two fun N1 hN1 => ?_
  refine xc_reg2 fun K hK => ?_
  simp only [rall, rsl, gres]
  refine seqX_hide2 fun R hR => ?_
  simp [go_sem, ht']
  intro q1 hq1
  replace hP := hP.cons hq1
  clear hq1
  refine hR _ _ _ ?_; clear hR R
  (refine seqX_hide2 fun R hR => ?_; simp [go_sem, ht']; refine hR _ _ _ ?_; clear hR R)
  rw [seqX_nil]
  refine hK _ _ _ ?_; clear hK K
  refine hN1 _ _ _ ?_
  refine xc_two fun N2 hN2 => ?_
  refine xc_reg2 fun K hK => ?_
  simp only [rall, rsl, gres]
  iterate 9 (refine seqX_hide2 fun R hR => ?_; simp [go_sem, ht']; refine hR _ _ _ ?_; clear hR R)
  rw [seqX_nil]
  refine hK _ _ _ ?_; clear hK K
  refine hN2 _ _ _ ?_
  simp [go_sem, ht']
  exact ⟨fun _ e => ht e, le_ov hP⟩
end Go.Proofs.YtpinamipjddobaaV

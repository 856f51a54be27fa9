/- Trees: laws.zzFits8. -/
import Derived.Test.YtpinamipjddobaaKY
namespace Go.Proofs.YtpinamipjddobaaV
open Go.RowKit
set_option linter.unusedSimpArgs false
set_option linter.unusedVariables false
set_option maxRecDepth 20000 in
theorem fits8 (A : View) (t : Tr) (c : Array Value) (hc : IsTr A t c) : VCalls Try.prog 12 #[.agg c] A fun r A' => FB (t.kids.length ≤ 2147483647) r ∧ A ≤ A' := by
  obtain ⟨k, st, tag, val, an, h, l, f, row, col, al, kids, rfl⟩ := t.ex
  obtain ⟨bb, bc0, rfl, -⟩ := hc.open
  refine xcalls Try.func12 rfl (by simp [Try.ntmps12]) ?_
  simp only [Try.f12]
  have hP : Priv A (addrs []) := Priv.nil A
  show xc _ _ _ _ _ _ (ov A [])
  by_cases h0 : tag.size ≤ 2147483647
  rotate_left
  · have z0 : (2147483647 : Int) < tag.size := by omega
    refine xc_two fun N1 hN1 => ?_
    refine xc_reg2 fun K hK => ?_
    simp only [rall, rsl, gres]
    refine seqX_hide2 fun R hR => ?_
    simp [go_sem, z0]
    intro q1 hq1
    replace hP := hP.cons hq1
    clear hq1
    refine hR _ _ _ ?_; clear hR R
    (refine seqX_hide2 fun R hR => ?_; simp [go_sem, z0]; refine hR _ _ _ ?_; clear hR R)
    rw [seqX_nil]
    refine hK _ _ _ ?_; clear hK K
    refine hN1 _ _ _ ?_
    refine xc_two fun N2 hN2 => ?_
    refine xc_two fun N3 hN3 => ?_
    refine xc_reg2 fun K hK => ?_
    simp only [rall, rsl, gres]
    iterate 4 (refine seqX_hide2 fun R hR => ?_; simp [go_sem, z0]; refine hR _ _ _ ?_; clear hR R)
    rw [seqX_nil]
    refine hK _ _ _ ?_; clear hK K
    refine hN3 _ _ _ ?_
    refine xc_iftrue (by simp [go_sem, z0]) ?_
    refine xc_two fun N4 hN4 => ?_
    refine xc_reg2 fun K hK => ?_
    simp only [rall, rsl, gres]
    (refine seqX_hide2 fun R hR => ?_; simp [go_sem, z0]; refine hR _ _ _ ?_; clear hR R)
    rw [seqX_nil]
    refine hK _ _ _ ?_; clear hK K
    refine hN4 _ _ _ ?_
    simp [go_sem, z0]
    exact ⟨FB.no _, le_ov hP⟩
  have z0 : ¬ (2147483647 : Int) < tag.size := by omega
  by_cases h1 : val.size ≤ 2147483647
  rotate_left
  · have z1 : (2147483647 : Int) < val.size := by omega
    refine xc_two fun N1 hN1 => ?_
    refine xc_reg2 fun K hK => ?_
    simp only [rall, rsl, gres]
    refine seqX_hide2 fun R hR => ?_
    simp [go_sem, z0, z1]
    intro q1 hq1
    replace hP := hP.cons hq1
    clear hq1
    refine hR _ _ _ ?_; clear hR R
    (refine seqX_hide2 fun R hR => ?_; simp [go_sem, z0, z1]; refine hR _ _ _ ?_; clear hR R)
    rw [seqX_nil]
    refine hK _ _ _ ?_; clear hK K
    refine hN1 _ _ _ ?_
    refine xc_two fun N2 hN2 => ?_
    refine xc_two fun N3 hN3 => ?_
    refine xc_reg2 fun K hK => ?_
    simp only [rall, rsl, gres]
    iterate 4 (refine seqX_hide2 fun R hR => ?_; simp [go_sem, z0, z1]; refine hR _ _ _ ?_; clear hR R)
    rw [seqX_nil]
    refine hK _ _ _ ?_; clear hK K
    refine hN3 _ _ _ ?_
    refine xc_iffalse (by simp [go_sem, z0, z1]) ?_
    refine hN2 _ _ _ ?_
    refine xc_two fun N4 hN4 => ?_
    refine xc_two fun N5 hN5 => ?_
    refine xc_reg2 fun K hK => ?_
    simp only [rall, rsl, gres]
    iterate 4 (refine seqX_hide2 fun R hR => ?_; simp [go_sem, z0, z1]; refine hR _ _ _ ?_; clear hR R)
    rw [seqX_nil]
    refine hK _ _ _ ?_; clear hK K
    refine hN5 _ _ _ ?_
    refine xc_iftrue (by simp [go_sem, z0, z1]) ?_
    refine xc_two fun N6 hN6 => ?_
    refine xc_reg2 fun K hK => ?_
    simp only [rall, rsl, gres]
    (refine seqX_hide2 fun R hR => ?_; simp [go_sem, z0, z1]; refine hR _ _ _ ?_; clear hR R)
    rw [seqX_nil]
    refine hK _ _ _ ?_; clear hK K
    refine hN6 _ _ _ ?_
    simp [go_sem, z0, z1]
    exact ⟨FB.no _, le_ov hP⟩
  have z1 : ¬ (2147483647 : Int) < val.size := by omega
  by_cases h2 : an.size ≤ 2147483647
  rotate_left
  · have z2 : (2147483647 : Int) < an.size := by omega
    refine xc_two fun N1 hN1 => ?_
    refine xc_reg2 fun K hK => ?_
    simp only [rall, rsl, gres]
    refine seqX_hide2 fun R hR => ?_
    simp [go_sem, z0, z1, z2]
    intro q1 hq1
    replace hP := hP.cons hq1
    clear hq1
    refine hR _ _ _ ?_; clear hR R
    (refine seqX_hide2 fun R hR => ?_; simp [go_sem, z0, z1, z2]; refine hR _ _ _ ?_; clear hR R)
    rw [seqX_nil]
    refine hK _ _ _ ?_; clear hK K
    refine hN1 _ _ _ ?_
    refine xc_two fun N2 hN2 => ?_
    refine xc_two fun N3 hN3 => ?_
    refine xc_reg2 fun K hK => ?_
    simp only [rall, rsl, gres]
    iterate 4 (refine seqX_hide2 fun R hR => ?_; simp [go_sem, z0, z1, z2]; refine hR _ _ _ ?_; clear hR R)
    rw [seqX_nil]
    refine hK _ _ _ ?_; clear hK K
    refine hN3 _ _ _ ?_
    refine xc_iffalse (by simp [go_sem, z0, z1, z2]) ?_
    refine hN2 _ _ _ ?_
    refine xc_two fun N4 hN4 => ?_
    refine xc_two fun N5 hN5 => ?_
    refine xc_reg2 fun K hK => ?_
    simp only [rall, rsl, gres]
    iterate 4 (refine seqX_hide2 fun R hR => ?_; simp [go_sem, z0, z1, z2]; refine hR _ _ _ ?_; clear hR R)
    rw [seqX_nil]
    refine hK _ _ _ ?_; clear hK K
    refine hN5 _ _ _ ?_
    refine xc_iffalse (by simp [go_sem, z0, z1, z2]) ?_
    refine hN4 _ _ _ ?_
    refine xc_two fun N6 hN6 => ?_
    refine xc_two fun N7 hN7 => ?_
    refine xc_reg2 fun K hK => ?_
    simp only [rall, rsl, gres]
    iterate 4 (refine seqX_hide2 fun R hR => ?_; simp [go_sem, z0, z1, z2]; refine hR _ _ _ ?_; clear hR R)
    rw [seqX_nil]
    refine hK _ _ _ ?_; clear hK K
    refine hN7 _ _ _ ?_
    refine xc_iftrue (by simp [go_sem, z0, z1, z2]) ?_
    refine xc_two fun N8 hN8 => ?_
    refine xc_reg2 fun K hK => ?_
    simp only [rall, rsl, gres]
    (refine seqX_hide2 fun R hR => ?_; simp [go_sem, z0, z1, z2]; refine hR _ _ _ ?_; clear hR R)
    rw [seqX_nil]
    refine hK _ _ _ ?_; clear hK K
    refine hN8 _ _ _ ?_
    simp [go_sem, z0, z1, z2]
    exact ⟨FB.no _, le_ov hP⟩
  have z2 : ¬ (2147483647 : Int) < an.size := by omega
  by_cases h3 : h.size ≤ 2147483647
  rotate_left
  · have z3 : (2147483647 : Int) < h.size := by omega
    refine xc_two fun N1 hN1 => ?_
    refine xc_reg2 fun K hK => ?_
    simp only [rall, rsl, gres]
    refine seqX_hide2 fun R hR => ?_
    simp [go_sem, z0, z1, z2, z3]
    intro q1 hq1
    replace hP := hP.cons hq1
    clear hq1
    refine hR _ _ _ ?_; clear hR R
    (refine seqX_hide2 fun R hR => ?_; simp [go_sem, z0, z1, z2, z3]; refine hR _ _ _ ?_; clear hR R)
    rw [seqX_nil]
    refine hK _ _ _ ?_; clear hK K
    refine hN1 _ _ _ ?_
    refine xc_two fun N2 hN2 => ?_
    refine xc_two fun N3 hN3 => ?_
    refine xc_reg2 fun K hK => ?_
    simp only [rall, rsl, gres]
    iterate 4 (refine seqX_hide2 fun R hR => ?_; simp [go_sem, z0, z1, z2, z3]; refine hR _ _ _ ?_; clear hR R)
    rw [seqX_nil]
    refine hK _ _ _ ?_; clear hK K
    refine hN3 _ _ _ ?_
    refine xc_iffalse (by simp [go_sem, z0, z1, z2, z3]) ?_
    refine hN2 _ _ _ ?_
    refine xc_two fun N4 hN4 => ?_
    refine xc_two fun N5 hN5 => ?_
    refine xc_reg2 fun K hK => ?_
    simp only [rall, rsl, gres]
    iterate 4 (refine seqX_hide2 fun R hR => ?_; simp [go_sem, z0, z1, z2, z3]; refine hR _ _ _ ?_; clear hR R)
    rw [seqX_nil]
    refine hK _ _ _ ?_; clear hK K
    refine hN5 _ _ _ ?_
    refine xc_iffalse (by simp [go_sem, z0, z1, z2, z3]) ?_
    refine hN4 _ _ _ ?_
    refine xc_two fun N6 hN6 => ?_
    refine xc_two fun N7 hN7 => ?_
    refine xc_reg2 fun K hK => ?_
    simp only [rall, rsl, gres]
    iterate 4 (refine seqX_hide2 fun R hR => ?_; simp [go_sem, z0, z1, z2, z3]; refine hR _ _ _ ?_; clear hR R)
    rw [seqX_nil]
    refine hK _ _ _ ?_; clear hK K
    refine hN7 _ _ _ ?_
    refine xc_iffalse (by simp [go_sem, z0, z1, z2, z3]) ?_
    refine hN6 _ _ _ ?_
    refine xc_two fun N8 hN8 => ?_
    refine xc_two fun N9 hN9 => ?_
    refine xc_reg2 fun K hK => ?_
    simp only [rall, rsl, gres]
    iterate 4 (refine seqX_hide2 fun R hR => ?_; simp [go_sem, z0, z1, z2, z3]; refine hR _ _ _ ?_; clear hR R)
    rw [seqX_nil]
    refine hK _ _ _ ?_; clear hK K
    refine hN9 _ _ _ ?_
    refine xc_iftrue (by simp [go_sem, z0, z1, z2, z3]) ?_
    refine xc_two fun N10 hN10 => ?_
    refine xc_reg2 fun K hK => ?_
    simp only [rall, rsl, gres]
    (refine seqX_hide2 fun R hR => ?_; simp [go_sem, z0, z1, z2, z3]; refine hR _ _ _ ?_; clear hR R)
    rw [seqX_nil]
    refine hK _ _ _ ?_; clear hK K
    refine hN10 _ _ _ ?_
    simp [go_sem, z0, z1, z2, z3]
    exact ⟨FB.no _, le_ov hP⟩
  have z3 : ¬ (2147483647 : Int) < h.size := by omega
  by_cases h4 : l.size ≤ 2147483647
  rotate_left
  · have z4 : (2147483647 : Int) < l.size := by omega
    refine xc_two fun N1 hN1 => ?_
    refine xc_reg2 fun K hK => ?_
    simp only [rall, rsl, gres]
    refine seqX_hide2 fun R hR => ?_
    simp [go_sem, z0, z1, z2, z3, z4]
    intro q1 hq1
    replace hP := hP.cons hq1
    clear hq1
    refine hR _ _ _ ?_; clear hR R
    (refine seqX_hide2 fun R hR => ?_; simp [go_sem, z0, z1, z2, z3, z4]; refine hR _ _ _ ?_; clear hR R)
    rw [seqX_nil]
    refine hK _ _ _ ?_; clear hK K
    refine hN1 _ _ _ ?_
    refine xc_two fun N2 hN2 => ?_
    refine xc_two fun N3 hN3 => ?_
    refine xc_reg2 fun K hK => ?_
    simp only [rall, rsl, gres]
    iterate 4 (refine seqX_hide2 fun R hR => ?_; simp [go_sem, z0, z1, z2, z3, z4]; refine hR _ _ _ ?_; clear hR R)
    rw [seqX_nil]
    refine hK _ _ _ ?_; clear hK K
    refine hN3 _ _ _ ?_
    refine xc_iffalse (by simp [go_sem, z0, z1, z2, z3, z4]) ?_
    refine hN2 _ _ _ ?_
    refine xc_two fun N4 hN4 => ?_
    refine xc_two fun N5 hN5 => ?_
    refine xc_reg2 fun K hK => ?_
    simp only [rall, rsl, gres]
    iterate 4 (refine seqX_hide2 fun R hR => ?_; simp [go_sem, z0, z1, z2, z3, z4]; refine hR _ _ _ ?_; clear hR R)
    rw [seqX_nil]
    refine hK _ _ _ ?_; clear hK K
    refine hN5 _ _ _ ?_
    refine xc_iffalse (by simp [go_sem, z0, z1, z2, z3, z4]) ?_
    refine hN4 _ _ _ ?_
    refine xc_two fun N6 hN6 => ?_
    refine xc_two fun N7 hN7 => ?_
    refine xc_reg2 fun K hK => ?_
    simp only [rall, rsl, gres]
    iterate 4 (refine seqX_hide2 fun R hR => ?_; simp [go_sem, z0, z1, z2, z3, z4]; refine hR _ _ _ ?_; clear hR R)
    rw [seqX_nil]
    refine hK _ _ _ ?_; clear hK K
    refine hN7 _ _ _ ?_
    refine xc_iffalse (by simp [go_sem, z0, z1, z2, z3, z4]) ?_
    refine hN6 _ _ _ ?_
    refine xc_two fun N8 hN8 => ?_
    refine xc_two fun N9 hN9 => ?_
    refine xc_reg2 fun K hK => ?_
    simp only [rall, rsl, gres]
    iterate 4 (refine seqX_hide2 fun R hR => ?_; simp [go_sem, z0, z1, z2, z3, z4]; refine hR _ _ _ ?_; clear hR R)
    rw [seqX_nil]
    refine hK _ _ _ ?_; clear hK K
    refine hN9 _ _ _ ?_
    refine xc_iffalse (by simp [go_sem, z0, z1, z2, z3, z4]) ?_
    refine hN8 _ _ _ ?_
    refine xc_two fun N10 hN10 => ?_
    refine xc_two fun N11 hN11 => ?_
    refine xc_reg2 fun K hK => ?_
    simp only [rall, rsl, gres]
    iterate 4 (refine seqX_hide2 fun R hR => ?_; simp [go_sem, z0, z1, z2, z3, z4]; refine hR _ _ _ ?_; clear hR R)
    rw [seqX_nil]
    refine hK _ _ _ ?_; clear hK K
    refine hN11 _ _ _ ?_
    refine xc_iftrue (by simp [go_sem, z0, z1, z2, z3, z4]) ?_
    refine xc_two fun N12 hN12 => ?_
    refine xc_reg2 fun K hK => ?_
    simp only [rall, rsl, gres]
    (refine seqX_hide2 fun R hR => ?_; simp [go_sem, z0, z1, z2, z3, z4]; refine hR _ _ _ ?_; clear hR R)
    rw [seqX_nil]
    refine hK _ _ _ ?_; clear hK K
    refine hN12 _ _ _ ?_
    simp [go_sem, z0, z1, z2, z3, z4]
    exact ⟨FB.no _, le_ov hP⟩
  have z4 : ¬ (2147483647 : Int) < l.size := by omega
  by_cases h5 : f.size ≤ 2147483647
  rotate_left
  · have z5 : (2147483647 : Int) < f.size := by omega
    refine xc_two fun N1 hN1 => ?_
    refine xc_reg2 fun K hK => ?_
    simp only [rall, rsl, gres]
    refine seqX_hide2 fun R hR => ?_
    simp [go_sem, z0, z1, z2, z3, z4, z5]
    intro q1 hq1
    replace hP := hP.cons hq1
    clear hq1
    refine hR _ _ _ ?_; clear hR R
    (refine seqX_hide2 fun R hR => ?_; simp [go_sem, z0, z1, z2, z3, z4, z5]; refine hR _ _ _ ?_; clear hR R)
    rw [seqX_nil]
    refine hK _ _ _ ?_; clear hK K
    refine hN1 _ _ _ ?_
    refine xc_two fun N2 hN2 => ?_
    refine xc_two fun N3 hN3 => ?_
    refine xc_reg2 fun K hK => ?_
    simp only [rall, rsl, gres]
    iterate 4 (refine seqX_hide2 fun R hR => ?_; simp [go_sem, z0, z1, z2, z3, z4, z5]; refine hR _ _ _ ?_; clear hR R)
    rw [seqX_nil]
    refine hK _ _ _ ?_; clear hK K
    refine hN3 _ _ _ ?_
    refine xc_iffalse (by simp [go_sem, z0, z1, z2, z3, z4, z5]) ?_
    refine hN2 _ _ _ ?_
    refine xc_two fun N4 hN4 => ?_
    refine xc_two fun N5 hN5 => ?_
    refine xc_reg2 fun K hK => ?_
    simp only [rall, rsl, gres]
    iterate 4 (refine seqX_hide2 fun R hR => ?_; simp [go_sem, z0, z1, z2, z3, z4, z5]; refine hR _ _ _ ?_; clear hR R)
    rw [seqX_nil]
    refine hK _ _ _ ?_; clear hK K
    refine hN5 _ _ _ ?_
    refine xc_iffalse (by simp [go_sem, z0, z1, z2, z3, z4, z5]) ?_
    refine hN4 _ _ _ ?_
    refine xc_two fun N6 hN6 => ?_
    refine xc_two fun N7 hN7 => ?_
    refine xc_reg2 fun K hK => ?_
    simp only [rall, rsl, gres]
    iterate 4 (refine seqX_hide2 fun R hR => ?_; simp [go_sem, z0, z1, z2, z3, z4, z5]; refine hR _ _ _ ?_; clear hR R)
    rw [seqX_nil]
    refine hK _ _ _ ?_; clear hK K
    refine hN7 _ _ _ ?_
    refine xc_iffalse (by simp [go_sem, z0, z1, z2, z3, z4, z5]) ?_
    refine hN6 _ _ _ ?_
    refine xc_two fun N8 hN8 => ?_
    refine xc_two fun N9 hN9 => ?_
    refine xc_reg2 fun K hK => ?_
    simp only [rall, rsl, gres]
    iterate 4 (refine seqX_hide2 fun R hR => ?_; simp [go_sem, z0, z1, z2, z3, z4, z5]; refine hR _ _ _ ?_; clear hR R)
    rw [seqX_nil]
    refine hK _ _ _ ?_; clear hK K
    refine hN9 _ _ _ ?_
    refine xc_iffalse (by simp [go_sem, z0, z1, z2, z3, z4, z5]) ?_
    refine hN8 _ _ _ ?_
    refine xc_two fun N10 hN10 => ?_
    refine xc_two fun N11 hN11 => ?_
    refine xc_reg2 fun K hK => ?_
    simp only [rall, rsl, gres]
    iterate 4 (refine seqX_hide2 fun R hR => ?_; simp [go_sem, z0, z1, z2, z3, z4, z5]; refine hR _ _ _ ?_; clear hR R)
    rw [seqX_nil]
    refine hK _ _ _ ?_; clear hK K
    refine hN11 _ _ _ ?_
    refine xc_iffalse (by simp [go_sem, z0, z1, z2, z3, z4, z5]) ?_
    refine hN10 _ _ _ ?_
    refine xc_two fun N12 hN12 => ?_
    refine xc_two fun N13 hN13 => ?_
    refine xc_reg2 fun K hK => ?_
    simp only [rall, rsl, gres]
    iterate 4 (refine seqX_hide2 fun R hR => ?_; simp [go_sem, z0, z1, z2, z3, z4, z5]; refine hR _ _ _ ?_; clear hR R)
    rw [seqX_nil]
    refine hK _ _ _ ?_; clear hK K
    refine hN13 _ _ _ ?_
    refine xc_iftrue (by simp [go_sem, z0, z1, z2, z3, z4, z5]) ?_
    refine xc_two fun N14 hN14 => ?_
    refine xc_reg2 fun K hK => ?_
    simp only [rall, rsl, gres]
    (refine seqX_hide2 fun R hR => ?_; simp [go_sem, z0, z1, z2, z3, z4, z5]; refine hR _ _ _ ?_; clear hR R)
    rw [seqX_nil]
    refine hK _ _ _ ?_; clear hK K
    refine hN14 _ _ _ ?_
    simp [go_sem, z0, z1, z2, z3, z4, z5]
    exact ⟨FB.no _, le_ov hP⟩
  have z5 : ¬ (2147483647 : Int) < f.size := by omega
  by_cases h6 : kids.length ≤ 2147483647
  rotate_left
  · have z6 : (2147483647 : Int) < kids.length := by omega
    refine xc_two fun N1 hN1 => ?_
    refine xc_reg2 fun K hK => ?_
    simp only [rall, rsl, gres]
    refine seqX_hide2 fun R hR => ?_
    simp [go_sem, z0, z1, z2, z3, z4, z5, z6]
    intro q1 hq1
    replace hP := hP.cons hq1
    clear hq1
    refine hR _ _ _ ?_; clear hR R
    (refine seqX_hide2 fun R hR => ?_; simp [go_sem, z0, z1, z2, z3, z4, z5, z6]; refine hR _ _ _ ?_; clear hR R)
    rw [seqX_nil]
    refine hK _ _ _ ?_; clear hK K
    refine hN1 _ _ _ ?_
    refine xc_two fun N2 hN2 => ?_
    refine xc_two fun N3 hN3 => ?_
    refine xc_reg2 fun K hK => ?_
    simp only [rall, rsl, gres]
    iterate 4 (refine seqX_hide2 fun R hR => ?_; simp [go_sem, z0, z1, z2, z3, z4, z5, z6]; refine hR _ _ _ ?_; clear hR R)
    rw [seqX_nil]
    refine hK _ _ _ ?_; clear hK K
    refine hN3 _ _ _ ?_
    refine xc_iffalse (by simp [go_sem, z0, z1, z2, z3, z4, z5, z6]) ?_
    refine hN2 _ _ _ ?_
    refine xc_two fun N4 hN4 => ?_
    refine xc_two fun N5 hN5 => ?_
    refine xc_reg2 fun K hK => ?_
    simp only [rall, rsl, gres]
    iterate 4 (refine seqX_hide2 fun R hR => ?_; simp [go_sem, z0, z1, z2, z3, z4, z5, z6]; refine hR _ _ _ ?_; clear hR R)
    rw [seqX_nil]
    refine hK _ _ _ ?_; clear hK K
    refine hN5 _ _ _ ?_
    refine xc_iffalse (by simp [go_sem, z0, z1, z2, z3, z4, z5, z6]) ?_
    refine hN4 _ _ _ ?_
    refine xc_two fun N6 hN6 => ?_
    refine xc_two fun N7 hN7 => ?_
    refine xc_reg2 fun K hK => ?_
    simp only [rall, rsl, gres]
    iterate 4 (refine seqX_hide2 fun R hR => ?_; simp [go_sem, z0, z1, z2, z3, z4, z5, z6]; refine hR _ _ _ ?_; clear hR R)
    rw [seqX_nil]
    refine hK _ _ _ ?_; clear hK K
    refine hN7 _ _ _ ?_
    refine xc_iffalse (by simp [go_sem, z0, z1, z2, z3, z4, z5, z6]) ?_
    refine hN6 _ _ _ ?_
    refine xc_two fun N8 hN8 => ?_
    refine xc_two fun N9 hN9 => ?_
    refine xc_reg2 fun K hK => ?_
    simp only [rall, rsl, gres]
    iterate 4 (refine seqX_hide2 fun R hR => ?_; simp [go_sem, z0, z1, z2, z3, z4, z5, z6]; refine hR _ _ _ ?_; clear hR R)
    rw [seqX_nil]
    refine hK _ _ _ ?_; clear hK K
    refine hN9 _ _ _ ?_
    refine xc_iffalse (by simp [go_sem, z0, z1, z2, z3, z4, z5, z6]) ?_
    refine hN8 _ _ _ ?_
    refine xc_two fun N10 hN10 => ?_
    refine xc_two fun N11 hN11 => ?_
    refine xc_reg2 fun K hK => ?_
    simp only [rall, rsl, gres]
    iterate 4 (refine seqX_hide2 fun R hR => ?_; simp [go_sem, z0, z1, z2, z3, z4, z5, z6]; refine hR _ _ _ ?_; clear hR R)
    rw [seqX_nil]
    refine hK _ _ _ ?_; clear hK K
    refine hN11 _ _ _ ?_
    refine xc_iffalse (by simp [go_sem, z0, z1, z2, z3, z4, z5, z6]) ?_
    refine hN10 _ _ _ ?_
    refine xc_two fun N12 hN12 => ?_
    refine xc_two fun N13 hN13 => ?_
    refine xc_reg2 fun K hK => ?_
    simp only [rall, rsl, gres]
    iterate 4 (refine seqX_hide2 fun R hR => ?_; simp [go_sem, z0, z1, z2, z3, z4, z5, z6]; refine hR _ _ _ ?_; clear hR R)
    rw [seqX_nil]
    refine hK _ _ _ ?_; clear hK K
    refine hN13 _ _ _ ?_
    refine xc_iffalse (by simp [go_sem, z0, z1, z2, z3, z4, z5, z6]) ?_
    refine hN12 _ _ _ ?_
    refine xc_two fun N14 hN14 => ?_
    refine xc_two fun N15 hN15 => ?_
    refine xc_reg2 fun K hK => ?_
    simp only [rall, rsl, gres]
    iterate 4 (refine seqX_hide2 fun R hR => ?_; simp [go_sem, z0, z1, z2, z3, z4, z5, z6]; refine hR _ _ _ ?_; clear hR R)
    rw [seqX_nil]
    refine hK _ _ _ ?_; clear hK K
    refine hN15 _ _ _ ?_
    refine xc_iftrue (by simp [go_sem, z0, z1, z2, z3, z4, z5, z6]) ?_
    refine xc_two fun N16 hN16 => ?_
    refine xc_reg2 fun K hK => ?_
    simp only [rall, rsl, gres]
    (refine seqX_hide2 fun R hR => ?_; simp [go_sem, z0, z1, z2, z3, z4, z5, z6]; refine hR _ _ _ ?_; clear hR R)
    rw [seqX_nil]
    refine hK _ _ _ ?_; clear hK K
    refine hN16 _ _ _ ?_
    simp [go_sem, z0, z1, z2, z3, z4, z5, z6]
    exact ⟨FB.no _, le_ov hP⟩
  have z6 : ¬ (2147483647 : Int) < kids.length := by omega
  refine xc_two fun N1 hN1 => ?_
  refine xc_reg2 fun K hK => ?_
  simp only [rall, rsl, gres]
  refine seqX_hide2 fun R hR => ?_
  simp [go_sem, z0, z1, z2, z3, z4, z5, z6]
  intro q1 hq1
  replace hP := hP.cons hq1
  clear hq1
  refine hR _ _ _ ?_; clear hR R
  (refine seqX_hide2 fun R hR => ?_; simp [go_sem, z0, z1, z2, z3, z4, z5, z6]; refine hR _ _ _ ?_; clear hR R)
  rw [seqX_nil]
  refine hK _ _ _ ?_; clear hK K
  refine hN1 _ _ _ ?_
  refine xc_two fun N2 hN2 => ?_
  refine xc_two fun N3 hN3 => ?_
  refine xc_reg2 fun K hK => ?_
  simp only [rall, rsl, gres]
  iterate 4 (refine seqX_hide2 fun R hR => ?_; simp [go_sem, z0, z1, z2, z3, z4, z5, z6]; refine hR _ _ _ ?_; clear hR R)
  rw [seqX_nil]
  refine hK _ _ _ ?_; clear hK K
  refine hN3 _ _ _ ?_
  refine xc_iffalse (by simp [go_sem, z0, z1, z2, z3, z4, z5, z6]) ?_
  refine hN2 _ _ _ ?_
  refine xc_two fun N4 hN4 => ?_
  refine xc_two fun N5 hN5 => ?_
  refine xc_reg2 fun K hK => ?_
  simp only [rall, rsl, gres]
  iterate 4 (refine seqX_hide2 fun R hR => ?_; simp [go_sem, z0, z1, z2, z3, z4, z5, z6]; refine hR _ _ _ ?_; clear hR R)
  rw [seqX_nil]
  refine hK _ _ _ ?_; clear hK K
  refine hN5 _ _ _ ?_
  refine xc_iffalse (by simp [go_sem, z0, z1, z2, z3, z4, z5, z6]) ?_
  refine hN4 _ _ _ ?_
  refine xc_two fun N6 hN6 => ?_
  refine xc_two fun N7 hN7 => ?_
  refine xc_reg2 fun K hK => ?_
  simp only [rall, rsl, gres]
  iterate 4 (refine seqX_hide2 fun R hR => ?_; simp [go_sem, z0, z1, z2, z3, z4, z5, z6]; refine hR _ _ _ ?_; clear hR R)
  rw [seqX_nil]
  refine hK _ _ _ ?_; clear hK K
  refine hN7 _ _ _ ?_
  refine xc_iffalse (by simp [go_sem, z0, z1, z2, z3, z4, z5, z6]) ?_
  refine hN6 _ _ _ ?_
  refine xc_two fun N8 hN8 => ?_
  refine xc_two fun N9 hN9 => ?_
  refine xc_reg2 fun K hK => ?_
  simp only [rall, rsl, gres]
  iterate 4 (refine seqX_hide2 fun R hR => ?_; simp [go_sem, z0, z1, z2, z3, z4, z5, z6]; refine hR _ _ _ ?_; clear hR R)
  rw [seqX_nil]
  refine hK _ _ _ ?_; clear hK K
  refine hN9 _ _ _ ?_
  refine xc_iffalse (by simp [go_sem, z0, z1, z2, z3, z4, z5, z6]) ?_
  refine hN8 _ _ _ ?_
  refine xc_two fun N10 hN10 => ?_
  refine xc_two fun N11 hN11 => ?_
  refine xc_reg2 fun K hK => ?_
  simp only [rall, rsl, gres]
  iterate 4 (refine seqX_hide2 fun R hR => ?_; simp [go_sem, z0, z1, z2, z3, z4, z5, z6]; refine hR _ _ _ ?_; clear hR R)
  rw [seqX_nil]
  refine hK _ _ _ ?_; clear hK K
  refine hN11 _ _ _ ?_
  refine xc_iffalse (by simp [go_sem, z0, z1, z2, z3, z4, z5, z6]) ?_
  refine hN10 _ _ _ ?_
  refine xc_two fun N12 hN12 => ?_
  refine xc_two fun N13 hN13 => ?_
  refine xc_reg2 fun K hK => ?_
  simp only [rall, rsl, gres]
  iterate 4 (refine seqX_hide2 fun R hR => ?_; simp [go_sem, z0, z1, z2, z3, z4, z5, z6]; refine hR _ _ _ ?_; clear hR R)
  rw [seqX_nil]
  refine hK _ _ _ ?_; clear hK K
  refine hN13 _ _ _ ?_
  refine xc_iffalse (by simp [go_sem, z0, z1, z2, z3, z4, z5, z6]) ?_
  refine hN12 _ _ _ ?_
  refine xc_two fun N14 hN14 => ?_
  refine xc_two fun N15 hN15 => ?_
  refine xc_reg2 fun K hK => ?_
  simp only [rall, rsl, gres]
  iterate 4 (refine seqX_hide2 fun R hR => ?_; simp [go_sem, z0, z1, z2, z3, z4, z5, z6]; refine hR _ _ _ ?_; clear hR R)
  rw [seqX_nil]
  refine hK _ _ _ ?_; clear hK K
  refine hN15 _ _ _ ?_
  refine xc_iffalse (by simp [go_sem, z0, z1, z2, z3, z4, z5, z6]) ?_
  refine hN14 _ _ _ ?_
  refine xc_two fun N16 hN16 => ?_
  refine xc_reg2 fun K hK => ?_
  simp only [rall, rsl, gres]
  (refine seqX_hide2 fun R hR => ?_; simp [go_sem, z0, z1, z2, z3, z4, z5, z6]; refine hR _ _ _ ?_; clear hR R)
  rw [seqX_nil]
  refine hK _ _ _ ?_; clear hK K
  refine hN16 _ _ _ ?_
  simp [go_sem, z0, z1, z2, z3, z4, z5, z6]
  exact ⟨FB.yes h6, le_ov hP⟩
end Go.Proofs.YtpinamipjddobaaV

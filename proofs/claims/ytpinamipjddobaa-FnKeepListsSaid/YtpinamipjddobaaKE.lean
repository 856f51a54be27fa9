/- Trees: PlainTree, a list of one, impl.bare. -/
import Derived.Test.YtpinamipjddobaaKD
namespace Go.Proofs.YtpinamipjddobaaV
open Go.RowKit
set_option linter.unusedSimpArgs false
set_option linter.unusedVariables false
set_option maxRecDepth 20000 in
theorem plainTree12 (A : View) (t : Tr) (c : Array Value) (n : Nat) (hc : IsTr A t c) (hsb : SB t) (hn : n ≤ 1000000) : VCalls Try.prog 15 #[.agg c, .int .i64 n] A fun r A' => FB (PL 12 t ∧ nds t ≤ n) r ∧ A ≤ A' := by
  have hcz := hc.size
  have hco := hc.ones
  refine xcalls Try.func15 rfl (by simp [Try.ntmps15]) ?_
  simp only [Try.f15]
  have hP : Priv A (addrs []) := Priv.nil A
  show xc _ _ _ _ _ _ (ov A [])
  refine xc_two fun N1 hN1 => ?_
  refine xc_reg2 fun K hK => ?_
  simp only [rall, rsl, gres]
  refine seqX_hide2 fun R hR => ?_
  simp [go_sem, hcz, hco]
  intro q2 hq2
  replace hP := hP.cons hq2
  clear hq2
  refine hR _ _ _ ?_; clear hR R
  (refine seqX_hide2 fun R hR => ?_; simp [go_sem, hcz, hco]; refine hR _ _ _ ?_; clear hR R)
  rw [seqX_nil]
  refine hK _ _ _ ?_; clear hK K
  refine hN1 _ _ _ ?_
  refine xc_two fun N2 hN2 => ?_
  refine xc_reg2 fun K hK => ?_
  simp only [rall, rsl, gres]
  (refine seqX_hide2 fun R hR => ?_; simp [go_sem, hcz, hco]; refine hR _ _ _ ?_; clear hR R)
  refine seqX_hide2 fun R hR => ?_
  simp [go_sem, hcz, hco]
  intro q5 hq5
  replace hP := hP.cons hq5
  clear hq5
  have d52 : q5 ≠ q2 := (hP.ne q2 (by simp [addrs])).1
  have d25 : q2 ≠ q5 := (hP.ne q2 (by simp [addrs])).2
  refine hR _ _ _ ?_; clear hR R
  refine seqX_hide2 fun R hR => ?_
  simp [go_sem, hcz, hco, d52, d25]
  refine hR _ _ _ ?_; clear hR R
  rw [seqX_nil]
  refine hK _ _ _ ?_; clear hK K
  refine hN2 _ _ _ ?_
  refine xc_two fun N3 hN3 => ?_
  refine xc_reg2 fun K hK => ?_
  simp only [rall, rsl, gres]
  (refine seqX_hide2 fun R hR => ?_; simp [go_sem, hcz, hco, d52, d25]; refine hR _ _ _ ?_; clear hR R)
  refine seqX_hide2 fun R hR => ?_
  simp [go_sem, hcz, hco, d52, d25]
  refine call_withI 0 hP rfl (plain21 t 12 A c n q5 hc hsb (hP.1) (by omega) (by omega) (by omega)) ?_
  clear hP
  rintro _ A' ⟨D, n', b, rfl, hAD, hDm, rfl, hb⟩ hP
  simp only [List.eraseIdx_cons_zero, List.eraseIdx_cons_succ, addrs_cons, addrs_nil] at hP ⊢
  refine hR _ _ _ ?_; clear hR R
  (refine seqX_hide2 fun R hR => ?_; simp [go_sem, hcz, hco, d52, d25]; refine hR _ _ _ ?_; clear hR R)
  rw [seqX_nil]
  refine hK _ _ _ ?_; clear hK K
  refine hN3 _ _ _ ?_
  simp [go_sem, hcz, hco, d52, d25]
  refine ⟨⟨b, rfl, fun h => ⟨(hb h).1, by have := hb h; omega⟩⟩, ?_⟩
  exact View.le_trans hAD (View.le_trans (le_set hDm) (le_ov hP))
theorem Trs.one {A : View} {q : Nat} {t : Tr} {c : Array Value} {e : TypeId} (h : A q = some (.cells c e (0, 0))) (hc : IsTr A t c) : Trs A (.slice (some ⟨q, 0, none⟩) 1 1) [t] := by
  refine ⟨some ⟨q, 0, none⟩, 1, rfl, fun j hj => ?_⟩
  obtain rfl : j = 0 := by simp at hj; omega
  exact ⟨_, c, rfl, cells_block h hc.size, hc⟩
end Go.Proofs.YtpinamipjddobaaV

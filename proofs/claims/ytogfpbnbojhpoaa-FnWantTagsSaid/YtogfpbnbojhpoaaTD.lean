/- Tables: a table of the thin package's, read. -/
import Derived.Test.YtogfpbnbojhpoaaTC
namespace Go.Proofs.YtogfpbnbojhpoaaV
open Go.RowKit
set_option linter.unusedSimpArgs false
set_option linter.unusedVariables false
def kindOf : RV → Int
  | .mk k _ _ _ _ _ _ => k
def TabV (A : View) (v : RV) (r : Nat) : Prop := AnyV A v (.iface 63 (.map (some r)))
/-- What table gives: no map for a null, and a map for a table. -/
def TabO (A : View) (v : RV) (x : Value) : Prop := (kindOf v = 0 ∧ x = .map none) ∨ ∃ r, kindOf v = 7 ∧ x = .map (some r) ∧ TabV A v r
set_option maxRecDepth 20000 in
set_option maxHeartbeats 4000000 in
theorem table36 (v : RV) (A : View) (c : Array Value) (lv : Nat) (hc : IsRV A v c) (hG : Good v lv) (hlv : lv ≤ 60) (hn : nodes v ≤ 2000) (hk : kindOf v = 0 ∨ kindOf v = 7) :
    VCalls Try.prog 36 #[.agg c] A fun r A' => ∃ x, r = .tuple #[x, .bool true] ∧ A ≤ A' ∧ TabO A' v x := by
  refine xcalls Try.func36 rfl (by simp [Try.ntmps36]) ?_
  simp only [Try.f36]
  obtain ⟨k, b, i, f, t, keys, list⟩ := v
  have hc2 := hc
  rw [IsRV] at hc2
  obtain ⟨ks, ls, hcs, -⟩ := hc2
  have hcz := hc.size
  refine xc_step fun C hC => ?_
  simp [go_sem, xnew, Value.cells]
  intro q hq
  subst hC
  have LA : A ≤ A.set q (.cells c 27) := le_set hq
  have hN := set_at A q (.cells c 27)
  have hc' := hc.le LA
  generalize A.set q (.cells c 27) = B at LA hN hc'
  clear hq
  have gq := cells_block hN hcz
  refine xc_step fun C hC => ?_
  simp [go_sem, xnew, zeroOf, Value.cells, Instr.fill, zerosB]
  intro m hm
  have dqm : q ≠ m := ne_of_none hN hm
  have hM := set_at B m (.cells #[.int .i64 0] 3)
  have hst : xstore Try.prog 3 (.pointer (some ⟨m, 0, none⟩)) (.int .i64 0) (B.set m (.cells #[.int .i64 0] 3)) = some ((B.set m (.cells #[.int .i64 0] 3)).set m (.cells #[.int .i64 0] 3)) := xstore_field ti3 hM (by simp) rfl
  rw [set_set] at hst
  have hN2 : (B.set m (.cells #[.int .i64 0] 3)) q = some (.cells c 27 (0, 0)) := by rw [set_other dqm]; exact hN
  have LB : B ≤ B.set m (.cells #[.int .i64 0] 3) := le_set hm
  have hE : B ≤ (B.set m (.cells #[.int .i64 0] 3)).erase m := le_erase LB hm
  simp [hst, go_sem]
  subst hC
  generalize B.set m (.cells #[.int .i64 0] 3) = B1 at hM hN2 LB hE
  clear hst gq
  have gq := cells_block hN2 hcz
  refine xc_step fun C hC => ?_
  simp [go_sem, vload, gq]
  refine (any63 (.mk k b i f t keys list) B1 c lv 0 m 0 (hc'.le hE) hM hG (by omega) (by omega)).mono ?_
  rintro _ B2 ⟨x, rfl, L2, hx, hM2⟩
  simp [go_sem]
  subst hC
  have hq2 : B2 q = some (.cells c 27 (0, 0)) := by
    have := L2 q (.cells c 27 (0, 0)) (by rw [erase_at dqm]; exact hN2)
    rwa [erase_at dqm] at this
  have LL : A ≤ B2 := View.le_trans (View.le_trans LA hE) (View.le_trans L2 (erase_le _ _))
  have hxB := hx.le (erase_le B2 m)
  clear hx hM2 L2 hN2 hN gq
  rw [AnyV] at hxB
  subst hcs
  have gq := cell_of hq2 (i := 0) rfl
  rcases hk with hk | hk
  · simp only [kindOf] at hk
    subst hk
    rcases hxB with ⟨_, rfl⟩ | h | h | h | h | h | h
    · refine xc_step fun C hC => ?_
      simp [go_sem, xassert]
      subst hC
      rw [xc_seq, xc_draws]
      refine vdrawK [(0, true), (1, true), (2, true), (3, true), (4, true), (5, true), (6, true), (7, true), (8, true), (9, true), (10, true), (11, true)] B2 mixed (by kernel_rfl) (View.le_refl _) fun K hK => ?_
      simp only [rslv_cons, rslv_nil, List.getElem?_toArray, List.getElem?_cons_zero, List.getElem?_cons_succ, gres]
      simp [go_sem, xfieldAt, vload, gq, xbin, eqPlain]
      refine hK _ _ _ ?_
      simp [go_sem]
      exact ⟨LL, .inl ⟨rfl, rfl⟩⟩
    all_goals exact absurd h.1 (by decide)
  · simp only [kindOf] at hk
    subst hk
    rcases hxB with h | h | h | h | h | h | ⟨_, r, vals, rfl, h1, h2, h3⟩
    iterate 6 exact absurd h.1 (by decide)
    refine xc_step fun C hC => ?_
    simp [go_sem, xassert]
    subst hC
    rw [xc_seq, xc_draws]
    refine vdrawK [(0, true), (1, true), (2, true), (3, true), (4, true), (5, true), (6, true), (7, true), (8, true), (9, true), (10, true), (11, true)] B2 mixed (by kernel_rfl) (View.le_refl _) fun K hK => ?_
    simp only [rslv_cons, rslv_nil, List.getElem?_toArray, List.getElem?_cons_zero, List.getElem?_cons_succ, gres]
    simp [go_sem, xfieldAt, vload, gq, xbin, eqPlain]
    refine hK _ _ _ ?_
    simp [go_sem]
    refine ⟨LL, .inr ⟨r, rfl, rfl, ?_⟩⟩
    unfold TabV
    rw [AnyV]
    exact .inr (.inr (.inr (.inr (.inr (.inr ⟨rfl, r, vals, rfl, h1, h2, h3⟩)))))
end Go.Proofs.YtogfpbnbojhpoaaV

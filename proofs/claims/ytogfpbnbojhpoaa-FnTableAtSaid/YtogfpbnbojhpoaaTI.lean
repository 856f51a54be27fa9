/- Tables: FnTableAt. -/
import Derived.Test.YtogfpbnbojhpoaaTG
namespace Go.Proofs.YtogfpbnbojhpoaaV
open Go.RowKit
abbrev aB : ByteArray := ⟨#[97]⟩
def r7 : RV := .mk 7 false 0 0 ⟨#[]⟩ [] []
def r7a : RV := .mk 7 false 0 0 ⟨#[]⟩ [aB] [r7]
theorem parts_a : parts aB = [aB] := rfl
set_option maxRecDepth 20000 in
set_option maxHeartbeats 4000000 in
theorem pathMap22 (A : View) : VCalls Try.prog 22 #[.string aB, .agg (rvc 7 false 0 0 ⟨#[]⟩ nl nl)] A fun r A' => ∃ c, r = .agg c ∧ IsRV A' r7a c ∧ A ≤ A' := by
  refine xcalls Try.func22 rfl (by simp [Try.ntmps22]) ?_
  simp only [Try.f22]
  refine xc_step fun C hC => ?_
  simp [go_sem, xnew, zeroOf, Value.cells, Instr.fill, zerosB]
  intro q hq m hm
  subst hC
  obtain ⟨dqm, hm2, hQ, hM⟩ := two_blocks (d := zc) (e2 := 27) hm
  have LA : A ≤ (A.set q (.cells (rvc 7 false 0 0 ⟨#[]⟩ nl nl) 27)).set m (.cells zc 27) := View.le_trans (le_set hq) (le_set hm)
  generalize (A.set q (.cells (rvc 7 false 0 0 ⟨#[]⟩ nl nl) 27)).set m (.cells zc 27) = B0 at hQ hM LA
  clear hm
  refine xc_step fun C hC => ?_
  simp [go_sem, xbin, eqPlain]
  subst hC
  refine xc_step fun C hC => ?_
  simp [go_sem]
  refine (calls_base (names47 A aB (by decide)) LA).mono ?_
  rintro r B1 ⟨D0, ⟨hT, hAD0⟩, hDB, hkeep⟩
  rw [parts_a] at hT
  obtain ⟨hDq, hQ⟩ := hkeep q _ hq hQ
  obtain ⟨hDm, hM⟩ := hkeep m _ hm2 hM
  clear hkeep LA
  obtain ⟨ak, cn, f1, u1⟩ := hT.at' (i := 0) (by decide)
  have f1 : r = .slice (some ak) 1 cn := f1
  subst f1
  have u1 : D0.cell? ak = some (.string aB) := by
    have h0 : ak.add 0 = ak := by unfold Addr.add; simp
    rw [h0] at u1
    exact u1
  subst hC
  refine xc_step fun C hC => ?_
  simp [go_sem, xlen, xbin, eqPlain]
  refine vloopK (fun k' e ds A' => ds = [] ∧ e 3 = .pointer (some ⟨q, 0, none⟩) ∧ e 4 = .pointer (some ⟨m, 0, none⟩) ∧ e 5 = .slice (some ak) 1 cn ∧ A' m = some (.cells zc 27 (0, 0)) ∧
      ((k' = 1 ∧ e 6 = .int .i64 0 ∧ D0 ≤ A' ∧ A' q = some (.cells (rvc 7 false 0 0 ⟨#[]⟩ nl nl) 27 (0, 0))) ∨ (k' = 0 ∧ e 6 = .int .i64 (-1) ∧ ∃ D c, D0 ≤ D ∧ D ≤ A' ∧ D q = none ∧ D m = none ∧ IsRV D r7a c ∧ A' q = some (.cells c 27 (0, 0))))) 1
    ⟨rfl, by simp [go_sem], by simp [go_sem], by simp [go_sem], hM, .inl ⟨rfl, by simp [go_sem]; decide, hDB, hQ⟩⟩ ?_
  clear hQ hM hDB
  rintro k' e ds B ⟨rfl, g3, g4, g5, hM, hst⟩ J X hJ hX
  refine xc_sound _ ?_
  rcases hst with ⟨rfl, g6, hDB, hQ⟩ | ⟨rfl, g6, D, c, hD0, hDB, hDq', hDm', hc, hQ⟩
  · have u1 := le_cell hDB u1
    have gq := cells_block (n := 7) hQ rfl
    refine xc_step fun C3 hC3 => ?_
    simp [go_sem, g6, xbin, eqPlain]
    subst hC3
    refine xc_step fun C3 hC3 => ?_
    rw [xc_seq, xc_block]
    first | rw [xc_seq, xc_draws] | rw [xc_draws]
    refine vdrawK [(0, true), (1, true), (2, true), (3, true), (4, true), (5, true), (6, true), (7, true), (8, false)] B mixed (by kernel_rfl) (View.le_refl _) fun K hK => ?_
    simp only [rslv_cons, rslv_nil, List.getElem?_toArray, List.getElem?_cons_zero, List.getElem?_cons_succ, gres]
    simp [go_sem, g3, g5, g6, xindexAt, vload, u1, gq, xnew, Value.cells, Instr.fill, zerosB, xbuild]
    intro b1 hb1 b2 hb2
    have dq1 := ne_of_none hQ hb1
    have dm1 := ne_of_none hM hb1
    have l1 := le_set (o := .cells #[.string aB] 9) hb1
    have g1 := set_at B b1 (.cells #[.string aB] 9)
    have dq2 := ne_of_none (l1 _ _ hQ) hb2
    have dm2 := ne_of_none (l1 _ _ hM) hb2
    have l2 := le_set (o := .cells (rvc 7 false 0 0 ⟨#[]⟩ nl nl) 27) hb2
    have g1 := l2 _ _ g1
    have g2 := set_at (B.set b1 (.cells #[.string aB] 9)) b2 (.cells (rvc 7 false 0 0 ⟨#[]⟩ nl nl) 27)
    have hQ2 := l2 _ _ (l1 _ _ hQ)
    have hM2 := l2 _ _ (l1 _ _ hM)
    have hD2 := View.le_trans hDB (View.le_trans l1 l2)
    generalize hB2 : (B.set b1 (.cells #[.string aB] 9)).set b2 (.cells (rvc 7 false 0 0 ⟨#[]⟩ nl nl) 27) = B2 at g1 g2 hQ2 hM2 hD2
    have st := xstore_agg (vs := rvc 7 false 0 0 ⟨#[]⟩ (.slice (some ⟨b1, 0, none⟩) 1 1) (.slice (some ⟨b2, 0, none⟩) 1 1)) (c := rvc 7 false 0 0 ⟨#[]⟩ nl nl) ti27 rfl hQ2 rfl (by simp [one])
    rw [st, onS_some]
    refine hK _ _ _ ?_
    clear hK st
    simp [go_sem]
    subst hC3
    simp [go_sem, g6, xbin, eqPlain]
    have e1 : ((B2.erase q).erase m) b1 = some (.cells #[.string aB] 9 (0, 0)) := by rw [erase_at dm1.symm, erase_at dq1.symm]; exact g1
    have e2 : ((B2.erase q).erase m) b2 = some (.cells (rvc 7 false 0 0 ⟨#[]⟩ nl nl) 27 (0, 0)) := by rw [erase_at dm2.symm, erase_at dq2.symm]; exact g2
    have hle : (B2.erase q).erase m ≤ B2 := View.le_trans (erase_le _ _) (erase_le _ _)
    have hDD : D0 ≤ (B2.erase q).erase m := le_erase (le_erase hD2 hDq) hDm
    have hq0 : ((B2.erase q).erase m) q = none := by rw [erase_at dqm]; exact if_pos rfl
    have hm0 : ((B2.erase q).erase m) m = none := if_pos rfl
    generalize (B2.erase q).erase m = D at e1 e2 hle hDD hq0 hm0
    refine hJ 0 _ _ _ (by omega) ⟨rfl, by simp [go_sem, g3], by simp [go_sem, g4], by simp [go_sem, g5], by rw [set_other dqm.symm]; exact hM2, .inr ⟨rfl, by simp [go_sem]; decide, D, _, hDD, le_set' hle hq0, hq0, hm0, ?_, set_at _ _ _⟩⟩
    unfold r7a
    rw [IsRV]
    refine ⟨_, _, rfl, .inl ⟨⟨b1, 0, none⟩, 1, rfl, cells_block (n := 1) e1 rfl⟩, by decide, ⟨_, _, rfl⟩, fun j hj => ?_⟩
    have hj0 : j = 0 := by simpa using hj
    subst hj0
    exact ⟨⟨b2, 0, none⟩, 1, rvc 7 false 0 0 ⟨#[]⟩ nl nl, rfl, cells_block (n := 7) e2 rfl, isRV_flat D 7 false 0 0 ⟨#[]⟩⟩
  · refine xc_step fun C3 hC3 => ?_
    simp [go_sem, g6, xbin, eqPlain]
    subst hC3
    refine hX _ _ _ _ ?_
    simp [go_sem]
    subst hC
    have hcz := hc.size
    have gq := cells_block hQ hcz
    have st := xstore_agg (vs := c) (c := zc) ti27 hcz hM (by rw [hcz]; rfl) hc.one
    have gm := cells_block (n := 7) (set_at B m (.cells c 27)) hcz
    simp [go_sem, g3, g4, vload, gq, st, gm]
    exact ⟨hc.le (le_set' hDB hDm'), le_set' (View.le_trans hAD0 (View.le_trans hD0 hDB)) hm2⟩
end Go.Proofs.YtogfpbnbojhpoaaV

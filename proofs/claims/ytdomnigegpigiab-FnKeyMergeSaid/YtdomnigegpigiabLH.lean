import Derived.Test.YtdomnigegpigiabLG
namespace Go.Proofs.YtdomnigegpigiabV
open Go.RowKit
set_option maxHeartbeats 2000000 in
theorem lists8 (A : View) (v0 : Value) (L : List (List ByteArray)) (m : Nat) (h : Rows2 A v0 L) (hm : m ≤ 100) (hl : L.length ≤ 9223372036854775807) (hle : ∀ y ∈ L, y.length ≤ 9223372036854775807) (hsz : ∀ y ∈ L, ∀ s ∈ y, s.size ≤ 9223372036854775807) :
    VCalls Try.prog 8 #[v0, .int .i64 m] A fun r A' => A ≤ A' ∧ ∃ l, OwnT A A' 27 r l ∧ l.length ≤ L.length ∧ l.length ≤ 6 ∧ Short l := by
  refine xcalls Try.func8 rfl (by simp [Try.ntmps8]) ?_
  obtain ⟨b0, c0, e0⟩ := h.slice
  simp [go_sem, Try.f8]
  refine vloopK (fun k e ds A' => ∃ i : Nat, k + i = min L.length 6 ∧ ds = [] ∧ e 0 = v0 ∧ e 1 = .int .i64 m ∧ e 6 = .int .i64 i ∧ A ≤ A' ∧ ∃ u l, e 5 = u ∧ OwnT A A' 27 u l ∧ l.length = i ∧ Short l) (min L.length 6)
    ⟨0, by simp, rfl, by simp [go_sem], by simp [go_sem], by simp [go_sem], View.le_refl _, .slice none 0 0, [], by simp [go_sem], OwnT.nil _ _ _, rfl, fun y hy => absurd hy (by simp)⟩ ?_
  rintro k e ds A1 ⟨i, hk, rfl, g0, g1, g6, hA1, vo, l, g5, hown, hll, hsh⟩ J X hJ hX
  refine xc_sound _ ?_
  by_cases hno : i < L.length ∧ i < 6
  · obtain ⟨hi1, hi2⟩ := hno
    have hwi := wrap_nat (i := i) (by omega)
    have hi3 : (i : Int) < 6 := by omega
    obtain ⟨a, cap, u, f1, c1, t1⟩ := h.at' hi1
    have c1' := le_cell hA1 c1
    simp [go_sem, g0, g1, g5, g6, f1, xlen, xbin, eqPlain, hi1, hi3, gval, xindexAt, vload, c1']
    refine (cut23 A1 u L[i] m (t1.le hA1) (hle _ (List.getElem_mem hi1)) hm (hsz _ (List.getElem_mem hi1))).mono ?_
    rintro r A2 ⟨hA2, hr⟩
    have hcl : (cutl L[i] m).length ≤ m := by simp [cutl]; omega
    refine vloopK (fun k e ds A' => ∃ w l', k + l'.length = m ∧ ds = [] ∧ e 0 = v0 ∧ e 1 = .int .i64 m ∧ e 6 = .int .i64 i ∧ e 5 = vo ∧ e 7 = w ∧ A1 ≤ A' ∧ Own A1 A' 9 1 w l'.length (l'.map .string)) (m - (cutl L[i] m).length)
      ⟨r, cutl L[i] m, by omega, rfl, by simp [go_sem, g0], by simp [go_sem, g1], by simp [go_sem, g6], by simp [go_sem, g5], by simp [go_sem], hA2, hr⟩ ?_
    rintro k' e ds A2 ⟨w, l', hk', rfl, g0, g1, g6, g5, g7, hA2, hw⟩ J2 X2 hJ2 hX2
    refine xc_sound _ ?_
    have tw : Texts A2 w l' := hw.row
    obtain ⟨bw, cw, ew⟩ := tw.slice
    by_cases hlt : l'.length < m
    · simp [go_sem, g1, g7, ew, xlen, xbin, eqPlain, hlt, xnew, Instr.fill, zerosB, Value.cells]
      intro b hb
      rw [ew] at hw
      refine xappend_own ti27 ti27 (fun k => by simp) ti9 rfl (by decide) (hw.le (le_set hb)) (View.le_trans hA2 (le_set hb)) appended_one (by simp) (by simp [one]) (by omega) fun v' A3 h1' h2' h3' => ?_
      refine hJ2 (k' - 1) _ _ _ (by omega) ⟨v', l' ++ [⟨#[]⟩], by simp; omega, rfl, by simp [go_sem, g0], by simp [go_sem, g1], by simp [go_sem, g6], by simp [go_sem, g5], by simp [go_sem], h1', ?_⟩
      rw [List.length_append, List.map_append]
      exact h2'
    · simp [go_sem, g1, g7, ew, xlen, xbin, eqPlain, hlt]
      refine hX2 _ _ _ _ ?_
      obtain ⟨ws, q1, q2, q3⟩ := id hown
      have tr : Texts (eraseB A2 vo) w l' := (Own.other hw q1).row
      subst ew
      simp [go_sem, g5, g7, g6, xnew, Instr.fill, zerosB, Value.cells]
      intro b2 hb2
      refine xappend_own ti22 ti22 (fun k => by simp) ti27 rfl (by decide) ((q1.le hA2).le (le_set hb2)) (View.le_trans (View.le_trans hA1 hA2) (le_set hb2)) appended_one (by simp) (by simp [one]) (by omega) fun v3 A3 k1 k2 k3 => ?_
      simp [go_sem, xbin, eqPlain, hwi]
      refine hJ (k - 1) _ _ _ (by omega) ⟨i + 1, by omega, rfl, by simp [go_sem, g0], by simp [go_sem, g1], by simp [go_sem], k1, v3, l ++ [l'], by simp [go_sem], ?_, by simp [hll], fun y hy => ?_⟩
      · refine OwnT.grow (m := [l']) (hown.le hA2) (q1.le hA2) rfl (fun j hj => ?_) k2 (View.le_trans (eraseB_mono (le_set hb2) vo) k3)
        have : j = 0 := by simpa using hj
        subst this
        exact ⟨_, rfl, tr⟩
      · rcases List.mem_append.1 hy with hy | hy
        · exact hsh y hy
        · rw [List.mem_singleton.1 hy]; omega
  · by_cases hi1 : i < L.length
    · have hi3 : ¬ (i : Int) < 6 := by omega
      simp [go_sem, g0, g6, e0, xlen, xbin, eqPlain, hi1, hi3, gval]
      refine hX _ _ _ _ ?_
      simp [go_sem, g5]
      exact ⟨hA1, l, hown, by omega, by omega, hsh⟩
    · simp [go_sem, g0, g6, e0, xlen, xbin, eqPlain, hi1, gval]
      refine hX _ _ _ _ ?_
      simp [go_sem, g5]
      exact ⟨hA1, l, hown, by omega, by omega, hsh⟩
end Go.Proofs.YtdomnigegpigiabV

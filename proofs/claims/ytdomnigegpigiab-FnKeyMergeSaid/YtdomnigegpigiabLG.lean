import Derived.Test.YtdomnigegpigiabLF
namespace Go.Proofs.YtdomnigegpigiabV
open Go.RowKit
theorem strs_one (l : List ByteArray) : ∀ v ∈ l.map Value.string, one v = true := by
  intro v hv
  obtain ⟨s, _, rfl⟩ := List.mem_map.1 hv
  rfl
set_option maxHeartbeats 2000000 in
theorem merge26 (A0 A : View) (v0 : Value) (L : List (List ByteArray)) (hle0 : A0 ≤ A) (h : OwnT A0 A 27 v0 L) (hl : L.length ≤ 100) (hs : Short L) :
    VCalls Try.prog 26 #[v0] A fun r A' => r = v0 ∧ A0 ≤ A' ∧ OwnT A0 A' 27 v0 (outI L L.length) := by
  refine xcalls Try.func26 rfl (by simp [Try.ntmps26]) ?_
  simp [go_sem, Try.f26]
  refine (merge36 A0 A v0 L hle0 h hl hs).mono ?_
  rintro _ A' ⟨rfl, h1, h2⟩
  exact ⟨rfl, h1, h2⟩
set_option maxHeartbeats 2000000 in
theorem key11 (A : View) (v0 : Value) (L : List (List ByteArray)) (h : Rows2 A v0 L) (hl : L.length ≤ 100) (hs : Short L) :
    VCalls Try.prog 11 #[v0] A fun r A' => A ≤ A' ∧ OwnT A A' 27 r (outI L L.length) := by
  refine xcalls Try.func11 rfl (by simp [Try.ntmps11]) ?_
  obtain ⟨b0, c0, e0⟩ := h.slice
  simp [go_sem, Try.f11, e0, xlen]
  refine vloopK (fun k e ds A' => ∃ i : Nat, k + i = L.length ∧ ds = [] ∧ e 6 = v0 ∧ e 7 = .int .i64 L.length ∧ e 8 = .int .i64 i ∧ A ≤ A' ∧ ∃ u, e 3 = u ∧ OwnT A A' 27 u (L.take i)) L.length
    ⟨0, by simp, rfl, by simp [go_sem, e0], by simp [go_sem], by simp [go_sem], View.le_refl _, .slice none 0 0, by simp [go_sem], by simpa using OwnT.nil _ _ _⟩ ?_
  rintro k e ds A1 ⟨i, hk, rfl, g6, g7, g8, hA1, vo, g3, hown⟩ J X hJ hX
  refine xc_sound _ ?_
  by_cases hi : i < L.length
  · have hwi := wrap_nat (i := i) (by omega)
    obtain ⟨a, cap, u, f1, c1, t1⟩ := h.at' hi
    have c1' := le_cell hA1 c1
    have hli := hs _ (List.getElem_mem hi)
    simp [go_sem, g3, g6, g7, g8, xbin, eqPlain, hi, f1, xindexAt, vload, c1', xnew, Instr.fill, zerosB, Value.cells]
    intro b hb
    obtain ⟨ws, q1, q2, q3⟩ := id hown
    refine xappend_own ti27 ti27 (fun k => by simp) ti9 rfl (by decide) (own_fresh hb) (le_set hb) (appended_row ((t1.le hA1).le (le_set hb))) (fun h => by rfl) (strs_one _) (by omega) fun v2 A2 h1' h2' h3' => ?_
    rw [List.nil_append, Nat.zero_add] at h2'
    have tr : Texts (eraseB A2 vo) v2 L[i] := (Own.other h2' q1).row
    obtain ⟨br, cr, rfl⟩ := tr.slice
    simp [go_sem, xnew, Instr.fill, zerosB, Value.cells]
    intro b2 hb2
    have hA2 := View.le_trans hA1 h1'
    refine xappend_own ti22 ti22 (fun k => by simp) ti27 rfl (by decide) ((q1.le h1').le (le_set hb2)) (View.le_trans hA2 (le_set hb2)) appended_one (by simp) (by simp [one]) (by simp; omega) fun v3 A3 k1 k2 k3 => ?_
    simp [go_sem, g8, xbin, eqPlain, hwi]
    refine hJ (k - 1) _ _ _ (by omega) ⟨i + 1, by omega, rfl, by simp [go_sem, g6], by simp [go_sem, g7], by simp [go_sem], k1, v3, by simp [go_sem], ?_⟩
    rw [List.take_succ_eq_append_getElem hi]
    refine OwnT.grow (m := [L[i]]) (hown.le h1') (q1.le h1') rfl (fun j hj => ?_) k2 (View.le_trans (eraseB_mono (le_set hb2) vo) k3)
    have : j = 0 := by simpa using hj
    subst this
    exact ⟨_, rfl, tr⟩
  · have hi' : i = L.length := by omega
    subst hi'
    rw [List.take_length] at hown
    simp [go_sem, g7, g8, xbin, eqPlain]
    refine hX _ _ _ _ ?_
    simp [go_sem, g3]
    refine (merge26 A A1 vo L hA1 hown hl hs).mono ?_
    rintro _ A' ⟨rfl, h1, h2⟩
    exact ⟨h1, h2⟩
end Go.Proofs.YtdomnigegpigiabV

import Derived.Test.YtdomnigegpigiabLC
import Derived.Test.YtdomnigegpigiabLD
namespace Go.Proofs.YtdomnigegpigiabV
open Go.RowKit
theorem getD_get {l : List (List ByteArray)} {i : Nat} (h : i < l.length) : l.getD i [] = l[i] := by simp [h]
set_option maxHeartbeats 2000000 in
theorem merge36 (A0 A : View) (v0 : Value) (L : List (List ByteArray)) (hle0 : A0 ≤ A) (h : OwnT A0 A 27 v0 L) (hl : L.length ≤ 100) (hs : Short L) :
    VCalls Try.prog 36 #[v0] A fun r A' => r = v0 ∧ A0 ≤ A' ∧ OwnT A0 A' 27 v0 (outI L L.length) := by
  refine xcalls Try.func36 rfl (by simp [Try.ntmps36]) ?_
  obtain ⟨b0, c0, e0⟩ := h.rows.slice
  simp [go_sem, Try.f36, e0, xlen]
  refine vloopK (fun k e ds A' => ∃ i : Nat, k + i = L.length ∧ ds = [] ∧ e 0 = v0 ∧ e 9 = v0 ∧ e 10 = .int .i64 L.length ∧ e 11 = .int .i64 i ∧ A0 ≤ A' ∧ OwnT A0 A' 27 v0 (outI L i) ∧ Short (outI L i)) L.length
    ⟨0, by simp, rfl, by simp [go_sem, e0], by simp [go_sem, e0], by simp [go_sem], by simp [go_sem], hle0, h, hs⟩ ?_
  rintro k e ds A1 ⟨i, hk, rfl, g0, g9, g10, g11, hA1, hown, hsh⟩ J X hJ hX
  refine xc_sound _ ?_
  have hlen := outI_len L i
  generalize hS : outI L i = S at hown hsh hlen
  by_cases hi : i < L.length
  · have hwi := wrap_nat (i := i) (by omega)
    obtain ⟨a, cap, u1, f1, c1, t1⟩ := hown.rows.at' (i := i) (by omega)
    have tE : ∃ u, u1 = u ∧ Texts (eraseB A1 v0) u (S.getD i []) := by
      obtain ⟨ws, q1, q2, q3⟩ := hown
      obtain ⟨u, hu, ht⟩ := q3 i (by omega)
      obtain ⟨a', cap', r1, _, r3⟩ := q1.row.at1 hu
      rw [f1] at r1
      simp only [Value.slice.injEq, Option.some.injEq] at r1
      rw [← r1.1, c1] at r3
      refine ⟨u, Option.some.inj r3, ?_⟩
      rw [getD_get (by omega)]
      exact ht
    obtain ⟨_, rfl, tE⟩ := tE
    have hvs := hsh.getD i
    have hout : outI L (i + 1) = innI (S.getD i []) i S L.length := by rw [outI, hS]
    generalize S.getD i [] = vt at tE hvs hout
    rw [hlen] at f1
    simp [go_sem, g0, g9, g10, g11, xbin, eqPlain, hi, f1, xindexAt, vload, c1, xlen]
    refine vloopK (fun k e ds A' => ∃ j : Nat, k + j = L.length ∧ ds = [] ∧ e 0 = v0 ∧ e 9 = v0 ∧ e 10 = .int .i64 L.length ∧ e 11 = .int .i64 i ∧ e 3 = .int .i64 i ∧ e 4 = u1 ∧ e 16 = v0 ∧ e 17 = .int .i64 L.length ∧ e 18 = .int .i64 j ∧ A0 ≤ A' ∧
        OwnT A0 A' 27 v0 (innI vt i S j) ∧ Short (innI vt i S j) ∧ Texts (eraseB A' v0) u1 vt) L.length
      ⟨0, by simp, rfl, by simp [go_sem, g0, f1], by simp [go_sem, g9, f1], by simp [go_sem, g10], by simp [go_sem, g11], by simp [go_sem], by simp [go_sem], by simp [go_sem, f1], by simp [go_sem], by simp [go_sem], hA1, hown, hsh, tE⟩ ?_
    rintro k' e ds A1 ⟨j, hk', rfl, g0, g9, g10, g11, g3, g4, g16, g17, g18, hA1, hown, hsh, tE⟩ J2 X2 hJ2 hX2
    refine xc_sound _ ?_
    have hlen2 := innI_len vt i S j
    generalize hT : innI vt i S j = T at hown hsh hlen2
    by_cases hj : j < L.length
    · have hwj := wrap_nat (i := j) (by omega)
      obtain ⟨a2, cap2, u2, f2, c2, t2⟩ := hown.rows.at' (i := j) (by omega)
      have ha : a2 = a := by
        rw [f1] at f2
        simp only [Value.slice.injEq, Option.some.injEq] at f2
        exact f2.1.symm
      subst ha
      have hstep : innI vt i S (j + 1) = put2 i j T (mtch vt T[j]) := by rw [innI, hT, getD_get (by omega)]
      simp [go_sem, g16, g17, g18, g4, xbin, eqPlain, hj, f1, xindexAt, vload, c2]
      refine (match46 A1 u1 u2 vt T[j] (tE.le (eraseB_le _ _)) t2 hvs).mono ?_
      rintro r A2 ⟨hA2, u, rfl, hu⟩
      have hown2 := hown.le hA2
      have tE2 := tE.le (eraseB_mono hA2 v0)
      have hA02 := View.le_trans hA1 hA2
      have tu : Texts (eraseB A2 v0) u (mtch vt T[j]).2 := by
        obtain ⟨ws, q1, _⟩ := hown
        exact (Own.other hu q1).row
      have hsh3 := hsh.put2 (i := i) (j := j) (x := vt) (y := T[j]) hvs
      cases hm : (mtch vt T[j]).1 with
      | false =>
        have hp : put2 i j T (mtch vt T[j]) = T := by unfold put2; rw [hm]; rfl
        rw [hp] at hstep
        simp [go_sem, g18, xbin, eqPlain, hwj]
        refine hJ2 (k' - 1) _ _ _ (by omega) ⟨j + 1, by omega, rfl, by simp [go_sem, g0], by simp [go_sem, g9], by simp [go_sem, g10], by simp [go_sem, g11], by simp [go_sem, g3], by simp [go_sem, g4], by simp [go_sem, g16], by simp [go_sem, g17], by simp [go_sem], hA02, ?_, ?_, tE2⟩
        · rw [hstep]; exact hown2
        · rw [hstep]; exact hsh
      | true =>
        have hp : put2 i j T (mtch vt T[j]) = (T.set i (mtch vt T[j]).2).set j (mtch vt T[j]).2 := by unfold put2; rw [hm]; rfl
        rw [hp] at hstep hsh3
        generalize (mtch vt T[j]).2 = w at tu hp hstep hsh3
        obtain ⟨A3, s1, o3, s3, s4⟩ := store_ownT (i := i) (cap := cap) (a := a2) ti27 hown2 (by rw [hlen2, hlen]; exact f1) (by omega) tu
        obtain ⟨A4, s5, o4, s7, s8⟩ := store_ownT (i := j) (cap := cap) (a := a2) ti27 o3 (by rw [List.length_set, hlen2, hlen]; exact f1) (by rw [List.length_set]; omega) (by rw [s3]; exact tu)
        simp [go_sem, g0, g3, g18, f1, xbin, eqPlain, hwj, hi, hj, xindexAt, s1, s5]
        refine hJ2 (k' - 1) _ _ _ (by omega) ⟨j + 1, by omega, rfl, by simp [go_sem, g0], by simp [go_sem, g9], by simp [go_sem, g10], by simp [go_sem, g11], by simp [go_sem, g3], by simp [go_sem, g4], by simp [go_sem, g16], by simp [go_sem, g17], by simp [go_sem], s8 (s4 hA02), ?_, ?_, ?_⟩
        · rw [hstep]; exact o4
        · rw [hstep]; exact hsh3
        · rw [s7, s3]; exact tE2
    · have hj' : j = L.length := by omega
      subst hj'
      simp [go_sem, g17, g18, xbin, eqPlain]
      refine hX2 _ _ _ _ ?_
      simp [go_sem, g11, xbin, eqPlain, hwi]
      refine hJ (k - 1) _ _ _ (by omega) ⟨i + 1, by omega, rfl, by simp [go_sem, g0], by simp [go_sem, g9], by simp [go_sem, g10], by simp [go_sem], hA1, ?_, ?_⟩
      · rw [hout, hT]; exact hown
      · rw [hout, hT]; exact hsh
  · have hi' : i = L.length := by omega
    subst hi'
    simp [go_sem, g10, g11, xbin, eqPlain]
    refine hX _ _ _ _ ?_
    simp [go_sem, g0, hS]
    exact ⟨by first | exact e0 | trivial, hA1, by first | exact hown | (rw [e0] at hown; exact hown)⟩
end Go.Proofs.YtdomnigegpigiabV

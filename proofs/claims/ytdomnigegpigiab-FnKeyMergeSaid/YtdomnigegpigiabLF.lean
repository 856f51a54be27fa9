import Derived.Test.YtdomnigegpigiabLE
namespace Go.Proofs.YtdomnigegpigiabV
open Go.RowKit
theorem rows_els {A : View} {v : Value} {l : List (List ByteArray)} (h : Rows2 A v l) : ∃ ws, Row A 1 v l.length ws ∧ Els A ws l ∧ ∀ v ∈ ws, one v = true := by
  obtain ⟨ws, h1, h2, h3⟩ := h
  refine ⟨ws, h1, ⟨h2, h3⟩, fun v hv => ?_⟩
  obtain ⟨j, hj, rfl⟩ := List.getElem_of_mem hv
  obtain ⟨u, hu, ht⟩ := h3 j (by omega)
  rw [List.getElem?_eq_getElem hj] at hu
  rw [Option.some.inj hu]
  exact Texts.one ht
set_option maxHeartbeats 2000000 in
theorem merge9 (A : View) (v0 : Value) (L : List (List ByteArray)) (h : Rows2 A v0 L) (hl : L.length ≤ 100) (hs : Short L) :
    VCalls Try.prog 9 #[v0] A fun r A' => A ≤ A' ∧ OwnT A A' 27 r (outS L L.length) := by
  refine xcalls Try.func9 rfl (by simp [Try.ntmps9]) ?_
  obtain ⟨ws0, hr, hels, hone⟩ := rows_els h
  simp [go_sem, Try.f9, xnew, Instr.fill, zerosB, Value.cells]
  intro b hb
  refine xappend_own ti22 ti22 (fun k => by simp) ti27 rfl (by decide) (own_fresh hb) (le_set hb) (appended_row (hr.le (le_set hb))) (fun h => by rfl) hone (by omega) fun v1 A0 hA0 ho1 hE => ?_
  rw [List.nil_append, Nat.zero_add] at ho1
  have hown0 : OwnT A A0 27 v1 L := ⟨ws0, ho1, hels.1, fun i hi => by
    obtain ⟨u, hu, ht⟩ := hels.2 i hi
    exact ⟨u, hu, ht.le (own_erased ho1 hA0)⟩⟩
  clear hels ho1 hone hr hE
  obtain ⟨b0, c0, e0⟩ := hown0.rows.slice
  simp [go_sem, e0, xlen]
  refine vloopK (fun k e ds A' => ∃ i : Nat, k + i = L.length ∧ ds = [] ∧ e 0 = v1 ∧ e 11 = .int .i64 L.length ∧ e 12 = .int .i64 i ∧ A ≤ A' ∧ OwnT A A' 27 v1 (outS L i) ∧ Short (outS L i)) L.length
    ⟨0, by simp, rfl, by simp [go_sem, e0], by simp [go_sem], by simp [go_sem], hA0, hown0, hs⟩ ?_
  rintro k e ds A1 ⟨i, hk, rfl, g0, g11, g12, hA1, hown, hsh⟩ J X hJ hX
  refine xc_sound _ ?_
  have hlen := outS_len L i
  generalize hS : outS L i = S at hown hsh hlen
  by_cases hi : i < L.length
  · have hwi := wrap_nat (i := i) (by omega)
    have hout : outS L (i + 1) = innS i S L.length := by rw [outS, hS]
    simp [go_sem, g0, g11, g12, xbin, eqPlain, hi, e0, xlen]
    refine vloopK (fun k e ds A' => ∃ j : Nat, k + j = L.length ∧ ds = [] ∧ e 0 = v1 ∧ e 11 = .int .i64 L.length ∧ e 12 = .int .i64 i ∧ e 3 = .int .i64 i ∧ e 16 = .int .i64 L.length ∧ e 17 = .int .i64 j ∧ A ≤ A' ∧
        OwnT A A' 27 v1 (innS i S j) ∧ Short (innS i S j)) L.length
      ⟨0, by simp, rfl, by simp [go_sem, g0, e0], by simp [go_sem, g11], by simp [go_sem, g12], by simp [go_sem], by simp [go_sem], by simp [go_sem], hA1, hown, hsh⟩ ?_
    rintro k' e ds A1 ⟨j, hk', rfl, g0, g11, g12, g3, g16, g17, hA1, hown, hsh⟩ J2 X2 hJ2 hX2
    refine xc_sound _ ?_
    have hlen2 := innS_len i S j
    generalize hT : innS i S j = T at hown hsh hlen2
    by_cases hj : j < L.length
    · have hwj := wrap_nat (i := j) (by omega)
      obtain ⟨a, cap, u1, f1, c1, t1⟩ := hown.rows.at' (i := i) (by omega)
      obtain ⟨a2, cap2, u2, f2, c2, t2⟩ := hown.rows.at' (i := j) (by omega)
      have ha : a2 = a := by
        rw [f1] at f2
        simp only [Value.slice.injEq, Option.some.injEq] at f2
        exact f2.1.symm
      subst ha
      rw [hlen2, hlen] at f1
      have hstep : innS i S (j + 1) = put2 i j T (mtch T[i] T[j]) := by rw [innS, hT, getD_get (by omega), getD_get (by omega)]
      have hxs : T[i].length ≤ 100 := hsh _ (List.getElem_mem _)
      simp [go_sem, g16, g17, xbin, eqPlain, hj]
      refine vdrawK [(0, true), (1, true), (2, true), (3, true), (4, true), (5, true), (6, true), (7, true), (8, true), (9, true), (10, true), (11, true), (12, true), (13, true)] A1 mixed (by kernel_rfl) (View.le_refl _) fun K hK => ?_
      simp only [rslv_cons, rslv_nil, List.getElem?_toArray, List.getElem?_cons_zero, List.getElem?_cons_succ, gres]
      simp [go_sem, g0, g3, g17, f1, xindexAt, hi, hj, vload, c1, c2]
      refine (match24 A1 u1 u2 T[i] T[j] t1 t2 hxs).mono ?_
      rintro r A2 ⟨hA2, u, rfl, hu⟩
      refine ⟨hA2, ?_⟩
      simp [go_sem]
      have hown2 := hown.le hA2
      have hA02 := View.le_trans hA1 hA2
      have tu : Texts (eraseB A2 v1) u (mtch T[i] T[j]).2 := by
        obtain ⟨ws, q1, _⟩ := hown
        exact (Own.other hu q1).row
      have hsh3 := hsh.put2 (i := i) (j := j) (x := T[i]) (y := T[j]) hxs
      refine hK _ _ _ ?_
      simp only [thenQ_normal]
      cases hm : (mtch T[i] T[j]).1 with
      | false =>
        have hp : put2 i j T (mtch T[i] T[j]) = T := by unfold put2; rw [hm]; rfl
        rw [hp] at hstep
        simp [go_sem, g17, xbin, eqPlain, hwj]
        refine hJ2 (k' - 1) _ _ _ (by omega) ⟨j + 1, by omega, rfl, by simp [go_sem, g0], by simp [go_sem, g11], by simp [go_sem, g12], by simp [go_sem, g3], by simp [go_sem, g16], by simp [go_sem], hA02, ?_, ?_⟩
        · rw [hstep]; exact hown2
        · rw [hstep]; exact hsh
      | true =>
        have hp : put2 i j T (mtch T[i] T[j]) = (T.set i (mtch T[i] T[j]).2).set j (mtch T[i] T[j]).2 := by unfold put2; rw [hm]; rfl
        rw [hp] at hstep hsh3
        generalize (mtch T[i] T[j]).2 = w at tu hp hstep hsh3
        obtain ⟨A3, s1, o3, s3, s4⟩ := store_ownT (i := i) (cap := cap) (a := a2) ti27 hown2 (by rw [hlen2, hlen]; exact f1) (by omega) tu
        obtain ⟨A4, s5, o4, s7, s8⟩ := store_ownT (i := j) (cap := cap) (a := a2) ti27 o3 (by rw [List.length_set, hlen2, hlen]; exact f1) (by rw [List.length_set]; omega) (by rw [s3]; exact tu)
        simp [go_sem, g0, g3, g17, f1, xbin, eqPlain, hwj, hi, hj, xindexAt, s1, s5]
        refine hJ2 (k' - 1) _ _ _ (by omega) ⟨j + 1, by omega, rfl, by simp [go_sem, g0], by simp [go_sem, g11], by simp [go_sem, g12], by simp [go_sem, g3], by simp [go_sem, g16], by simp [go_sem], s8 (s4 hA02), ?_, ?_⟩
        · rw [hstep]; exact o4
        · rw [hstep]; exact hsh3
    · have hj' : j = L.length := by omega
      subst hj'
      simp [go_sem, g16, g17, xbin, eqPlain]
      refine hX2 _ _ _ _ ?_
      simp [go_sem, g12, xbin, eqPlain, hwi]
      refine hJ (k - 1) _ _ _ (by omega) ⟨i + 1, by omega, rfl, by simp [go_sem, g0], by simp [go_sem, g11], by simp [go_sem], hA1, ?_, ?_⟩
      · rw [hout, hT]; exact hown
      · rw [hout, hT]; exact hsh
  · have hi' : i = L.length := by omega
    subst hi'
    simp [go_sem, g11, g12, xbin, eqPlain]
    refine hX _ _ _ _ ?_
    simp [go_sem, g0, hS]
    exact ⟨hA1, hown⟩
end Go.Proofs.YtdomnigegpigiabV

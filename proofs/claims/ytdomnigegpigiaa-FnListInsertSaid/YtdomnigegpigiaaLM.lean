import Derived.Test.YtdomnigegpigiaaLL
import Derived.Test.YtdomnigegpigiaaV7
namespace Go.Proofs.YtdomnigegpigiaaV
open Go.RowKit
theorem own_fresh {A : View} {b : Nat} {e : TypeId} {size : Nat} (hb : A b = none) : Own A (A.set b (.cells #[] e (0, 0))) e size (.slice (some ⟨b, 0, none⟩) 0 0) 0 [] := by
  refine ⟨?_, .inr ⟨_, _, rfl, hb⟩⟩
  simp [sliceIn, View.set, View.cells?]
def Els (T : View) (ws : List Value) (l : List (List ByteArray)) : Prop := ws.length = l.length ∧ ∀ i (h : i < l.length), ∃ u, ws[i]? = some u ∧ Texts T u l[i]
theorem Els.append {T : View} {ws cs : List Value} {l m : List (List ByteArray)} (h : Els T ws l) (k : Els T cs m) : Els T (ws ++ cs) (l ++ m) := by
  refine ⟨by rw [List.length_append, List.length_append, h.1, k.1], fun i hi => ?_⟩
  by_cases hil : i < l.length
  · obtain ⟨u, hu, ht⟩ := h.2 i hil
    refine ⟨u, by rw [List.getElem?_append_left (by rw [h.1]; omega)]; exact hu, ?_⟩
    rw [List.getElem_append_left hil]
    exact ht
  · have hj : i - l.length < m.length := by simp at hi; omega
    obtain ⟨u, hu, ht⟩ := k.2 (i - l.length) hj
    refine ⟨u, by rw [List.getElem?_append_right (by rw [h.1]; omega), h.1]; exact hu, ?_⟩
    rw [List.getElem_append_right (by omega)]
    exact ht
theorem Els.one {T : View} {u : Value} {x : List ByteArray} (h : Texts T u x) : Els T [u] [x] := ⟨rfl, fun i hi => by
  have : i = 0 := by simpa using hi
  subst this
  exact ⟨u, rfl, h⟩⟩
def cutr (L : List (List ByteArray)) (i : Nat) : List (List ByteArray) := (L.take i).map fun x => cutl x 5
theorem cutr_succ (L : List (List ByteArray)) (i : Nat) (h : i < L.length) : cutr L (i + 1) = cutr L i ++ [cutl L[i] 5] := by
  unfold cutr
  rw [List.take_succ_eq_append_getElem h, List.map_append]; rfl
theorem cutr_len (L : List (List ByteArray)) (i : Nat) (h : i ≤ L.length) : (cutr L i).length = i := by simp [cutr, Nat.min_eq_left h]
theorem cutl_le (x : List ByteArray) : (cutl x 5).length ≤ 5 := by simp [cutl]; omega
theorem cutr_mem (L : List (List ByteArray)) (i : Nat) : ∀ y ∈ cutr L i, y.length ≤ 5 := by
  intro y hy
  obtain ⟨x, _, rfl⟩ := List.mem_map.1 hy
  exact cutl_le x
set_option maxHeartbeats 2000000 in
theorem law8 (A : View) (v0 v1 : Value) (L : List (List ByteArray)) (X : List ByteArray) (hL : Rows2 A v0 L) (hX : Texts A v1 X) (hl : L.length ≤ 9223372036854775807) (hle : ∀ y ∈ L, y.length ≤ 9223372036854775807) (hsz : ∀ y ∈ L, ∀ s ∈ y, s.size ≤ 9223372036854775807)
    (hxl : X.length ≤ 9223372036854775807) (hxs : ∀ s ∈ X, s.size ≤ 9223372036854775807) :
    VCalls Try.prog 8 #[v0, v1] A fun r A' => r = .bool true ∧ A ≤ A' := by
  refine xcalls Try.func8 rfl (by simp [Try.ntmps8]) ?_
  obtain ⟨b0, c0, e0⟩ := hL.slice
  obtain ⟨b1, c1, e1⟩ := hX.slice
  simp [go_sem, Try.f8]
  refine (fits21 A v0 L hL hl hle).mono ?_
  rintro _ _ ⟨q, rfl, rfl⟩
  cases q with
  | false =>
    simp [go_sem, xunop, gval]
    exact View.le_refl _
  | true =>
  simp [go_sem, xunop, gval]
  refine (fits11 _ v1 X hX hxl).mono ?_
  rintro _ _ ⟨q, rfl, rfl⟩
  cases q with
  | false =>
    simp [go_sem, xunop, gval]
    exact View.le_refl _
  | true =>
  rename_i A
  simp [go_sem, xunop, gval]
  refine vloopK (fun k e ds A' => ∃ i : Nat, k + i = min L.length 8 ∧ ds = [] ∧ e 0 = v0 ∧ e 1 = v1 ∧ e 6 = .int .i64 i ∧ A ≤ A' ∧ ∃ u, e 5 = u ∧ OwnT A A' 25 u (cutr L i)) (min L.length 8)
    ⟨0, by simp, rfl, by simp [go_sem], by simp [go_sem], by simp [go_sem], View.le_refl _, .slice none 0 0, by simp [go_sem], OwnT.nil _ _ _⟩ ?_
  rintro k e ds A1 ⟨i, hk, rfl, h0, h1, h6, hA1, vin, h5, hin⟩ J X1 hJ hX1
  refine xc_sound _ ?_
  by_cases hno : i < L.length ∧ i < 8
  · obtain ⟨hi1, hi2⟩ := hno
    obtain ⟨a, cap, u, f1, g1, t1⟩ := hL.at' hi1
    have hw := wrap_nat (i := i) (by omega)
    have g1' := le_cell hA1 g1
    have hi3 : (i : Int) < 8 := by omega
    obtain ⟨ws, hw1, hwl, hwt⟩ := id hin
    simp [go_sem, h0, h5, h6, f1, xlen, xbin, eqPlain, hi1, hi3, gval, xindexAt, vload, g1']
    refine (cut12 A1 u L[i] 5 (t1.le hA1) (hle _ (List.getElem_mem hi1)) (by omega) (hsz _ (List.getElem_mem hi1))).mono ?_
    rintro r A2 ⟨hA2, hr⟩
    have hr1 : Texts (eraseB A2 vin) r (cutl L[i] 5) := (Own.other hr hw1).row
    obtain ⟨br, cr, rfl⟩ := hr1.slice
    simp [go_sem, xnew, Instr.fill, zerosB, Value.cells]
    intro b hb
    refine xappend_own ti32 ti32 (fun k => by simp) ti25 rfl (by decide) ((hw1.le hA2).le (le_set hb)) (View.le_trans (View.le_trans hA1 hA2) (le_set hb)) appended_one (by simp) (by simp [one]) (by have := cutr_len L i (by omega); omega) fun v' A3 h1' h2' h3' => ?_
    simp [go_sem, h6, xbin, eqPlain, hw, h0, h1]
    refine hJ (k - 1) _ _ _ (by omega) ⟨i + 1, by omega, rfl, by simp [go_sem, h0], by simp [go_sem, h1], by simp [go_sem], h1', v', by simp [go_sem], ?_⟩
    rw [cutr_succ L i hi1]
    refine OwnT.grow (m := [cutl L[i] 5]) (hin.le hA2) (hw1.le hA2) rfl (fun j hj => ?_) h2' (View.le_trans (eraseB_mono (le_set hb) vin) h3')
    have : j = 0 := by simpa using hj
    subst this
    exact ⟨_, rfl, hr1⟩
  · have hln : (cutr L i).length ≤ 8 := by rw [cutr_len L i (by omega)]; omega
    have hlm0 : ∀ y ∈ cutr L i, y.length ≤ 5 := cutr_mem L i
    have tail : ∀ e' : Env, e' 1 = v1 → e' 5 = vin → X1 (.exit 0) e' [] A1 := by
      clear hJ
      generalize cutr L i = lin at hin hln hlm0
      intro e' g1 g5
      refine hX1 _ _ _ _ ?_
      clear hX1
      simp [go_sem, g1, g5]
      refine (cut12 A1 v1 X 5 (hX.le hA1) hxl (by omega) hxs).mono ?_
      rintro vx A2 ⟨hA2, hvx⟩
      obtain ⟨ws, hw1, hwl, hwt⟩ := id hin
      have hx1 : Texts (eraseB A2 vin) vx (cutl X 5) := (Own.other hvx hw1).row
      have hx2 : Texts A2 vx (cutl X 5) := hx1.le (eraseB_le _ _)
      have hxl5 := cutl_le X
      generalize cutl X 5 = x5 at hx1 hx2 hxl5 hvx
      have hin2 := hin.le hA2
      have hels : Els (eraseB A2 vin) ws lin := ⟨hwl, fun j hj => let ⟨u, h1, h2⟩ := hwt j hj; ⟨u, h1, h2.le (eraseB_mono hA2 _)⟩⟩
      have hA02 := View.le_trans hA1 hA2
      obtain ⟨bx, cx, ex⟩ := hx1.slice
      obtain ⟨bv, cv, ev⟩ := hin2.rows.slice
      simp [go_sem, g1, g5, ev, xlen]
      refine vloopK (fun k e ds A' => ∃ i : Nat, k + i = lin.length ∧ ds = [] ∧ e 1 = vx ∧ e 5 = vin ∧ e 7 = .bool (has x5 (lin.take i)) ∧ e 41 = vin ∧ e 42 = .int .i64 lin.length ∧ e 43 = .int .i64 i ∧ A' = A2) lin.length
        ⟨0, by simp, rfl, by simp [go_sem], by simp [go_sem, g5], by simp [go_sem, has], by simp [go_sem, ev], by simp [go_sem], by simp [go_sem], rfl⟩ ?_
      rintro k e ds A2 ⟨i, hk, rfl, h1, h5, h7, h41, h42, h43, rfl⟩ J X1 hJ hX1
      refine xc_sound _ ?_
      by_cases hi : i < lin.length
      · obtain ⟨a, cap, u, f1, g1, t1⟩ := hin2.rows.at' hi
        have hw := wrap_nat (i := i) (by omega)
        have hsucc : has x5 (lin.take (i + 1)) = (has x5 (lin.take i) || decide (lin[i] = x5)) := by
          unfold has
          rw [List.take_succ_eq_append_getElem hi, List.any_append]
          simp
        by_cases hh : has x5 (lin.take i) = true
        · rw [hh] at h7
          simp [go_sem, h41, h42, h43, xbin, eqPlain, hi, f1, xindexAt, vload, g1, h7, gval, hw]
          refine hJ (k - 1) _ _ _ (by omega) ⟨i + 1, by omega, rfl, by simp [go_sem, h1], by simp [go_sem, h5], by simp [go_sem, hsucc, hh], by simp [go_sem, h41, f1], by simp [go_sem, h42], by simp [go_sem], rfl⟩
        · simp only [Bool.not_eq_true] at hh
          rw [hh] at h7
          simp [go_sem, h1, h41, h42, h43, xbin, eqPlain, hi, f1, xindexAt, vload, g1, h7, gval]
          refine (same22 _ vx u x5 lin[i] hx2 t1 (by omega)).mono ?_
          rintro _ _ ⟨rfl, rfl⟩
          simp [go_sem, h43, xbin, eqPlain, hw]
          refine hJ (k - 1) _ _ _ (by omega) ⟨i + 1, by omega, rfl, by simp [go_sem, h1], by simp [go_sem, h5], by simp [go_sem, hsucc, hh, eq_comm], by simp [go_sem, h41, f1], by simp [go_sem, h42], by simp [go_sem], rfl⟩
      · have hi' : i = lin.length := by omega
        subst hi'
        simp [go_sem, h42, h43, xbin, eqPlain]
        refine hX1 _ _ _ _ ?_
        clear hJ hX1
        rw [List.take_length] at h7
        subst ex
        have hone : ∀ v ∈ ws, one v = true := by
          intro v hv
          obtain ⟨j, hj, rfl⟩ := List.getElem_of_mem hv
          obtain ⟨u, hu, ht⟩ := hwt j (by omega)
          rw [List.getElem?_eq_getElem hj] at hu
          obtain ⟨bu, cu, eu⟩ := ht.slice
          rw [Option.some.inj hu, eu]
          rfl
        simp [go_sem, h1, h5, h7, xnew, Instr.fill, zerosB, Value.cells]
        intro b hb
        have hw2 := hw1.le hA2
        refine xappend_own ti32 ti32 (fun k => by simp) ti25 rfl (by decide) (own_fresh hb) (le_set hb) (appended_row (hw2.row.le (le_set hb))) (fun h => by rfl) hone (by omega) fun want A3 h1' h2' h3' => ?_
        rw [List.nil_append, Nat.zero_add] at h2'
        have fin : ∀ (A4 : View) (want : Value) (ws' : List Value), A2 ≤ A4 → Own A2 A4 25 1 want (ins x5 lin).length ws' → Els (eraseB A2 vin) ws' (ins x5 lin) →
            VCalls Try.prog 23 #[vin, .slice bx x5.length cx] A4 fun r A' => ∃ r', r = .tuple #[r', .bool true] ∧ A ≤ A' ∧ Rows2 A' r' (ins x5 lin) ∧ Rows2 A' want (ins x5 lin) := by
          intro A4 want ws' hA4 hwant hels'
          refine (lins23 A A4 vin _ lin x5 (View.le_trans hA02 hA4) (hin2.le hA4) (hx1.le (eraseB_mono hA4 _)) (by omega) (fun y hy => by have := hlm0 y hy; omega) (by omega)).mono ?_
          rintro r A5 ⟨r', rfl, k1, k2, k3⟩
          refine ⟨r', rfl, k1, k3.rows, ws', ((Own.other hwant hw2).row).le (View.le_trans k2 (eraseB_le _ _)), hels'.1, fun j hj => ?_⟩
          obtain ⟨u, hu, ht⟩ := hels'.2 j hj
          exact ⟨u, hu, ht.le (View.le_trans (eraseB_mono hA4 _) (View.le_trans k2 (eraseB_le _ _)))⟩
        have hins : (ins x5 lin).length ≤ 9 := by unfold ins; split <;> (try rw [List.length_append, List.length_singleton]) <;> omega
        have hinm : ∀ y ∈ ins x5 lin, y.length ≤ 9223372036854775807 := by
          intro y hy
          unfold ins at hy
          split at hy
          · have := hlm0 y hy; omega
          · rcases List.mem_append.1 hy with hy | hy
            · have := hlm0 y hy; omega
            · rw [List.mem_singleton.1 hy]; omega
        by_cases hh : has x5 lin = true
        · have hii : ins x5 lin = lin := by unfold ins; rw [if_pos hh]
          have fin' := fin A3 want ws h1' (by rw [hii]; exact h2') (by rw [hii]; exact hels)
          simp [go_sem, hh, xunop]
          refine fin'.mono ?_
          rintro _ A5 ⟨r', rfl, k1, k2, k3⟩
          simp [go_sem, gval]
          refine (same24 A5 r' want _ _ k2 k3 (by omega) hinm).mono ?_
          rintro _ _ ⟨rfl, rfl⟩
          simp [go_sem]
          exact k1
        · simp only [Bool.not_eq_true] at hh
          have hii : ins x5 lin = lin ++ [x5] := by unfold ins; rw [hh]; rfl
          simp [go_sem, hh, xunop]
          intro b2 hb2
          refine xappend_own ti32 ti32 (fun k => by simp) ti25 rfl (by decide) (h2'.le (le_set hb2)) (View.le_trans h1' (le_set hb2)) appended_one (by simp) (by simp [one]) (by omega) fun want2 A4 g1' g2' g3' => ?_
          have fin' := fin A4 want2 _ g1' (by rw [hii, List.length_append]; exact g2') (by rw [hii]; exact hels.append (Els.one hx1))
          refine fin'.mono ?_
          rintro _ A5 ⟨r', rfl, k1, k2, k3⟩
          simp [go_sem, gval]
          refine (same24 A5 r' want2 _ _ k2 k3 (by omega) hinm).mono ?_
          rintro _ _ ⟨rfl, rfl⟩
          simp [go_sem]
          exact k1
    by_cases hi1 : i < L.length
    · have hi3 : ¬ (i : Int) < 8 := by omega
      simp [go_sem, h0, h5, h6, e0, xlen, xbin, eqPlain, hi1, hi3, gval]
      exact tail _ (by simp [go_sem, h1]) (by simp [go_sem, h5])
    · simp [go_sem, h0, h5, h6, e0, xlen, xbin, eqPlain, hi1, gval]
      exact tail _ (by simp [go_sem, h1]) (by simp [go_sem, h5])
theorem law8' (W : World) (v0 : Value) (y0 : List (List ByteArray)) (o0 : Rows2 (full W) v0 y0 ∧ y0.length ≤ maxLen ∧ ∀ y ∈ y0, y.length ≤ maxLen ∧ ∀ s ∈ y, s.size ≤ maxLen)
    (v1 : Value) (y1 : List ByteArray) (o1 : Texts (full W) v1 y1 ∧ y1.length ≤ maxLen ∧ ∀ s ∈ y1, s.size ≤ maxLen) : VCalls Try.prog 8 #[v0, v1] (full W) fun r A' => r = .bool true ∧ full W ≤ A' := by
  have hm : maxLen ≤ 9223372036854775807 := by first | decide | (unfold Go.maxLen; decide)
  exact law8 (full W) v0 v1 y0 y1 o0.1 o1.1 (by omega) (fun y hy => by have := (o0.2.2 y hy).1; omega) (fun y hy s hs => by have := (o0.2.2 y hy).2 s hs; omega) (by omega) (fun s hs => by have := o1.2.2 s hs; omega)
end Go.Proofs.YtdomnigegpigiaaV

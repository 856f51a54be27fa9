/- Tables: the table at a path, as the reference finds it. -/
import Derived.Test.YtogfpbnbojhpoaaTT
namespace Go.Proofs.YtogfpbnbojhpoaaV
open Go.RowKit
set_option linter.unusedSimpArgs false
set_option linter.unusedVariables false
def walkT : RV → List ByteArray → Option RV
  | v, [] => some v
  | v, s :: ss => match at' v s with
    | some u => if kindOf u = 7 then walkT u ss else none
    | none => none
theorem at_some {v u : RV} {s : ByteArray} (h : at' v s = some u) : ∃ k b i f t keys list, v = .mk k b i f t keys list ∧ k = 7 ∧ ∃ j, ∃ (h1 : j < keys.length) (h2 : j < list.length), keys[j] = s ∧ list[j] = u := by
  obtain ⟨k, b, i, f, t, keys, list⟩ := v
  unfold at' at h
  simp only at h
  split at h
  · exact ⟨k, b, i, f, t, keys, list, rfl, by assumption, atR_some h⟩
  · cases h
theorem good_at {v u : RV} {s : ByteArray} {lv : Nat} (hG : Good v lv) (h : at' v s = some u) : Good u (lv - 1) := by
  obtain ⟨k, b, i, f, t, keys, list, rfl, h7, j, h1, h2, h3, rfl⟩ := at_some h
  rw [Good] at hG
  exact hG.2.2.2.2 j h2
theorem nodes_at {v u : RV} {s : ByteArray} (h : at' v s = some u) : nodes u ≤ nodes v := by
  obtain ⟨k, b, i, f, t, keys, list, rfl, h7, j, h1, h2, h3, rfl⟩ := at_some h
  rw [nodes_mk]
  have h4 := S_mono list (j + 1) list.length h2
  have h5 := S_succ list j h2
  rw [S_all] at h4
  omega
def WalkP (v : RV) (l : List ByteArray) (r : Value) (A' : View) : Prop := (∃ u c', walkT v l = some u ∧ r = .tuple #[.agg c', .bool true] ∧ IsRV A' u c') ∨ (walkT v l = none ∧ r = .tuple #[.agg zc, .bool false])
set_option maxRecDepth 20000 in
set_option maxHeartbeats 4000000 in
theorem tableAt21 (A : View) (v : RV) (c : Array Value) (lv : Nat) (p : ByteArray) (hc : IsRV A v c) (hG : Good v lv) (hp : p.size ≤ 2147483648) : VCalls Try.prog 21 #[.agg c, .string p] A fun r A' => WalkP v (parts p) r A' ∧ A ≤ A' := by
  refine xcalls Try.func21 rfl (by simp [Try.ntmps21]) ?_
  simp only [Try.f21]
  have hcz := hc.size
  refine xc_step fun C hC => ?_
  simp [go_sem, xnew, zeroOf, Value.cells, Instr.fill, zerosB]
  intro q hq m hm
  subst hC
  obtain ⟨dqm, hm2, hQ, hM⟩ := two_blocks (d := zc) (e2 := 27) hm
  have LA : A ≤ (A.set q (.cells c 27)).set m (.cells zc 27) := View.le_trans (le_set hq) (le_set hm)
  have hAm : A m = none := none_le (le_set hq) hm
  generalize (A.set q (.cells c 27)).set m (.cells zc 27) = B0 at hQ hM LA
  clear hm hm2
  refine xc_step fun C hC => ?_
  simp [go_sem]
  refine (calls_base (names47 A p hp) LA).mono ?_
  rintro r B1 ⟨D0, ⟨hT, hAD0⟩, hDB, hkeep⟩
  have hpl := parts_length p
  generalize parts p = ps at hT hpl
  obtain ⟨bn, cn, rfl⟩ := hT.slice
  obtain ⟨hDq, hQ⟩ := hkeep q _ hq hQ
  obtain ⟨hDm, hM⟩ := hkeep m _ hAm hM
  clear hkeep LA
  have hc := hc.le hAD0
  simp [go_sem, xlen]
  refine vloopK (fun k' e ds A' => ∃ (j : Nat) (D : View) (w : RV) (cw : Array Value) (l : Nat), k' = ps.length - j ∧ j ≤ ps.length ∧ ds = [] ∧ e 2 = .pointer (some ⟨q, 0, none⟩) ∧ e 4 = .pointer (some ⟨m, 0, none⟩) ∧ e 11 = .slice bn ps.length cn ∧ e 12 = .int .i64 ps.length ∧ e 13 = .int .i64 j ∧
      D0 ≤ D ∧ D ≤ A' ∧ D q = none ∧ D m = none ∧ IsRV D w cw ∧ Good w l ∧ A' q = some (.cells cw 27 (0, 0)) ∧ A' m = some (.cells zc 27 (0, 0)) ∧ walkT v ps = walkT w (ps.drop j)) ps.length
    ⟨0, D0, v, c, lv, by omega, by omega, rfl, by simp [go_sem], by simp [go_sem], by simp [go_sem], by simp [go_sem], by simp [go_sem], View.le_refl _, hDB, hDq, hDm, hc, hG, hQ, hM, rfl⟩ ?_
  clear hQ hM hDB hDq hDm hc hcz
  rintro k' e ds B ⟨j, D, w, cw, l, rfl, hjl, rfl, g2, g4, g11, g12, g13, hD0, hDB, hDq, hDm, hc, hGw, hQ, hM, hwk⟩ J X hJ hX
  refine xc_sound _ ?_
  have hcz := hc.size
  have hAD := View.le_trans hAD0 hD0
  by_cases hj : j < ps.length
  · obtain ⟨a, cap, f1, u1⟩ := hT.at' hj
    simp only [Value.slice.injEq] at f1
    obtain ⟨rfl, -, rfl⟩ := f1
    have u1 := le_cell (View.le_trans hD0 hDB) u1
    have hw := wrap_nat (i := j) (by omega)
    have gq := cells_block hQ hcz
    rw [List.drop_eq_getElem_cons hj, walkT] at hwk
    refine xc_step fun C3 hC3 => ?_
    simp [go_sem, g12, g13, xbin, eqPlain, hj]
    subst hC3
    refine xc_step fun C3 hC3 => ?_
    simp [go_sem]
    subst hC3
    refine xc_step fun C3 hC3 => ?_
    rw [xc_seq, xc_block]
    refine xc_step fun C2 hC2 => ?_
    simp [go_sem, g11, g13, xindexAt, hj, vload, u1]
    subst hC2
    refine xc_step fun C4 hC4 => ?_
    simp [go_sem, g2, vload, gq]
    refine (calls_base (at40 D w cw l ps[j] hc hGw) hDB).mono ?_
    rintro _ B2 ⟨D2, ⟨hF, hDD⟩, hDB2, hkeep⟩
    obtain ⟨hDq2, hQ⟩ := hkeep q _ hDq hQ
    obtain ⟨hDm2, hM⟩ := hkeep m _ hDm hM
    clear hkeep gq
    rcases hF with ⟨u, c', hau, rfl, hc'⟩ | ⟨hau, rfl⟩
    · rw [hau] at hwk
      simp only at hwk
      simp [go_sem, xnew, zeroOf, Value.cells, Instr.fill, zerosB]
      intro m8 hm8
      have hst : xstore Try.prog 27 (.pointer (some ⟨m8, 0, none⟩)) (.agg c') (B2.set m8 (.cells zc 27)) = some (B2.set m8 (.cells c' 27 (0, 0))) := by
        rw [xstore_agg (c := zc) ti27 hc'.size (set_at B2 m8 _) (by rw [hc'.size]; rfl) hc'.one, set_set]
      rw [hst, onS_some]
      have L8 := le_set (o := .cells c' 27) hm8
      have h8 := set_at B2 m8 (.cells c' 27)
      have hQ := L8 _ _ hQ
      have hM := L8 _ _ hM
      have hDB3 := View.le_trans hDB2 L8
      generalize B2.set m8 (.cells c' 27) = B3 at h8 hQ hM hDB3
      clear hst L8 hm8
      subst hC4
      have g8 := cells_block h8 hc'.size
      refine xc_step fun C4 hC4 => ?_
      simp [go_sem, xunop, gval, undef, vload, g8]
      refine (isTable23 B3 u c' (hc'.le hDB3)).mono ?_
      rintro _ B4 ⟨rfl, L4⟩
      have h8 := L4 _ _ h8
      have hQ := L4 _ _ hQ
      have hM := L4 _ _ hM
      have hDB4 := View.le_trans hDB3 L4
      have g8 := cells_block h8 hc'.size
      subst hC4
      have hD2 := View.le_trans hD0 hDD
      cases hk7 : kindOf u == 7 with
      | false =>
        have hk7' : ¬ kindOf u = 7 := by simpa using hk7
        rw [if_neg hk7'] at hwk
        have st := xstore_agg (vs := zc) (c := zc) ti27 rfl hM rfl (by simp [one])
        have gm := cells_block (n := 7) (set_at B4 m (.cells zc 27)) rfl
        simp [go_sem, g4, xunop, xbuild, Instr.fill, Value.cells, st]
        refine hX _ _ _ _ ?_
        simp [go_sem, g4, vload, gm]
        exact ⟨.inr ⟨hwk, rfl⟩, le_set' (View.le_trans hAD (View.le_trans hDD hDB4)) hAm⟩
      | true =>
        have hk7' : kindOf u = 7 := by simpa using hk7
        rw [if_pos hk7'] at hwk
        have st := xstore_agg (vs := c') (c := cw) ti27 hc'.size hQ (by rw [hcz, hc'.size]) hc'.one
        simp [go_sem, g2, xunop, vload, g8, st]
        subst hC3
        simp [go_sem, g13, xbin, eqPlain, hw]
        exact hJ (ps.length - (j + 1)) _ _ _ (by omega) ⟨j + 1, D2, u, c', l - 1, rfl, hj, rfl, by simp [go_sem, g2], by simp [go_sem, g4], by simp [go_sem, g11], by simp [go_sem, g12], by simp [go_sem], hD2, le_set' hDB4 hDq2, hDq2, hDm2, hc', good_at hGw hau, set_at _ _ _, by rw [set_other dqm.symm]; exact hM, hwk⟩
    · rw [hau] at hwk
      simp only at hwk
      simp [go_sem, xnew, zeroOf, Value.cells, Instr.fill, zerosB]
      intro m8 hm8
      have hst : xstore Try.prog 27 (.pointer (some ⟨m8, 0, none⟩)) (.agg zc) (B2.set m8 (.cells zc 27)) = some (B2.set m8 (.cells zc 27 (0, 0))) := by
        rw [xstore_agg (vs := zc) (c := zc) ti27 rfl (set_at B2 m8 _) rfl (by simp [one]), set_set]
      rw [hst, onS_some]
      have L8 := le_set (o := .cells zc 27) hm8
      have hM := L8 _ _ hM
      have hDB3 := View.le_trans hDB2 L8
      generalize B2.set m8 (.cells zc 27) = B3 at hM hDB3
      clear hst L8 hm8
      subst hC4
      have st := xstore_agg (vs := zc) (c := zc) ti27 rfl hM rfl (by simp [one])
      have gm := cells_block (n := 7) (set_at B3 m (.cells zc 27)) rfl
      simp [go_sem, g4, xunop, gval, undef, xbuild, Instr.fill, Value.cells, st]
      refine hX _ _ _ _ ?_
      simp [go_sem, g4, vload, gm]
      exact ⟨.inr ⟨hwk, rfl⟩, le_set' (View.le_trans hAD (View.le_trans hDD hDB3)) hAm⟩
  · refine xc_step fun C3 hC3 => ?_
    simp [go_sem, g12, g13, xbin, eqPlain, hj]
    subst hC3
    refine xc_step fun C3 hC3 => ?_
    simp [go_sem]
    refine hX _ _ _ _ ?_
    simp [go_sem]
    subst hC
    have hj' : j = ps.length := by omega
    rw [hj', List.drop_length, walkT] at hwk
    have gq := cells_block hQ hcz
    have st := xstore_agg (vs := cw) (c := zc) ti27 hcz hM (by rw [hcz]; rfl) hc.one
    have gm := cells_block (n := 7) (set_at B m (.cells cw 27)) hcz
    simp [go_sem, g2, g4, vload, gq, st, gm]
    exact ⟨.inl ⟨w, cw, hwk, rfl, hc.le (le_set' hDB hDm)⟩, le_set' (View.le_trans hAD hDB) hAm⟩
end Go.Proofs.YtogfpbnbojhpoaaV

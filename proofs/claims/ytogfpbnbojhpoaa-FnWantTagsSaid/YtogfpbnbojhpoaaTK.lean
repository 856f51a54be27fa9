/- Tables: the table at a path, as the packages find it. -/
import Derived.Test.YtogfpbnbojhpoaaTU
namespace Go.Proofs.YtogfpbnbojhpoaaV
open Go.RowKit
set_option linter.unusedSimpArgs false
set_option linter.unusedVariables false
def LookP (v : RV) (s : ByteArray) (r : Value) (A' : View) : Prop :=
  (∃ u r', at' v s = some u ∧ kindOf u = 7 ∧ r = .tuple #[.map (some r'), .nilIface] ∧ TabV A' u r') ∨ ((∀ u, at' v s = some u → kindOf u ≠ 7) ∧ ∃ x e, r = .tuple #[x, .iface 125 e] )
set_option maxRecDepth 20000 in
set_option maxHeartbeats 4000000 in
theorem look70 (A : View) (v : RV) (r lv : Nat) (s : ByteArray) (hT : TabV A v r) (hG : Good v lv) : VCalls Try.prog 70 #[.map (some r), .string s] A fun x A' => LookP v s x A' ∧ A ≤ A' := by
  refine xcalls Try.func70 rfl (by simp [Try.ntmps70]) ?_
  simp only [Try.f70]
  obtain ⟨k, b, i, f, t, keys, list⟩ := v
  unfold TabV at hT
  rw [AnyV] at hT
  rcases hT with h | h | h | h | h | h | ⟨rfl, r', vals, hr, hM, hvl, hvs⟩
  · cases h.2
  · cases h.2
  · cases h.2
  · cases h.2
  · cases h.2
  · obtain ⟨_, _, _, h, _⟩ := h
    cases h
  simp only [Value.iface.injEq, Value.map.injEq, Option.some.injEq, true_and] at hr
  subst hr
  rw [Good] at hG
  obtain ⟨hlv, -, -, hkk, hGs⟩ := hG
  have hris : Rising keys ∧ keys.length = list.length := by
    rcases hkk with h | h | h | h | ⟨h, _⟩ | h | ⟨_, h⟩
    iterate 6 exact absurd h (by decide)
    exact h
  obtain ⟨hris, hlen⟩ := hris
  have hat : at' (.mk 7 b i f t keys list) s = atR s keys list := by
    unfold at'
    simp
  refine xc_step fun C hC => ?_
  simp [go_sem]
  subst hC
  cases ha : atR s keys list with
  | none =>
    have hns := atR_none ha (by omega)
    have hlk := hM.look0 (s := s) fun p hp hx => hns (hx ▸ (List.of_mem_zip hp).1)
    refine xc_step fun C hC => ?_
    simp [go_sem, hlk]
    subst hC
    simp [go_sem, xunop, xbuild, Instr.fill, Value.cells, xmkIface]
    refine ⟨.inr ⟨fun u hu => ?_, _, _, rfl⟩, View.le_refl _⟩
    rw [hat, ha] at hu
    cases hu
  | some u =>
    obtain ⟨j, h1, h2, h3, h4⟩ := atR_some ha
    obtain ⟨y, hy, hyV⟩ := hvs j h2
    have hlk := hM.look2 (zip_distinct hris) (h3 ▸ zip_mem h1 hy)
    refine xc_step fun C hC => ?_
    simp [go_sem, hlk]
    subst hC
    refine xc_step fun C hC => ?_
    simp [go_sem, xunop]
    subst hC
    rw [h4] at hyV
    obtain ⟨k', b', i', f', t', keys', list'⟩ := u
    have hyV2 := hyV
    rw [AnyV] at hyV
    have no : k' ≠ 7 → ∀ u, at' (.mk 7 b i f t keys list) s = some u → kindOf u ≠ 7 := by
      intro hne u hu
      rw [hat, ha, Option.some.injEq] at hu
      subst hu
      exact hne
    rcases hyV with ⟨hk, rfl⟩ | ⟨hk, rfl⟩ | ⟨hk, rfl⟩ | ⟨hk, rfl⟩ | ⟨hk, rfl⟩ | ⟨hk, sl, vals', rfl, _⟩ | ⟨hk, r', vals', rfl, _⟩
    case inr.inr.inr.inr.inr.inr =>
      refine xc_step fun C hC => ?_
      simp [go_sem, xassert]
      subst hC
      exact ⟨.inl ⟨RV.mk k' b' i' f' t' keys' list', r', by rw [hat, ha], hk, rfl, hyV2⟩, View.le_refl _⟩
    all_goals
      refine xc_step fun C hC => ?_
      simp [go_sem, xassert]
      subst hC
      refine xc_step fun C hC => ?_
      simp [go_sem, xassert]
      subst hC
      simp [go_sem, xnew, xbuild, Instr.fill, Value.cells, xmkIface]
      intro m hm
      exact ⟨.inr ⟨no (by omega), _, _, rfl⟩, le_set hm⟩
def RoadP (v : RV) (l : List ByteArray) (r : Value) (A' : View) : Prop :=
  (∃ u r', walkT v l = some u ∧ kindOf u = 7 ∧ r = .tuple #[.map (some r'), .nilIface] ∧ TabV A' u r') ∨ (walkT v l = none ∧ ∃ x e, r = .tuple #[x, .iface 125 e])
set_option maxRecDepth 20000 in
set_option maxHeartbeats 4000000 in
theorem table49 (A : View) (v : RV) (r lv : Nat) (p : ByteArray) (hT : TabV A v r) (h7 : kindOf v = 7) (hG : Good v lv) (hp : p.size ≤ 2147483648) : VCalls Try.prog 49 #[.map (some r), .string p] A fun x A' => RoadP v (parts p) x A' ∧ A ≤ A' := by
  refine xcalls Try.func49 rfl (by simp [Try.ntmps49]) ?_
  simp only [Try.f49]
  have hpl := parts_length p
  refine xc_step fun C hC => ?_
  simp [go_sem]
  subst hC
  refine xc_step fun C hC => ?_
  simp [go_sem]
  subst hC
  refine xc_step fun C hC => ?_
  simp [go_sem]
  subst hC
  refine xc_step fun C hC => ?_
  simp [go_sem]
  refine (path69 A p hp).mono ?_
  rintro q B1 ⟨hP, hAB⟩
  generalize parts p = ps at hP hpl
  obtain ⟨bn, cn, rfl⟩ := hP.slice
  have hT := AnyV.le hAB _ _ hT
  simp [go_sem, xlen]
  refine vloopK (fun k' e ds A' => ∃ (j : Nat) (w : RV) (rw' l : Nat), k' = ps.length - j ∧ j ≤ ps.length ∧ ds = [] ∧ e 6 = .map (some rw') ∧ e 7 = .nilIface ∧ e 12 = .slice bn ps.length cn ∧ e 13 = .int .i64 ps.length ∧ e 14 = .int .i64 j ∧
      B1 ≤ A' ∧ TabV A' w rw' ∧ kindOf w = 7 ∧ Good w l ∧ walkT v ps = walkT w (ps.drop j)) ps.length
    ⟨0, v, r, lv, by omega, by omega, rfl, by simp [go_sem], by simp [go_sem], by simp [go_sem], by simp [go_sem], by simp [go_sem], View.le_refl _, hT, h7, hG, rfl⟩ ?_
  clear hT h7 hG
  rintro k' e ds B ⟨j, w, rw', l, rfl, hjl, rfl, g6, g7, g12, g13, g14, hB, hT, h7, hG, hwk⟩ J X hJ hX
  refine xc_sound _ ?_
  by_cases hj : j < ps.length
  · obtain ⟨a, cap, f1, u1⟩ := hP.at' hj
    simp only [Value.slice.injEq] at f1
    obtain ⟨rfl, -, rfl⟩ := f1
    have u1 := le_cell hB u1
    have hw := wrap_nat (i := j) (by omega)
    rw [List.drop_eq_getElem_cons hj, walkT] at hwk
    refine xc_step fun C3 hC3 => ?_
    simp [go_sem, g13, g14, xbin, eqPlain, hj]
    subst hC3
    refine xc_step fun C3 hC3 => ?_
    simp [go_sem]
    subst hC3
    refine xc_step fun C3 hC3 => ?_
    rw [xc_seq, xc_block]
    refine xc_step fun C2 hC2 => ?_
    simp [go_sem, g12, g14, xindexAt, hj, vload, u1]
    subst hC2
    refine xc_step fun C4 hC4 => ?_
    simp [go_sem, g6]
    refine (look70 B w rw' l ps[j] hT hG).mono ?_
    rintro x B2 ⟨hL, L2⟩
    rcases hL with ⟨u, r', hau, hk, rfl, hT2⟩ | ⟨hno, x, e, rfl⟩
    · rw [hau] at hwk
      simp only at hwk
      rw [if_pos hk] at hwk
      simp [go_sem]
      subst hC4
      simp [go_sem, xbin, eqPlain]
      subst hC3
      simp [go_sem, g14, xbin, eqPlain, hw]
      exact hJ (ps.length - (j + 1)) _ _ _ (by omega) ⟨j + 1, u, r', l - 1, rfl, hj, rfl, by simp [go_sem], by simp [go_sem], by simp [go_sem, g12], by simp [go_sem, g13], by simp [go_sem], View.le_trans hB L2, hT2, hk, good_at hG hau, hwk⟩
    · have hwn : walkT v ps = none := by
        rw [hwk]
        cases ha : at' w ps[j] with
        | none => rfl
        | some u => simp only; rw [if_neg (hno u ha)]
      simp [go_sem]
      subst hC4
      simp [go_sem, xbin, eqPlain]
      refine hX _ _ _ _ ?_
      simp [go_sem]
      subst hC
      simp [go_sem]
      exact ⟨.inr ⟨hwn, _, _, rfl⟩, View.le_trans hAB (View.le_trans hB L2)⟩
  · refine xc_step fun C3 hC3 => ?_
    simp [go_sem, g13, g14, xbin, eqPlain, hj]
    subst hC3
    refine xc_step fun C3 hC3 => ?_
    simp [go_sem]
    refine hX _ _ _ _ ?_
    simp [go_sem]
    subst hC
    have hj' : j = ps.length := by omega
    rw [hj', List.drop_length, walkT] at hwk
    simp [go_sem, g6, g7]
    exact ⟨.inl ⟨w, rw', hwk, h7, rfl, hT⟩, View.le_trans hAB hB⟩
end Go.Proofs.YtogfpbnbojhpoaaV

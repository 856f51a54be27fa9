/- Trees: spec.Fits. -/
import Derived.Test.YtpinamipjddobaaRY
namespace Go.Proofs.YtpinamipjddobaaV
open Go.RowKit
set_option linter.unusedSimpArgs false
set_option linter.unusedVariables false
/-- The value behind a key is such a text. -/
def fit1 (x : Tr) (k v : ByteArray) : Bool := match fldOf x k with
  | some y => decide (y.kind = 8) && decide (y.value = v)
  | none => false
def fitB (x : Tr) : List ByteArray → List ByteArray → Bool
  | k :: ks, v :: vs => fit1 x k v && fitB x ks vs
  | _, _ => true
theorem fitB_step {x : Tr} {ks vs : List ByteArray} {i : Nat} (h1 : i < ks.length) (h2 : i < vs.length) : fitB x (ks.drop i) (vs.drop i) = (fit1 x ks[i] vs[i] && fitB x (ks.drop (i + 1)) (vs.drop (i + 1))) := by
  rw [List.drop_eq_getElem_cons h1, List.drop_eq_getElem_cons h2, fitB]
theorem fitB_end {x : Tr} {ks vs : List ByteArray} {i : Nat} (h1 : ks.length ≤ i) : fitB x (ks.drop i) (vs.drop i) = true := by
  rw [List.drop_eq_nil_of_le h1, fitB]
  simp
set_option maxRecDepth 20000 in
set_option maxHeartbeats 400000 in
theorem fits38 (A : View) (t : Tr) (c : Array Value) (v w : Value) (ks vs : List ByteArray) (hc : IsTr A t c) (hv : Texts A v ks) (hw : Texts A w vs) (hl : ks.length = vs.length) (hkl : ks.length ≤ 1000000) (hkn : ∀ s ∈ ks, s ≠ e0) (htl : t.kids.length ≤ 1000000) : VCalls Try.prog 38 #[.agg c, v, w] A fun r A' => r = .bool (fitB t ks vs) ∧ A ≤ A' := by
  obtain ⟨b1, c1, rfl⟩ := hv.slice
  obtain ⟨b2, c2, rfl⟩ := hw.slice
  have hcz := hc.size
  have hco := hc.ones
  refine xcalls Try.func38 rfl (by simp [Try.ntmps38]) ?_
  simp only [Try.f38]
  have hP : Priv A (addrs []) := Priv.nil A
  show xc _ _ _ _ _ _ (ov A [])
  refine xc_two fun N1 hN1 => ?_
  refine xc_reg2 fun K hK => ?_
  simp only [rall, rsl, gres]
  refine seqX_hide2 fun R hR => ?_
  simp [go_sem, hcz, hco]
  intro q3 hq3
  replace hP := hP.cons hq3
  clear hq3
  refine hR _ _ _ ?_; clear hR R
  (refine seqX_hide2 fun R hR => ?_; simp [go_sem, hcz, hco]; refine hR _ _ _ ?_; clear hR R)
  rw [seqX_nil]
  refine hK _ _ _ ?_; clear hK K
  refine hN1 _ _ _ ?_
  refine xc_two fun N2 hN2 => ?_
  refine xc_two fun N3 hN3 => ?_
  refine xc_reg2 fun K hK => ?_
  simp only [rall, rsl, gres]
  iterate 3 (refine seqX_hide2 fun R hR => ?_; simp [go_sem, hcz, hco]; refine hR _ _ _ ?_; clear hR R)
  rw [seqX_nil]
  refine hK _ _ _ ?_; clear hK K
  refine hN3 _ _ _ ?_
  rw [xc_block]
  rw [xc_loop]
  refine vloopK (fun k' e ds A' => ∃ (i : Nat) (D : View), k' = ks.length - i ∧ ds = [] ∧ A' = ov D [(q3, .cells c 24 (0, 0))] ∧ Priv D [q3] ∧ e 1 = .slice b1 ks.length c1 ∧ e 2 = .slice b2 vs.length c2 ∧ e 3 = .pointer (some ⟨q3, 0, none⟩) ∧ e 11 = .slice b1 ks.length c1 ∧ e 12 = .int .i64 ks.length ∧ e 13 = .int .i64 i ∧ (i ≤ ks.length) ∧ (A ≤ D) ∧ (fitB t ks vs = fitB t (ks.drop i) (vs.drop i))) _ ⟨0, A, rfl, rfl, rfl, hP, by simp [go_sem, hcz, hco], by simp [go_sem, hcz, hco], by simp [go_sem, hcz, hco], by simp [go_sem, hcz, hco], by simp [go_sem, hcz, hco], by simp [go_sem, hcz, hco], by omega, View.le_refl _, rfl⟩ ?_
  clear hP
  rintro k' e ds _ ⟨i, D, rfl, rfl, rfl, hP, g1, g2, g3, g11, g12, g13, hil, hAD, hft⟩ J1 X1 hJ1 hX1
  refine xc_sound _ ?_
  have hw1 : IntKind.i64.wrap ((i : Int) + 1) = ((i + 1 : Nat) : Int) := by rw [wrap_in (by omega) (by omega)]; omega
  by_cases hi : i < ks.length
  rotate_left
  · have hii : ¬ (i : Int) < ks.length := by omega
    rw [fitB_end (by omega)] at hft
    refine xc_two fun N4 hN4 => ?_
    refine xc_reg2 fun K hK => ?_
    simp only [rall, rsl, gres]
    (refine seqX_hide2 fun R hR => ?_; simp [go_sem, hcz, hco, g1, g2, g3, g11, g12, g13, hi, hii]; refine hR _ _ _ ?_; clear hR R)
    rw [seqX_nil]
    refine hK _ _ _ ?_; clear hK K
    refine hN4 _ _ _ ?_
    refine xc_two fun N5 hN5 => ?_
    refine xc_iffalse (by simp [go_sem, hcz, hco, g1, g2, g3, g11, g12, g13, hi, hii]) ?_
    refine hX1 _ _ _ _ ?_
    refine hN2 _ _ _ ?_
    refine xc_two fun N6 hN6 => ?_
    refine xc_reg2 fun K hK => ?_
    simp only [rall, rsl, gres]
    (refine seqX_hide2 fun R hR => ?_; simp [go_sem, hcz, hco, g1, g2, g3, g11, g12, g13, hi, hii]; refine hR _ _ _ ?_; clear hR R)
    rw [seqX_nil]
    refine hK _ _ _ ?_; clear hK K
    refine hN6 _ _ _ ?_
    simp [go_sem, hcz, hco, g1, g2, g3, g11, g12, g13, hi, hii]
    exact ⟨hft, View.le_trans hAD (le_ov hP)⟩
  have hii : (i : Int) < ks.length := by omega
  have hi2 : i < vs.length := by omega
  have hii2 : (i : Int) < vs.length := by omega
  rw [fitB_step hi hi2] at hft
  obtain ⟨a1, k1, f1, u1⟩ := hv.at' hi
  simp only [Value.slice.injEq] at f1
  obtain ⟨rfl, -, rfl⟩ := f1
  obtain ⟨a2, k2, f2, u2⟩ := hw.at' hi2
  simp only [Value.slice.injEq] at f2
  obtain ⟨rfl, -, rfl⟩ := f2
  have hne := ne_empty (hkn _ (List.getElem_mem hi))
  have hne1 := hne.1
  have hne2 := hne.2
  have u1 := le_cell hAD u1
  have u2 := le_cell hAD u2
  refine xc_two fun N4 hN4 => ?_
  refine xc_reg2 fun K hK => ?_
  simp only [rall, rsl, gres]
  (refine seqX_hide2 fun R hR => ?_; simp [go_sem, hcz, hco, g1, g2, g3, g11, g12, g13, hi, hii, hi2, hii2, hw1, hne1, hne2, bc hP u1, xindexAt, vload]; refine hR _ _ _ ?_; clear hR R)
  rw [seqX_nil]
  refine hK _ _ _ ?_; clear hK K
  refine hN4 _ _ _ ?_
  refine xc_two fun N5 hN5 => ?_
  refine xc_iftrue (by simp [go_sem, hcz, hco, g1, g2, g3, g11, g12, g13, hi, hii, hi2, hii2, hw1, hne1, hne2, bc hP u1, xindexAt, vload]) ?_
  refine hN5 _ _ _ ?_
  refine xc_two fun N6 hN6 => ?_
  rw [xc_block]
  refine xc_two fun N7 hN7 => ?_
  refine xc_reg2 fun K hK => ?_
  simp only [rall, rsl, gres]
  iterate 5 (refine seqX_hide2 fun R hR => ?_; simp [go_sem, hcz, hco, g1, g2, g3, g11, g12, g13, hi, hii, hi2, hii2, hw1, hne1, hne2, bc hP u1, xindexAt, vload]; refine hR _ _ _ ?_; clear hR R)
  rw [seqX_nil]
  refine hK _ _ _ ?_; clear hK K
  refine hN7 _ _ _ ?_
  refine xc_two fun N8 hN8 => ?_
  refine xc_reg2 fun K hK => ?_
  simp only [rall, rsl, gres]
  (refine seqX_hide2 fun R hR => ?_; simp [go_sem, hcz, hco, g1, g2, g3, g11, g12, g13, hi, hii, hi2, hii2, hw1, hne1, hne2, bc hP u1, xindexAt, vload]; refine hR _ _ _ ?_; clear hR R)
  refine seqX_hide2 fun R hR => ?_
  simp [go_sem, hcz, hco, g1, g2, g3, g11, g12, g13, hi, hii, hi2, hii2, hw1, hne1, hne2, bc hP u1, xindexAt, vload]
  intro q9 hq9
  replace hP := hP.cons hq9
  clear hq9
  have d93 : q9 ≠ q3 := (hP.ne q3 (by simp [addrs])).1
  have d39 : q3 ≠ q9 := (hP.ne q3 (by simp [addrs])).2
  refine hR _ _ _ ?_; clear hR R
  refine seqX_hide2 fun R hR => ?_
  simp [go_sem, hcz, hco, g1, g2, g3, g11, g12, g13, hi, hii, hi2, hii2, hw1, hne1, hne2, bc hP u1, xindexAt, vload, d93, d39]
  refine hR _ _ _ ?_; clear hR R
  rw [seqX_nil]
  refine hK _ _ _ ?_; clear hK K
  refine hN8 _ _ _ ?_
  refine xc_two fun N9 hN9 => ?_
  refine xc_two fun N10 hN10 => ?_
  refine xc_reg2 fun K hK => ?_
  simp only [rall, rsl, gres]
  iterate 2 (refine seqX_hide2 fun R hR => ?_; simp [go_sem, hcz, hco, g1, g2, g3, g11, g12, g13, hi, hii, hi2, hii2, hw1, hne1, hne2, bc hP u1, xindexAt, vload, d93, d39]; refine hR _ _ _ ?_; clear hR R)
  rw [seqX_nil]
  refine hK _ _ _ ?_; clear hK K
  refine hN10 _ _ _ ?_
  refine xc_iftrue (by simp [go_sem, hcz, hco, g1, g2, g3, g11, g12, g13, hi, hii, hi2, hii2, hw1, hne1, hne2, bc hP u1, xindexAt, vload, d93, d39]) ?_
  refine xc_two fun N11 hN11 => ?_
  refine xc_reg2 fun K hK => ?_
  simp only [rall, rsl, gres]
  (refine seqX_hide2 fun R hR => ?_; simp [go_sem, hcz, hco, g1, g2, g3, g11, g12, g13, hi, hii, hi2, hii2, hw1, hne1, hne2, bc hP u1, xindexAt, vload, d93, d39]; refine hR _ _ _ ?_; clear hR R)
  refine seqX_hide2 fun R hR => ?_
  simp [go_sem, hcz, hco, g1, g2, g3, g11, g12, g13, hi, hii, hi2, hii2, hw1, hne1, hne2, bc hP u1, xindexAt, vload, d93, d39]
  intro q22 hq22
  replace hP := hP.cons hq22
  clear hq22
  have d229 : q22 ≠ q9 := (hP.ne q9 (by simp [addrs])).1
  have d922 : q9 ≠ q22 := (hP.ne q9 (by simp [addrs])).2
  have d223 : q22 ≠ q3 := (hP.ne q3 (by simp [addrs])).1
  have d322 : q3 ≠ q22 := (hP.ne q3 (by simp [addrs])).2
  refine hR _ _ _ ?_; clear hR R
  (refine seqX_hide2 fun R hR => ?_; simp [go_sem, hcz, hco, g1, g2, g3, g11, g12, g13, hi, hii, hi2, hii2, hw1, hne1, hne2, bc hP u1, xindexAt, vload, d93, d39, d229, d922, d223, d322]; refine hR _ _ _ ?_; clear hR R)
  refine seqX_hide2 fun R hR => ?_
  simp [go_sem, hcz, hco, g1, g2, g3, g11, g12, g13, hi, hii, hi2, hii2, hw1, hne1, hne2, bc hP u1, xindexAt, vload, d93, d39, d229, d922, d223, d322]
  obtain ⟨eq22, hPn, nq22⟩ := sinkI (A := D) (L := [(q22, .cells c 24 (0, 0)), (q9, .cells c 24 (0, 0)), (q3, .cells c 24 (0, 0))]) 0 hP rfl
  rw [eq22]
  clear eq22 hP; have hP := hPn; clear hPn
  simp only [List.eraseIdx_cons_zero, List.eraseIdx_cons_succ, addrs_cons, addrs_nil] at hP ⊢
  have lq22 : D ≤ D.set q22 (.cells c 24 (0, 0)) := le_set nq22
  have hT1 : Trs (D.set q22 (.cells c 24 (0, 0))) (.slice (some ⟨q22, 0, none⟩) 1 1) [t] := Trs.one (set_at _ _ _) (hc.le (View.le_trans hAD lq22))
  generalize D.set q22 (.cells c 24 (0, 0)) = D1 at hP lq22 hT1 ⊢
  refine call_ov hP (field10 D1 [t] _ ks[i] hT1 (by simp) (fun x hx => by rw [List.mem_singleton] at hx; subst hx; omega)) ?_
  clear hP
  rintro v7 D2 ⟨hv7, hD2⟩ hP
  rw [ffl_one] at hv7
  have hDD := View.le_trans lq22 hD2
  cases hfo : fldOf t ks[i] with
  | none =>
    rw [hfo] at hv7
    obtain ⟨wb, wc, rfl⟩ := hv7.slice
    refine hR _ _ _ ?_; clear hR R
    (refine seqX_hide2 fun R hR => ?_; simp [go_sem, hcz, hco, g1, g2, g3, g11, g12, g13, hi, hii, hi2, hii2, hw1, hne1, hne2, xindexAt, vload, d93, d39, d229, d922, d223, d322]; refine hR _ _ _ ?_; clear hR R)
    rw [seqX_nil]
    refine hK _ _ _ ?_; clear hK K
    refine hN11 _ _ _ ?_
    refine xc_two fun N12 hN12 => ?_
    refine xc_two fun N13 hN13 => ?_
    refine xc_reg2 fun K hK => ?_
    simp only [rall, rsl, gres]
    iterate 3 (refine seqX_hide2 fun R hR => ?_; simp [go_sem, hcz, hco, g1, g2, g3, g11, g12, g13, hi, hii, hi2, hii2, hw1, hne1, hne2, xindexAt, vload, d93, d39, d229, d922, d223, d322]; refine hR _ _ _ ?_; clear hR R)
    rw [seqX_nil]
    refine hK _ _ _ ?_; clear hK K
    refine hN13 _ _ _ ?_
    refine xc_iftrue (by simp [go_sem, hcz, hco, g1, g2, g3, g11, g12, g13, hi, hii, hi2, hii2, hw1, hne1, hne2, xindexAt, vload, d93, d39, d229, d922, d223, d322]) ?_
    refine xc_two fun N14 hN14 => ?_
    refine xc_reg2 fun K hK => ?_
    simp only [rall, rsl, gres]
    (refine seqX_hide2 fun R hR => ?_; simp [go_sem, hcz, hco, g1, g2, g3, g11, g12, g13, hi, hii, hi2, hii2, hw1, hne1, hne2, xindexAt, vload, d93, d39, d229, d922, d223, d322]; refine hR _ _ _ ?_; clear hR R)
    rw [seqX_nil]
    refine hK _ _ _ ?_; clear hK K
    refine hN14 _ _ _ ?_
    refine hX1 _ _ _ _ ?_
    simp [go_sem, hcz, hco, g1, g2, g3, g11, g12, g13, hi, hii, hi2, hii2, hw1, hne1, hne2, xindexAt, vload, d93, d39, d229, d922, d223, d322]
    refine ⟨?_, View.le_trans hAD (View.le_trans hDD (le_ov hP))⟩
    rw [hft, fit1, hfo]
    rfl
  | some x =>
  rw [hfo] at hv7
  obtain ⟨bs', cap', f1, hel2⟩ := hv7
  subst f1
  obtain ⟨a3, c3, rfl, w2, hc2⟩ := hel2 0 (by simp)
  rw [show a3.add (0 * 12) = a3 from if_pos rfl] at w2
  have hz3 := hc2.size
  have ho3 := hc2.ones
  have u2 := le_cell hDD u2
  obtain ⟨k', st', tag', val', an', h', ln', f', row', col', al', kk', rfl⟩ := x.ex
  obtain ⟨bb, bc0, rfl, -⟩ := hc2.open
  have hfi : fit1 t ks[i] vs[i] = (decide (k' = 8) && decide (val' = vs[i])) := by rw [fit1, hfo]; rfl
  rw [hfi] at hft
  refine hR _ _ _ ?_; clear hR R
  (refine seqX_hide2 fun R hR => ?_; simp [go_sem, hcz, hco, g1, g2, g3, g11, g12, g13, hi, hii, hi2, hii2, hw1, hne1, hne2, xindexAt, vload, d93, d39, d229, d922, d223, d322, bcs hP w2, bc hP u2]; refine hR _ _ _ ?_; clear hR R)
  rw [seqX_nil]
  refine hK _ _ _ ?_; clear hK K
  refine hN11 _ _ _ ?_
  refine xc_two fun N12 hN12 => ?_
  refine xc_two fun N13 hN13 => ?_
  refine xc_reg2 fun K hK => ?_
  simp only [rall, rsl, gres]
  iterate 3 (refine seqX_hide2 fun R hR => ?_; simp [go_sem, hcz, hco, g1, g2, g3, g11, g12, g13, hi, hii, hi2, hii2, hw1, hne1, hne2, xindexAt, vload, d93, d39, d229, d922, d223, d322, bcs hP w2, bc hP u2]; refine hR _ _ _ ?_; clear hR R)
  rw [seqX_nil]
  refine hK _ _ _ ?_; clear hK K
  refine hN13 _ _ _ ?_
  refine xc_iffalse (by simp [go_sem, hcz, hco, g1, g2, g3, g11, g12, g13, hi, hii, hi2, hii2, hw1, hne1, hne2, xindexAt, vload, d93, d39, d229, d922, d223, d322, bcs hP w2, bc hP u2]) ?_
  refine hN12 _ _ _ ?_
  refine xc_reg2 fun K hK => ?_
  simp only [rall, rsl, gres]
  iterate 3 (refine seqX_hide2 fun R hR => ?_; simp [go_sem, hcz, hco, g1, g2, g3, g11, g12, g13, hi, hii, hi2, hii2, hw1, hne1, hne2, xindexAt, vload, d93, d39, d229, d922, d223, d322, bcs hP w2, bc hP u2]; refine hR _ _ _ ?_; clear hR R)
  refine seqX_hide2 fun R hR => ?_
  simp [go_sem, hcz, hco, g1, g2, g3, g11, g12, g13, hi, hii, hi2, hii2, hw1, hne1, hne2, xindexAt, vload, d93, d39, d229, d922, d223, d322, bcs hP w2, bc hP u2]
  refine hR _ _ _ ?_; clear hR R
  rw [seqX_nil]
  refine hK _ _ _ ?_; clear hK K
  refine hN9 _ _ _ ?_
  refine xc_two fun N14 hN14 => ?_
  by_cases hk8 : k' = 8
  rotate_left
  · have hkb : (k' == 8) = false := beq_eq_false_iff_ne.2 hk8
    have hkn : (k' != 8) = true := bne_iff_ne.2 hk8
    rw [decide_eq_false hk8] at hft
    rw [xc_draws]
    refine vdrawK [(0, true), (1, true), (2, true), (3, true), (4, true), (5, true), (6, true), (7, true), (8, true), (9, true), (10, true), (11, true)] (ov D2 [(q9, .cells (trc k' st' tag' val' an' h' ln' f' row' col' al' (.slice bb kk'.length bc0)) 24 (0, 0)), (q3, .cells c 24 (0, 0))]) mixed (by kernel_rfl) (View.le_refl _) fun K hK => ?_
    simp only [rsl, gres]
    iterate 12 (refine seqR_hide fun R hR => ?_; simp [go_sem, hcz, hco, g1, g2, g3, g11, g12, g13, hi, hii, hi2, hii2, hw1, hne1, hne2, xindexAt, vload, d93, d39, d229, d922, d223, d322, bcs hP w2, bc hP u2, hk8, hkb, hkn]; refine hR _ _ _ ?_; clear hR R)
    rw [seqR_nil]
    refine hK _ _ _ ?_; clear hK K
    refine hN14 _ _ _ ?_
    refine xc_iftrue (by simp [go_sem, hcz, hco, g1, g2, g3, g11, g12, g13, hi, hii, hi2, hii2, hw1, hne1, hne2, xindexAt, vload, d93, d39, d229, d922, d223, d322, bcs hP w2, bc hP u2, hk8, hkb, hkn]) ?_
    refine xc_two fun N15 hN15 => ?_
    refine xc_reg2 fun K hK => ?_
    simp only [rall, rsl, gres]
    (refine seqX_hide2 fun R hR => ?_; simp [go_sem, hcz, hco, g1, g2, g3, g11, g12, g13, hi, hii, hi2, hii2, hw1, hne1, hne2, xindexAt, vload, d93, d39, d229, d922, d223, d322, bcs hP w2, bc hP u2, hk8, hkb, hkn]; refine hR _ _ _ ?_; clear hR R)
    rw [seqX_nil]
    refine hK _ _ _ ?_; clear hK K
    refine hN15 _ _ _ ?_
    refine hX1 _ _ _ _ ?_
    simp [go_sem, hcz, hco, g1, g2, g3, g11, g12, g13, hi, hii, hi2, hii2, hw1, hne1, hne2, xindexAt, vload, d93, d39, d229, d922, d223, d322, hk8, hkb, hkn]
    exact ⟨hft, View.le_trans hAD (View.le_trans hDD (le_ov hP))⟩
  subst hk8
  by_cases hxv : val' = vs[i]
  rotate_left
  · have hxb := bytes_ne hxv
    rw [decide_eq_false hxv, Bool.and_false, Bool.false_and] at hft
    rw [xc_draws]
    refine vdrawK [(0, true), (1, true), (2, true), (3, true), (4, true), (5, true), (6, true), (7, true), (8, true), (9, true), (10, true), (11, true)] (ov D2 [(q9, .cells (trc 8 st' tag' val' an' h' ln' f' row' col' al' (.slice bb kk'.length bc0)) 24 (0, 0)), (q3, .cells c 24 (0, 0))]) mixed (by kernel_rfl) (View.le_refl _) fun K hK => ?_
    simp only [rsl, gres]
    iterate 12 (refine seqR_hide fun R hR => ?_; simp [go_sem, hcz, hco, g1, g2, g3, g11, g12, g13, hi, hii, hi2, hii2, hw1, hne1, hne2, xindexAt, vload, d93, d39, d229, d922, d223, d322, bcs hP w2, bc hP u2, hxb]; refine hR _ _ _ ?_; clear hR R)
    rw [seqR_nil]
    refine hK _ _ _ ?_; clear hK K
    refine hN14 _ _ _ ?_
    refine xc_iftrue (by simp [go_sem, hcz, hco, g1, g2, g3, g11, g12, g13, hi, hii, hi2, hii2, hw1, hne1, hne2, xindexAt, vload, d93, d39, d229, d922, d223, d322, bcs hP w2, bc hP u2, hxb]) ?_
    refine xc_two fun N15 hN15 => ?_
    refine xc_reg2 fun K hK => ?_
    simp only [rall, rsl, gres]
    (refine seqX_hide2 fun R hR => ?_; simp [go_sem, hcz, hco, g1, g2, g3, g11, g12, g13, hi, hii, hi2, hii2, hw1, hne1, hne2, xindexAt, vload, d93, d39, d229, d922, d223, d322, bcs hP w2, bc hP u2, hxb]; refine hR _ _ _ ?_; clear hR R)
    rw [seqX_nil]
    refine hK _ _ _ ?_; clear hK K
    refine hN15 _ _ _ ?_
    refine hX1 _ _ _ _ ?_
    simp [go_sem, hcz, hco, g1, g2, g3, g11, g12, g13, hi, hii, hi2, hii2, hw1, hne1, hne2, xindexAt, vload, d93, d39, d229, d922, d223, d322, hxb]
    exact ⟨hft, View.le_trans hAD (View.le_trans hDD (le_ov hP))⟩
  have hxl : val'.toList = vs[i].toList := by rw [hxv]
  rw [decide_eq_true hxv, decide_eq_true rfl, Bool.true_and, Bool.true_and] at hft
  rw [xc_draws]
  refine vdrawK [(0, true), (1, true), (2, true), (3, true), (4, true), (5, true), (6, true), (7, true), (8, true), (9, true), (10, true), (11, true)] (ov D2 [(q9, .cells (trc 8 st' tag' val' an' h' ln' f' row' col' al' (.slice bb kk'.length bc0)) 24 (0, 0)), (q3, .cells c 24 (0, 0))]) mixed (by kernel_rfl) (View.le_refl _) fun K hK => ?_
  simp only [rsl, gres]
  iterate 12 (refine seqR_hide fun R hR => ?_; simp [go_sem, hcz, hco, g1, g2, g3, g11, g12, g13, hi, hii, hi2, hii2, hw1, hne1, hne2, xindexAt, vload, d93, d39, d229, d922, d223, d322, bcs hP w2, bc hP u2, hxl]; refine hR _ _ _ ?_; clear hR R)
  rw [seqR_nil]
  refine hK _ _ _ ?_; clear hK K
  refine hN14 _ _ _ ?_
  refine xc_iffalse (by simp [go_sem, hcz, hco, g1, g2, g3, g11, g12, g13, hi, hii, hi2, hii2, hw1, hne1, hne2, xindexAt, vload, d93, d39, d229, d922, d223, d322, bcs hP w2, bc hP u2, hxl]) ?_
  refine hN6 _ _ _ ?_
  refine xc_reg2 fun K hK => ?_
  simp only [rall, rsl, gres]
  iterate 2 (refine seqX_hide2 fun R hR => ?_; simp [go_sem, hcz, hco, g1, g2, g3, g11, g12, g13, hi, hii, hi2, hii2, hw1, hne1, hne2, xindexAt, vload, d93, d39, d229, d922, d223, d322, bcs hP w2, bc hP u2, hxl]; refine hR _ _ _ ?_; clear hR R)
  rw [seqX_nil]
  refine hK _ _ _ ?_; clear hK K
  refine sink_goal 0 hP rfl fun hPn lq9 nq9 => ?_
  clear hP; have hP := hPn; clear hPn
  simp only [List.eraseIdx_cons_zero, List.eraseIdx_cons_succ, addrs_cons, addrs_nil] at hP ⊢
  refine hJ1 (ks.length - (i + 1)) _ _ _ (by omega) ⟨i + 1, _, rfl, rfl, rfl, hP, by simp [go_sem, hcz, hco, g1, g2, g3, g11, g12, g13, hi, hii, hi2, hii2, hw1, hne1, hne2, xindexAt, vload, d93, d39, d229, d922, d223, d322, hxl], by simp [go_sem, hcz, hco, g1, g2, g3, g11, g12, g13, hi, hii, hi2, hii2, hw1, hne1, hne2, xindexAt, vload, d93, d39, d229, d922, d223, d322, hxl], by simp [go_sem, hcz, hco, g1, g2, g3, g11, g12, g13, hi, hii, hi2, hii2, hw1, hne1, hne2, xindexAt, vload, d93, d39, d229, d922, d223, d322, hxl], by simp [go_sem, hcz, hco, g1, g2, g3, g11, g12, g13, hi, hii, hi2, hii2, hw1, hne1, hne2, xindexAt, vload, d93, d39, d229, d922, d223, d322, hxl], by simp [go_sem, hcz, hco, g1, g2, g3, g11, g12, g13, hi, hii, hi2, hii2, hw1, hne1, hne2, xindexAt, vload, d93, d39, d229, d922, d223, d322, hxl], by simp [go_sem, hcz, hco, g1, g2, g3, g11, g12, g13, hi, hii, hi2, hii2, hw1, hne1, hne2, xindexAt, vload, d93, d39, d229, d922, d223, d322, hxl], by omega, View.le_trans hAD (View.le_trans hDD lq9), hft⟩
end Go.Proofs.YtpinamipjddobaaV

/- Trees: SameTrees, tfIs. -/
import Derived.Test.YtpinamipjddobaaRI
import Derived.Test.YtpinamipjddobaaKM
namespace Go.Proofs.YtpinamipjddobaaV
open Go.RowKit
set_option linter.unusedSimpArgs false
set_option linter.unusedVariables false
set_option maxRecDepth 20000 in
set_option maxHeartbeats 400000 in
theorem sames27 (A : View) (v v' : Value) (l : List Tr) (hT : Trs A v l) (hT' : Trs A v' l) (hl : l.length ≤ 1000000) (hnd : ∀ x ∈ l, nds x ≤ 1000000) : VCalls Try.prog 27 #[v, v'] A fun r A' => r = .bool true ∧ A ≤ A' := by
  obtain ⟨b1, bc1, rfl⟩ := hT.slice
  obtain ⟨b2, bc2, rfl⟩ := hT'.slice
  refine xcalls Try.func27 rfl (by simp [Try.ntmps27]) ?_
  simp only [Try.f27]
  have hP : Priv A (addrs []) := Priv.nil A
  show xc _ _ _ _ _ _ (ov A [])
  refine xc_two fun N1 hN1 => ?_
  refine xc_reg2 fun K hK => ?_
  simp only [rall, rsl, gres]
  (refine seqX_hide2 fun R hR => ?_; simp [go_sem]; refine hR _ _ _ ?_; clear hR R)
  rw [seqX_nil]
  refine hK _ _ _ ?_; clear hK K
  refine hN1 _ _ _ ?_
  refine xc_two fun N2 hN2 => ?_
  refine xc_two fun N3 hN3 => ?_
  refine xc_reg2 fun K hK => ?_
  simp only [rall, rsl, gres]
  iterate 5 (refine seqX_hide2 fun R hR => ?_; simp [go_sem]; refine hR _ _ _ ?_; clear hR R)
  rw [seqX_nil]
  refine hK _ _ _ ?_; clear hK K
  refine hN3 _ _ _ ?_
  refine xc_iffalse (by simp [go_sem]) ?_
  refine hN2 _ _ _ ?_
  refine xc_two fun N4 hN4 => ?_
  refine xc_two fun N5 hN5 => ?_
  refine xc_reg2 fun K hK => ?_
  simp only [rall, rsl, gres]
  iterate 3 (refine seqX_hide2 fun R hR => ?_; simp [go_sem]; refine hR _ _ _ ?_; clear hR R)
  rw [seqX_nil]
  refine hK _ _ _ ?_; clear hK K
  refine hN5 _ _ _ ?_
  rw [xc_block]
  rw [xc_loop]
  refine vloopK (fun k' e ds A' => ∃ (i : Nat) (D : View), k' = l.length - i ∧ ds = [] ∧ A' = ov D [] ∧ Priv D [] ∧ e 1 = .slice b2 l.length bc2 ∧ e 12 = .slice b1 l.length bc1 ∧ e 13 = .int .i64 l.length ∧ e 14 = .int .i64 i ∧ (i ≤ l.length) ∧ (A ≤ D)) _ ⟨0, A, rfl, rfl, rfl, hP, by simp [go_sem], by simp [go_sem], by simp [go_sem], by simp [go_sem], by omega, View.le_refl _⟩ ?_
  clear hP
  rintro k' e ds A' ⟨i, D, rfl, rfl, hV, hP, g1, g12, g13, g14, hil, hAD⟩ J1 X1 hJ1 hX1
  refine xc_sound _ ?_
  replace hV := Eq.symm hV; subst hV; replace hP : Priv D (addrs []) := hP
  have hw1 : IntKind.i64.wrap ((i : Int) + 1) = ((i + 1 : Nat) : Int) := by rw [wrap_in (by omega) (by omega)]; omega
  by_cases hi : i < l.length
  rotate_left
  · have hii : ¬ (i : Int) < l.length := by omega
    refine xc_two fun N6 hN6 => ?_
    refine xc_reg2 fun K hK => ?_
    simp only [rall, rsl, gres]
    (refine seqX_hide2 fun R hR => ?_; simp [go_sem, g1, g12, g13, g14, hi, hii]; refine hR _ _ _ ?_; clear hR R)
    rw [seqX_nil]
    refine hK _ _ _ ?_; clear hK K
    refine hN6 _ _ _ ?_
    refine xc_two fun N7 hN7 => ?_
    refine xc_iffalse (by simp [go_sem, g1, g12, g13, g14, hi, hii]) ?_
    refine hX1 _ _ _ _ ?_
    refine hN4 _ _ _ ?_
    refine xc_two fun N8 hN8 => ?_
    refine xc_reg2 fun K hK => ?_
    simp only [rall, rsl, gres]
    (refine seqX_hide2 fun R hR => ?_; simp [go_sem, g1, g12, g13, g14, hi, hii]; refine hR _ _ _ ?_; clear hR R)
    rw [seqX_nil]
    refine hK _ _ _ ?_; clear hK K
    refine hN8 _ _ _ ?_
    simp [go_sem, g1, g12, g13, g14, hi, hii]
    exact hAD
  have hii : (i : Int) < l.length := by omega
  obtain ⟨bs, cap, f1, hel⟩ := hT
  simp only [Value.slice.injEq, true_and] at f1
  obtain ⟨hb1, hbc1⟩ := f1
  obtain ⟨a1, ci, ha1, u1, hci⟩ := hel i hi
  rw [ha1] at hb1
  obtain ⟨bs', cap', f2, hel'⟩ := hT'
  simp only [Value.slice.injEq, true_and] at f2
  obtain ⟨hb2, hbc2⟩ := f2
  obtain ⟨a2, cj, ha2, u2, hcj⟩ := hel' i hi
  rw [ha2] at hb2
  have u1 := le_cells hAD _ _ _ u1
  have u2 := le_cells hAD _ _ _ u2
  have hci := hci.le hAD
  have hcj := hcj.le hAD
  have hz1 := hci.size
  have ho1 := hci.ones
  have hz2 := hcj.size
  have ho2 := hcj.ones
  subst hb1
  subst hb2
  refine xc_two fun N6 hN6 => ?_
  refine xc_reg2 fun K hK => ?_
  simp only [rall, rsl, gres]
  (refine seqX_hide2 fun R hR => ?_; simp [go_sem, g1, g12, g13, g14, hi, hii, hw1, hz1, ho1, hz2, ho2, bcs hP u1, bcs hP u2]; refine hR _ _ _ ?_; clear hR R)
  rw [seqX_nil]
  refine hK _ _ _ ?_; clear hK K
  refine hN6 _ _ _ ?_
  refine xc_two fun N7 hN7 => ?_
  refine xc_iftrue (by simp [go_sem, g1, g12, g13, g14, hi, hii, hw1, hz1, ho1, hz2, ho2, bcs hP u1, bcs hP u2]) ?_
  refine hN7 _ _ _ ?_
  refine xc_two fun N8 hN8 => ?_
  rw [xc_block]
  refine xc_two fun N9 hN9 => ?_
  refine xc_reg2 fun K hK => ?_
  simp only [rall, rsl, gres]
  iterate 3 (refine seqX_hide2 fun R hR => ?_; simp [go_sem, g1, g12, g13, g14, hi, hii, hw1, hz1, ho1, hz2, ho2, bcs hP u1, bcs hP u2]; refine hR _ _ _ ?_; clear hR R)
  refine seqX_hide2 fun R hR => ?_
  simp [go_sem, g1, g12, g13, g14, hi, hii, hw1, hz1, ho1, hz2, ho2, bcs hP u1, bcs hP u2]
  intro q6 hq6
  replace hP := hP.cons hq6
  clear hq6
  refine hR _ _ _ ?_; clear hR R
  (refine seqX_hide2 fun R hR => ?_; simp [go_sem, g1, g12, g13, g14, hi, hii, hw1, hz1, ho1, hz2, ho2, bcs hP u1, bcs hP u2]; refine hR _ _ _ ?_; clear hR R)
  refine seqX_hide2 fun R hR => ?_
  simp [go_sem, g1, g12, g13, g14, hi, hii, hw1, hz1, ho1, hz2, ho2, bcs hP u1, bcs hP u2]
  refine hR _ _ _ ?_; clear hR R
  rw [seqX_nil]
  refine hK _ _ _ ?_; clear hK K
  refine hN9 _ _ _ ?_
  refine xc_two fun N10 hN10 => ?_
  rw [xc_draws]
  refine vdrawK [(0, true), (1, true), (2, true), (3, true), (4, true), (5, false), (6, true)] (ov D [(q6, .cells ci 24 (0, 0))]) mixed (by kernel_rfl) (View.le_refl _) fun K hK => ?_
  simp only [rsl, gres]
  iterate 5 (refine seqR_hide fun R hR => ?_; simp [go_sem, g1, g12, g13, g14, hi, hii, hw1, hz1, ho1, hz2, ho2, bcs hP u1, bcs hP u2]; refine hR _ _ _ ?_; clear hR R)
  refine seqR_hide fun R hR => ?_
  simp [go_sem, g1, g12, g13, g14, hi, hii, hw1, hz1, ho1, hz2, ho2, bcs hP u1, bcs hP u2]
  refine call_ov hP (same14 _ D _ ci cj hci hcj (Same.refl _) (hnd _ (List.getElem_mem hi))) ?_
  clear hP
  rintro _ D2 ⟨rfl, hD2⟩ hP
  refine hR _ _ _ ?_; clear hR R
  (refine seqR_hide fun R hR => ?_; simp [go_sem, g1, g12, g13, g14, hi, hii, hw1, hz1, ho1, hz2, ho2]; refine hR _ _ _ ?_; clear hR R)
  rw [seqR_nil]
  refine hK _ _ _ ?_; clear hK K
  refine hN10 _ _ _ ?_
  refine xc_iffalse (by simp [go_sem, g1, g12, g13, g14, hi, hii, hw1, hz1, ho1, hz2, ho2]) ?_
  refine hN8 _ _ _ ?_
  refine xc_reg2 fun K hK => ?_
  simp only [rall, rsl, gres]
  iterate 2 (refine seqX_hide2 fun R hR => ?_; simp [go_sem, g1, g12, g13, g14, hi, hii, hw1, hz1, ho1, hz2, ho2]; refine hR _ _ _ ?_; clear hR R)
  rw [seqX_nil]
  refine hK _ _ _ ?_; clear hK K
  refine sink_goal 0 hP rfl fun hPn lq6 nq6 => ?_
  clear hP; have hP := hPn; clear hPn
  simp only [List.eraseIdx_cons_zero, List.eraseIdx_cons_succ, addrs_cons, addrs_nil] at hP ⊢
  refine hJ1 (l.length - (i + 1)) _ _ _ (by omega) ⟨i + 1, _, rfl, rfl, rfl, hP, by simp [go_sem, g1, g12, g13, g14, hi, hii, hw1, hz1, ho1, hz2, ho2], by simp [go_sem, g1, g12, g13, g14, hi, hii, hw1, hz1, ho1, hz2, ho2], by simp [go_sem, g1, g12, g13, g14, hi, hii, hw1, hz1, ho1, hz2, ho2], by simp [go_sem, g1, g12, g13, g14, hi, hii, hw1, hz1, ho1, hz2, ho2], by omega, View.le_trans hAD (View.le_trans hD2 lq6)⟩
set_option maxRecDepth 20000 in
theorem tfIs13 (A : View) (t : Tr) (c : Array Value) (n : Int) (hc : IsTr A t c) (hsb : SB t) : VCalls Try.prog 13 #[.agg c, .int .i64 n] A fun r A' => FB (t.kind = n ∧ PL 12 t ∧ nds t ≤ 200) r ∧ A ≤ A' := by
  obtain ⟨k, st, tag, val, an, h, l, f, row, col, al, kids, rfl⟩ := t.ex
  have hc0 := hc
  obtain ⟨bb, bc0, rfl, -⟩ := hc.open
  refine xcalls Try.func13 rfl (by simp [Try.ntmps13]) ?_
  simp only [Try.f13]
  have hP : Priv A (addrs []) := Priv.nil A
  show xc _ _ _ _ _ _ (ov A [])
  by_cases hk : k = n
  · subst hk
    refine xc_two fun N1 hN1 => ?_
    refine xc_reg2 fun K hK => ?_
    simp only [rall, rsl, gres]
    refine seqX_hide2 fun R hR => ?_
    simp [go_sem]
    intro q2 hq2
    replace hP := hP.cons hq2
    clear hq2
    refine hR _ _ _ ?_; clear hR R
    (refine seqX_hide2 fun R hR => ?_; simp [go_sem]; refine hR _ _ _ ?_; clear hR R)
    rw [seqX_nil]
    refine hK _ _ _ ?_; clear hK K
    refine hN1 _ _ _ ?_
    refine xc_two fun N2 hN2 => ?_
    refine xc_reg2 fun K hK => ?_
    simp only [rall, rsl, gres]
    iterate 6 (refine seqX_hide2 fun R hR => ?_; simp [go_sem]; refine hR _ _ _ ?_; clear hR R)
    refine seqX_hide2 fun R hR => ?_
    simp [go_sem]
    refine call_ov hP (plainTree12 A _ _ 200 hc0 hsb (by omega)) ?_
    clear hP
    rintro _ A2 ⟨⟨b, rfl, hb⟩, hA2⟩ hP
    refine hR _ _ _ ?_; clear hR R
    iterate 2 (refine seqX_hide2 fun R hR => ?_; simp [go_sem]; refine hR _ _ _ ?_; clear hR R)
    rw [seqX_nil]
    refine hK _ _ _ ?_; clear hK K
    refine hN2 _ _ _ ?_
    simp [go_sem]
    exact ⟨⟨b, rfl, fun e => ⟨rfl, hb e⟩⟩, View.le_trans hA2 (le_ov hP)⟩
  have hkb : (k == n) = false := beq_eq_false_iff_ne.2 hk
  refine xc_two fun N1 hN1 => ?_
  refine xc_reg2 fun K hK => ?_
  simp only [rall, rsl, gres]
  refine seqX_hide2 fun R hR => ?_
  simp [go_sem, hk, hkb]
  intro q2 hq2
  replace hP := hP.cons hq2
  clear hq2
  refine hR _ _ _ ?_; clear hR R
  (refine seqX_hide2 fun R hR => ?_; simp [go_sem, hk, hkb]; refine hR _ _ _ ?_; clear hR R)
  rw [seqX_nil]
  refine hK _ _ _ ?_; clear hK K
  refine hN1 _ _ _ ?_
  refine xc_two fun N2 hN2 => ?_
  refine xc_reg2 fun K hK => ?_
  simp only [rall, rsl, gres]
  iterate 6 (refine seqX_hide2 fun R hR => ?_; simp [go_sem, hk, hkb]; refine hR _ _ _ ?_; clear hR R)
  refine seqX_hide2 fun R hR => ?_
  simp [go_sem, hk, hkb]
  refine hR _ _ _ ?_; clear hR R
  iterate 2 (refine seqX_hide2 fun R hR => ?_; simp [go_sem, hk, hkb]; refine hR _ _ _ ?_; clear hR R)
  rw [seqX_nil]
  refine hK _ _ _ ?_; clear hK K
  refine hN2 _ _ _ ?_
  simp [go_sem, hk, hkb]
  exact ⟨FB.no _, le_ov hP⟩
set_option maxRecDepth 20000 in
theorem word6 (A : View) (s : ByteArray) (hs : s.size ≤ 1125899906842624) : VCalls Try.prog 20 #[.string s] A fun r A' => FB (Wd s) r ∧ A' = A := by
  refine xcalls Try.func20 rfl (by simp [Try.ntmps20]) ?_
  simp only [Try.f20]
  have hP : Priv A (addrs []) := Priv.nil A
  show xc _ _ _ _ _ _ (ov A [])
  refine xc_two fun N1 hN1 => ?_
  refine xc_reg2 fun K hK => ?_
  simp only [rall, rsl, gres]
  (refine seqX_hide2 fun R hR => ?_; simp [go_sem]; refine hR _ _ _ ?_; clear hR R)
  rw [seqX_nil]
  refine hK _ _ _ ?_; clear hK K
  refine hN1 _ _ _ ?_
  refine xc_two fun N2 hN2 => ?_
  refine xc_reg2 fun K hK => ?_
  simp only [rall, rsl, gres]
  (refine seqX_hide2 fun R hR => ?_; simp [go_sem]; refine hR _ _ _ ?_; clear hR R)
  refine seqX_hide2 fun R hR => ?_
  simp [go_sem]
  refine call_same hP (word A s hs) ?_
  rintro r hr
  refine hR _ _ _ ?_; clear hR R
  (refine seqX_hide2 fun R hR => ?_; simp [go_sem]; refine hR _ _ _ ?_; clear hR R)
  rw [seqX_nil]
  refine hK _ _ _ ?_; clear hK K
  refine hN2 _ _ _ ?_
  simp [go_sem]
  exact ⟨hr, rfl⟩
end Go.Proofs.YtpinamipjddobaaV

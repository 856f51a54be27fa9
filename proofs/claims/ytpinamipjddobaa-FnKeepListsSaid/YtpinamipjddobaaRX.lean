/- Trees: small questions of ElementSetter's; spec.ListNode, laws.tfKeyed. -/
import Derived.Test.YtpinamipjddobaaRP
namespace Go.Proofs.YtpinamipjddobaaV
open Go.RowKit
set_option linter.unusedSimpArgs false
set_option linter.unusedVariables false
/-- An element that is neither null nor empty. -/
def EN (x : Tr) : Prop := x.kind ≠ 1 ∧ x.tag ≠ tNull ∧ (x.kind = 4 → x.kids.length ≠ 0)
set_option maxRecDepth 20000 in
theorem emap143 (A : View) (x : Tr) (p : Nat) (hx : IsYn A x p) (hn : EN x) : VCalls Try.prog 143 #[ptr0 p] A fun r A' => r = .bool false ∧ A' = A := by
  obtain ⟨k, st, tag, val, an, h, l, f, row, col, al, kids, rfl⟩ := x.ex
  obtain ⟨cv, ps, hp, hrow, hpl, hyk⟩ := hx.open
  obtain ⟨cb, cc, rfl⟩ := hrow.form
  have c0 := cell_of (i := 0) hp rfl
  have c6 := cell_of (i := 6) hp rfl
  obtain ⟨-, -, h4⟩ := hn
  replace h4 : k = 4 → kids.length ≠ 0 := h4
  refine xcalls Try.func143 rfl (by simp [Try.ntmps143]) ?_
  simp only [Try.f143]
  have hP : Priv A (addrs []) := Priv.nil A
  show xc _ _ _ _ _ _ (ov A [])
  by_cases hk : k = 4
  · have h4z := h4 hk
    subst hk
    have h4n : ¬ kids = [] := fun e => h4z (by rw [e]; rfl)
    have h4i : ¬ (kids.length : Int) = 0 := by omega
    refine xc_two fun N1 hN1 => ?_
    refine xc_reg2 fun K hK => ?_
    simp only [rall, rsl, gres]
    (refine seqX_hide2 fun R hR => ?_; simp [go_sem, bc hP c0, bc hP c6, h4z, h4n, h4i]; refine hR _ _ _ ?_; clear hR R)
    rw [seqX_nil]
    refine hK _ _ _ ?_; clear hK K
    refine hN1 _ _ _ ?_
    refine xc_two fun N2 hN2 => ?_
    refine xc_reg2 fun K hK => ?_
    simp only [rall, rsl, gres]
    iterate 18 (refine seqX_hide2 fun R hR => ?_; simp [go_sem, bc hP c0, bc hP c6, h4z, h4n, h4i]; refine hR _ _ _ ?_; clear hR R)
    rw [seqX_nil]
    refine hK _ _ _ ?_; clear hK K
    refine hN2 _ _ _ ?_
    simp [go_sem, bc hP c0, bc hP c6, h4z, h4n, h4i]
    rfl
  have hkb : (k == 4) = false := beq_eq_false_iff_ne.2 hk
  refine xc_two fun N1 hN1 => ?_
  refine xc_reg2 fun K hK => ?_
  simp only [rall, rsl, gres]
  (refine seqX_hide2 fun R hR => ?_; simp [go_sem, bc hP c0, bc hP c6, hk, hkb]; refine hR _ _ _ ?_; clear hR R)
  rw [seqX_nil]
  refine hK _ _ _ ?_; clear hK K
  refine hN1 _ _ _ ?_
  refine xc_two fun N2 hN2 => ?_
  refine xc_reg2 fun K hK => ?_
  simp only [rall, rsl, gres]
  iterate 18 (refine seqX_hide2 fun R hR => ?_; simp [go_sem, bc hP c0, bc hP c6, hk, hkb]; refine hR _ _ _ ?_; clear hR R)
  rw [seqX_nil]
  refine hK _ _ _ ?_; clear hK K
  refine hN2 _ _ _ ?_
  simp [go_sem, bc hP c0, bc hP c6, hk, hkb]
  rfl
set_option maxRecDepth 20000 in
theorem emptyMap141 (A : View) (x : Tr) (q : Nat) (hq : IsRn A x q) (hn : EN x) : VCalls Try.prog 141 #[ptr0 q] A fun r A' => r = .bool false ∧ A' = A := by
  have hmiss := missing39 A x q hq hn.1
  rw [decide_eq_false hn.2.1] at hmiss
  have hn0 := hn
  obtain ⟨p, hqc, hy⟩ := hq
  have hem := emap143 A x p hy hn
  obtain ⟨k, st, tag, val, an, h, l, f, row, col, al, kids, rfl⟩ := x.ex
  obtain ⟨cv, ps, hp, hrow, hpl, hyk⟩ := hy.open
  refine xcalls Try.func141 rfl (by simp [Try.ntmps141]) ?_
  simp only [Try.f141]
  have hP : Priv A (addrs []) := Priv.nil A
  show xc _ _ _ _ _ _ (ov A [])
  refine xc_two fun N1 hN1 => ?_
  refine xc_reg2 fun K hK => ?_
  simp only [rall, rsl, gres]
  (refine seqX_hide2 fun R hR => ?_; simp [go_sem]; refine hR _ _ _ ?_; clear hR R)
  rw [seqX_nil]
  refine hK _ _ _ ?_; clear hK K
  refine hN1 _ _ _ ?_
  refine xc_two fun N2 hN2 => ?_
  refine xc_reg2 fun K hK => ?_
  simp only [rall, rsl, gres]
  (refine seqX_hide2 fun R hR => ?_; simp [go_sem]; refine hR _ _ _ ?_; clear hR R)
  refine seqX_hide2 fun R hR => ?_
  simp [go_sem]
  refine call_same hP hmiss ?_
  rintro _ rfl
  refine hR _ _ _ ?_; clear hR R
  iterate 2 (refine seqX_hide2 fun R hR => ?_; simp [go_sem]; refine hR _ _ _ ?_; clear hR R)
  refine seqX_hide2 fun R hR => ?_
  simp [go_sem]
  refine call_same hP (ynode48 A q p k st tag val an cv h l f row col hqc hp hn0.1) ?_
  rintro _ rfl
  refine hR _ _ _ ?_; clear hR R
  refine seqX_hide2 fun R hR => ?_
  simp [go_sem]
  refine call_same hP hem ?_
  rintro _ rfl
  refine hR _ _ _ ?_; clear hR R
  iterate 2 (refine seqX_hide2 fun R hR => ?_; simp [go_sem]; refine hR _ _ _ ?_; clear hR R)
  rw [seqX_nil]
  refine hK _ _ _ ?_; clear hK K
  refine hN2 _ _ _ ?_
  simp [go_sem]
  rfl
set_option maxRecDepth 20000 in
theorem mapNode142 (A : View) (x : Tr) (q : Nat) (c : Array Value) (hz : c.size = 4) (ho : ones c = true) (hq : IsRn A x q) (hn : EN x) (hev : x.kind = 4 → x.kids.length % 2 = 0) (hkl : x.kids.length ≤ 1000000) : VCalls Try.prog 142 #[.agg c, ptr0 q] A fun r A' => r = .bool (decide (x.kind = 4)) ∧ A ≤ A' := by
  refine xcalls Try.func142 rfl (by simp [Try.ntmps142]) ?_
  simp only [Try.f142]
  have hP : Priv A (addrs []) := Priv.nil A
  show xc _ _ _ _ _ _ (ov A [])
  refine xc_two fun N1 hN1 => ?_
  refine xc_reg2 fun K hK => ?_
  simp only [rall, rsl, gres]
  refine seqX_hide2 fun R hR => ?_
  simp [go_sem, hz, ho]
  intro q2 hq2
  replace hP := hP.cons hq2
  clear hq2
  refine hR _ _ _ ?_; clear hR R
  (refine seqX_hide2 fun R hR => ?_; simp [go_sem, hz, ho]; refine hR _ _ _ ?_; clear hR R)
  rw [seqX_nil]
  refine hK _ _ _ ?_; clear hK K
  refine hN1 _ _ _ ?_
  refine xc_two fun N2 hN2 => ?_
  refine xc_reg2 fun K hK => ?_
  simp only [rall, rsl, gres]
  (refine seqX_hide2 fun R hR => ?_; simp [go_sem, hz, ho]; refine hR _ _ _ ?_; clear hR R)
  refine seqX_hide2 fun R hR => ?_
  simp [go_sem, hz, ho]
  by_cases hk : x.kind = 4
  · have hd : decide (x.kind = 4) = true := decide_eq_true hk
    refine call_same hP (errIf79 A x q 4 hq hn.1 hn.2.1 hk (fun _ => hev hk) hkl) ?_
    rintro _ rfl
    refine hR _ _ _ ?_; clear hR R
    iterate 2 (refine seqX_hide2 fun R hR => ?_; simp [go_sem, hz, ho]; refine hR _ _ _ ?_; clear hR R)
    rw [seqX_nil]
    refine hK _ _ _ ?_; clear hK K
    refine hN2 _ _ _ ?_
    simp [go_sem, hz, ho]
    exact ⟨hk, le_ov hP⟩
  have hd : decide (x.kind = 4) = false := decide_eq_false hk
  refine call_ov hP (errKind79 A x q 4 hq hn.1 hn.2.1 hk) ?_
  clear hP
  rintro _ A2 ⟨⟨b, rfl⟩, hA2⟩ hP
  refine hR _ _ _ ?_; clear hR R
  iterate 2 (refine seqX_hide2 fun R hR => ?_; simp [go_sem, hz, ho]; refine hR _ _ _ ?_; clear hR R)
  rw [seqX_nil]
  refine hK _ _ _ ?_; clear hK K
  refine hN2 _ _ _ ?_
  simp [go_sem, hz, ho]
  exact ⟨hk, View.le_trans hA2 (le_ov hP)⟩
set_option maxRecDepth 20000 in
theorem setter140 (A : View) (ev : Value) (kv vv : Value) (ks vs : List ByteArray) (hev : ∃ o, ev = .pointer o) (hk : Texts A kv ks) (hv : Texts A vv vs) (hl : ks.length = vs.length) (h0 : 0 < ks.length) (hkn : ∀ s ∈ ks, s ≠ e0) (hvn : ∀ s ∈ vs, s ≠ e0) : VCalls Try.prog 140 #[.agg #[.string ⟨#[]⟩, ev, kv, vv]] A fun r A' => r = .bool true ∧ A ≤ A' := by
  obtain ⟨o, rfl⟩ := hev
  obtain ⟨a1, c1, f1, u1⟩ := hk.at' (i := 0) h0
  subst f1
  obtain ⟨a2, c2, f2, u2⟩ := hv.at' (i := 0) (by omega)
  subst f2
  rw [show a1.add 0 = a1 from if_pos rfl] at u1
  rw [show a2.add 0 = a2 from if_pos rfl] at u2
  have k1 := ne_empty (hkn _ (List.getElem_mem h0))
  have k2 := ne_empty (hvn _ (List.getElem_mem (show 0 < vs.length by omega)))
  have k11 := k1.1
  have k12 := k1.2
  have k21 := k2.1
  have k22 := k2.2
  have n1 : (0 : Int) < ks.length := by omega
  have n2 : (0 : Int) < vs.length := by omega
  have n3 : 0 < vs.length := by omega
  refine xcalls Try.func140 rfl (by simp [Try.ntmps140]) ?_
  simp only [Try.f140]
  have hP : Priv A (addrs []) := Priv.nil A
  show xc _ _ _ _ _ _ (ov A [])
  refine xc_two fun N1 hN1 => ?_
  refine xc_reg2 fun K hK => ?_
  simp only [rall, rsl, gres]
  refine seqX_hide2 fun R hR => ?_
  simp [go_sem, bc hP u1, bc hP u2, k11, k12, k21, k22, n1, n2, n3, h0, xindexAt, vload]
  intro q1 hq1
  replace hP := hP.cons hq1
  clear hq1
  refine hR _ _ _ ?_; clear hR R
  (refine seqX_hide2 fun R hR => ?_; simp [go_sem, bc hP u1, bc hP u2, k11, k12, k21, k22, n1, n2, n3, h0, xindexAt, vload]; refine hR _ _ _ ?_; clear hR R)
  rw [seqX_nil]
  refine hK _ _ _ ?_; clear hK K
  refine hN1 _ _ _ ?_
  refine xc_two fun N2 hN2 => ?_
  refine xc_reg2 fun K hK => ?_
  simp only [rall, rsl, gres]
  iterate 25 (refine seqX_hide2 fun R hR => ?_; simp [go_sem, bc hP u1, bc hP u2, k11, k12, k21, k22, n1, n2, n3, h0, xindexAt, vload]; refine hR _ _ _ ?_; clear hR R)
  rw [seqX_nil]
  refine hK _ _ _ ?_; clear hK K
  refine hN2 _ _ _ ?_
  simp [go_sem, bc hP u1, bc hP u2, k11, k12, k21, k22, n1, n2, n3, h0, xindexAt, vload]
  exact le_ov hP
set_option maxRecDepth 20000 in
theorem listNode39 (A : View) (l : List Tr) (v : Value) (hv : Trs A v l) : VCalls Try.prog 39 #[v] A fun r A' => ∃ c, r = .agg c ∧ IsTr A' (.mk 2 0 tSeq e0 e0 e0 e0 e0 0 0 (-1) l) c ∧ A ≤ A' := by
  obtain ⟨vb, vc, rfl⟩ := hv.slice
  refine xcalls Try.func39 rfl (by simp [Try.ntmps39]) ?_
  simp only [Try.f39]
  have hP : Priv A (addrs []) := Priv.nil A
  show xc _ _ _ _ _ _ (ov A [])
  refine xc_two fun N1 hN1 => ?_
  refine xc_reg2 fun K hK => ?_
  simp only [rall, rsl, gres]
  refine seqX_hide2 fun R hR => ?_
  simp [go_sem]
  intro q2 hq2
  replace hP := hP.cons hq2
  clear hq2
  refine hR _ _ _ ?_; clear hR R
  rw [seqX_nil]
  refine hK _ _ _ ?_; clear hK K
  refine hN1 _ _ _ ?_
  refine xc_two fun N2 hN2 => ?_
  refine xc_reg2 fun K hK => ?_
  simp only [rall, rsl, gres]
  iterate 2 (refine seqX_hide2 fun R hR => ?_; simp [go_sem]; refine hR _ _ _ ?_; clear hR R)
  refine seqX_hide2 fun R hR => ?_
  simp [go_sem]
  refine hR _ _ _ ?_; clear hR R
  rw [seqX_nil]
  refine hK _ _ _ ?_; clear hK K
  refine hN2 _ _ _ ?_
  simp [go_sem]
  have hh : IsTr A (.mk 2 0 tSeq e0 e0 e0 e0 e0 0 0 (-1) l) (trc 2 0 tSeq e0 e0 e0 e0 e0 0 0 (-1) (.slice vb l.length vc)) := IsTr.of hv
  refine ⟨hh.le ?_, ?_⟩
  · exact le_ov hP
  · exact le_ov hP
end Go.Proofs.YtpinamipjddobaaV

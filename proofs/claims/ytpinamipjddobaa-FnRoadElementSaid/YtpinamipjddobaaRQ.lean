/- Trees: law 10 (FnTreeNames). -/
import Derived.Test.YtpinamipjddobaaRP
namespace Go.Proofs.YtpinamipjddobaaV
open Go.RowKit
set_option linter.unusedSimpArgs false
set_option linter.unusedVariables false
theorem texts_at {A : View} {v : Value} {l : List ByteArray} (h : Texts A v l) : ∃ b c, v = .slice b l.length c := h.slice
set_option maxRecDepth 20000 in
theorem same41 (A : View) (v v' : Value) (l : List ByteArray) (hv : Texts A v l) (hv' : Texts A v' l) (hl : l.length ≤ 1000000) : VCalls Try.prog 41 #[v, v'] A fun r A' => r = .bool true ∧ A ≤ A' := by
  obtain ⟨b1, c1, rfl⟩ := hv.slice
  obtain ⟨b2, c2, rfl⟩ := hv'.slice
  refine xcalls Try.func41 rfl (by simp [Try.ntmps41]) ?_
  simp only [Try.f41]
  have hP : Priv A (addrs []) := Priv.nil A
  show xc _ _ _ _ _ _ (ov A [])
  refine xc_two fun N1 hN1 => ?_
  refine xc_reg2 fun K hK => ?_
  simp only [rall, rsl, gres]
  (refine seqX_hide2 fun R hR => ?_; simp [go_sem]; refine hR _ _ _ ?_; clear hR R)
  rw [seqX_nil]
  refine hK _ _ _ ?_; clear hK K
  refine hN1 _ _ _ ?_
  refine xc_two fun N2 hN2 => ?_
  refine xc_two fun N3 hN3 => ?_
  refine xc_reg2 fun K hK => ?_
  simp only [rall, rsl, gres]
  iterate 5 (refine seqX_hide2 fun R hR => ?_; simp [go_sem]; refine hR _ _ _ ?_; clear hR R)
  rw [seqX_nil]
  refine hK _ _ _ ?_; clear hK K
  refine hN3 _ _ _ ?_
  refine xc_iffalse (by simp [go_sem]) ?_
  refine hN2 _ _ _ ?_
  refine xc_two fun N4 hN4 => ?_
  refine xc_two fun N5 hN5 => ?_
  refine xc_reg2 fun K hK => ?_
  simp only [rall, rsl, gres]
  iterate 3 (refine seqX_hide2 fun R hR => ?_; simp [go_sem]; refine hR _ _ _ ?_; clear hR R)
  rw [seqX_nil]
  refine hK _ _ _ ?_; clear hK K
  refine hN5 _ _ _ ?_
  rw [xc_block]
  rw [xc_loop]
  refine vloopK (fun k' e ds A' => ∃ (i : Nat), k' = l.length - i ∧ ds = [] ∧ A' = ov A [] ∧ Priv A [] ∧ e 0 = .slice b1 l.length c1 ∧ e 1 = .slice b2 l.length c2 ∧ e 12 = .int .i64 l.length ∧ e 13 = .int .i64 i ∧ (i ≤ l.length)) _ ⟨0, rfl, rfl, rfl, hP, by simp [go_sem], by simp [go_sem], by simp [go_sem], by simp [go_sem], by omega⟩ ?_
  clear hP
  rintro k' e ds A' ⟨i, rfl, rfl, hV, hP, g0, g1, g12, g13, hil⟩ J1 X1 hJ1 hX1
  refine xc_sound _ ?_
  replace hV := Eq.symm hV; subst hV; replace hP : Priv A (addrs []) := hP
  have hw1 : IntKind.i64.wrap ((i : Int) + 1) = ((i + 1 : Nat) : Int) := by rw [wrap_in (by omega) (by omega)]; omega
  by_cases hi : i < l.length
  rotate_left
  · have hii : ¬ (i : Int) < l.length := by omega
    refine xc_two fun N6 hN6 => ?_
    refine xc_reg2 fun K hK => ?_
    simp only [rall, rsl, gres]
    (refine seqX_hide2 fun R hR => ?_; simp [go_sem, g0, g1, g12, g13, hi, hii]; refine hR _ _ _ ?_; clear hR R)
    rw [seqX_nil]
    refine hK _ _ _ ?_; clear hK K
    refine hN6 _ _ _ ?_
    refine xc_two fun N7 hN7 => ?_
    refine xc_iffalse (by simp [go_sem, g0, g1, g12, g13, hi, hii]) ?_
    refine hX1 _ _ _ _ ?_
    refine hN4 _ _ _ ?_
    refine xc_two fun N8 hN8 => ?_
    refine xc_reg2 fun K hK => ?_
    simp only [rall, rsl, gres]
    (refine seqX_hide2 fun R hR => ?_; simp [go_sem, g0, g1, g12, g13, hi, hii]; refine hR _ _ _ ?_; clear hR R)
    rw [seqX_nil]
    refine hK _ _ _ ?_; clear hK K
    refine hN8 _ _ _ ?_
    simp [go_sem, g0, g1, g12, g13, hi, hii]
    exact View.le_refl _
  have hii : (i : Int) < l.length := by omega
  obtain ⟨a1, k1, f1, u1⟩ := hv.at' hi
  obtain ⟨a2, k2, f2, u2⟩ := hv'.at' hi
  simp only [Value.slice.injEq] at f1 f2
  obtain ⟨rfl, -, rfl⟩ := f1
  obtain ⟨rfl, -, rfl⟩ := f2
  refine xc_two fun N6 hN6 => ?_
  refine xc_reg2 fun K hK => ?_
  simp only [rall, rsl, gres]
  (refine seqX_hide2 fun R hR => ?_; simp [go_sem, g0, g1, g12, g13, hi, hii, hw1, bc hP u1, bc hP u2, xindexAt, vload]; refine hR _ _ _ ?_; clear hR R)
  rw [seqX_nil]
  refine hK _ _ _ ?_; clear hK K
  refine hN6 _ _ _ ?_
  refine xc_two fun N7 hN7 => ?_
  refine xc_iftrue (by simp [go_sem, g0, g1, g12, g13, hi, hii, hw1, bc hP u1, bc hP u2, xindexAt, vload]) ?_
  refine hN7 _ _ _ ?_
  refine xc_two fun N8 hN8 => ?_
  rw [xc_block]
  refine xc_two fun N9 hN9 => ?_
  refine xc_reg2 fun K hK => ?_
  simp only [rall, rsl, gres]
  iterate 2 (refine seqX_hide2 fun R hR => ?_; simp [go_sem, g0, g1, g12, g13, hi, hii, hw1, bc hP u1, bc hP u2, xindexAt, vload]; refine hR _ _ _ ?_; clear hR R)
  rw [seqX_nil]
  refine hK _ _ _ ?_; clear hK K
  refine hN9 _ _ _ ?_
  refine xc_two fun N10 hN10 => ?_
  rw [xc_draws]
  refine vdrawK [(0, true), (1, true), (2, true), (3, true), (4, true), (5, true), (6, true), (7, true), (8, true)] (ov A []) mixed (by kernel_rfl) (View.le_refl _) fun K hK => ?_
  simp only [rsl, gres]
  iterate 9 (refine seqR_hide fun R hR => ?_; simp [go_sem, g0, g1, g12, g13, hi, hii, hw1, bc hP u1, bc hP u2, xindexAt, vload]; refine hR _ _ _ ?_; clear hR R)
  rw [seqR_nil]
  refine hK _ _ _ ?_; clear hK K
  refine hN10 _ _ _ ?_
  refine xc_iffalse (by simp [go_sem, g0, g1, g12, g13, hi, hii, hw1, bc hP u1, bc hP u2, xindexAt, vload]) ?_
  refine hN8 _ _ _ ?_
  refine xc_reg2 fun K hK => ?_
  simp only [rall, rsl, gres]
  iterate 2 (refine seqX_hide2 fun R hR => ?_; simp [go_sem, g0, g1, g12, g13, hi, hii, hw1, bc hP u1, bc hP u2, xindexAt, vload]; refine hR _ _ _ ?_; clear hR R)
  rw [seqX_nil]
  refine hK _ _ _ ?_; clear hK K
  refine hJ1 (l.length - (i + 1)) _ _ _ (by omega) ⟨i + 1, rfl, rfl, rfl, hP, by simp [go_sem, g0, g1, g12, g13, hi, hii, hw1, xindexAt, vload], by simp [go_sem, g0, g1, g12, g13, hi, hii, hw1, xindexAt, vload], by simp [go_sem, g0, g1, g12, g13, hi, hii, hw1, xindexAt, vload], by simp [go_sem, g0, g1, g12, g13, hi, hii, hw1, xindexAt, vload], by omega⟩
set_option maxRecDepth 20000 in
theorem isNull16 (A : View) (t : Tr) (c : Array Value) (hc : IsTr A t c) : VCalls Try.prog 16 #[.agg c] A fun r A' => (∃ b, r = .bool b ∧ (b = false → ¬ (t.kind = 8 ∧ t.tag = tNull))) ∧ A ≤ A' := by
  obtain ⟨k, st, tag, val, an, h, l, f, row, col, al, kids, rfl⟩ := t.ex
  obtain ⟨bb, bc0, rfl, -⟩ := hc.open
  refine xcalls Try.func16 rfl (by simp [Try.ntmps16]) ?_
  simp only [Try.f16]
  have hP : Priv A (addrs []) := Priv.nil A
  show xc _ _ _ _ _ _ (ov A [])
  by_cases hk : k = 8
  rotate_left
  · have hkb : (k == 8) = false := beq_eq_false_iff_ne.2 hk
    refine xc_two fun N1 hN1 => ?_
    refine xc_reg2 fun K hK => ?_
    simp only [rall, rsl, gres]
    refine seqX_hide2 fun R hR => ?_
    simp [go_sem, hk, hkb]
    intro q1 hq1
    replace hP := hP.cons hq1
    clear hq1
    refine hR _ _ _ ?_; clear hR R
    (refine seqX_hide2 fun R hR => ?_; simp [go_sem, hk, hkb]; refine hR _ _ _ ?_; clear hR R)
    rw [seqX_nil]
    refine hK _ _ _ ?_; clear hK K
    refine hN1 _ _ _ ?_
    refine xc_two fun N2 hN2 => ?_
    refine xc_reg2 fun K hK => ?_
    simp only [rall, rsl, gres]
    iterate 9 (refine seqX_hide2 fun R hR => ?_; simp [go_sem, hk, hkb]; refine hR _ _ _ ?_; clear hR R)
    rw [seqX_nil]
    refine hK _ _ _ ?_; clear hK K
    refine hN2 _ _ _ ?_
    simp [go_sem, hk, hkb]
    exact ⟨fun e => absurd e hk, le_ov hP⟩
  subst hk
  by_cases ht : tag = tNull
  · have ht' : tag.toList = [33, 33, 110, 117, 108, 108] := by rw [ht]; kernel_rfl
    refine xc_two fun N1 hN1 => ?_
    refine xc_reg2 fun K hK => ?_
    simp only [rall, rsl, gres]
    refine seqX_hide2 fun R hR => ?_
    simp [go_sem, ht']
    intro q1 hq1
    replace hP := hP.cons hq1
    clear hq1
    refine hR _ _ _ ?_; clear hR R
    (refine seqX_hide2 fun R hR => ?_; simp [go_sem, ht']; refine hR _ _ _ ?_; clear hR R)
    rw [seqX_nil]
    refine hK _ _ _ ?_; clear hK K
    refine hN1 _ _ _ ?_
    refine xc_two fun N2 hN2 => ?_
    refine xc_reg2 fun K hK => ?_
    simp only [rall, rsl, gres]
    iterate 9 (refine seqX_hide2 fun R hR => ?_; simp [go_sem, ht']; refine hR _ _ _ ?_; clear hR R)
    rw [seqX_nil]
    refine hK _ _ _ ?_; clear hK K
    refine hN2 _ _ _ ?_
    simp [go_sem, ht']
    exact le_ov hP
  have ht' : ¬ tag.toList = [33, 33, 110, 117, 108, 108] := fun e => bytes_ne ht (e.trans (by kernel_rfl))
  refine xc_two fun N1 hN1 => ?_
  refine xc_reg2 fun K hK => ?_
  simp only [rall, rsl, gres]
  refine seqX_hide2 fun R hR => ?_
  simp [go_sem, ht']
  intro q1 hq1
  replace hP := hP.cons hq1
  clear hq1
  refine hR _ _ _ ?_; clear hR R
  (refine seqX_hide2 fun R hR => ?_; simp [go_sem, ht']; refine hR _ _ _ ?_; clear hR R)
  rw [seqX_nil]
  refine hK _ _ _ ?_; clear hK K
  refine hN1 _ _ _ ?_
  refine xc_two fun N2 hN2 => ?_
  refine xc_reg2 fun K hK => ?_
  simp only [rall, rsl, gres]
  iterate 9 (refine seqX_hide2 fun R hR => ?_; simp [go_sem, ht']; refine hR _ _ _ ?_; clear hR R)
  rw [seqX_nil]
  refine hK _ _ _ ?_; clear hK K
  refine hN2 _ _ _ ?_
  simp [go_sem, ht']
  exact ⟨fun _ e => ht e, le_ov hP⟩
theorem PL.evn {t : Tr} {lv : Nat} (h : PL lv t) (hk : t.kind = 4) : t.kids.length % 2 = 0 := by
  obtain ⟨k, st, tag, val, an, hh, l, f, row, col, al, kids, rfl⟩ := t.ex
  rw [PL] at h
  replace hk : k = 4 := hk
  obtain ⟨-, -, h, -⟩ := h
  rcases h with h | h | h
  · omega
  · omega
  · exact h.2.2.2.1
theorem PL.kds {t : Tr} {lv : Nat} (h : PL lv t) : t.kind = 8 ∨ t.kind = 2 ∨ t.kind = 4 := by
  obtain ⟨k, st, tag, val, an, hh, l, f, row, col, al, kids, rfl⟩ := t.ex
  rw [PL] at h
  obtain ⟨-, -, h, -⟩ := h
  rcases h with h | h | h
  · exact .inl h.1
  · exact .inr (.inl h.1)
  · exact .inr (.inr h.1)
theorem PL.nn {t : Tr} {lv : Nat} (h : PL lv t) (hn : ¬ (t.kind = 8 ∧ t.tag = tNull)) : t.tag ≠ tNull := by
  obtain ⟨k, st, tag, val, an, hh, l, f, row, col, al, kids, rfl⟩ := t.ex
  rw [PL] at h
  obtain ⟨-, -, h, -⟩ := h
  intro e
  replace e : tag = tNull := e
  rcases h with h | h | h
  · exact hn ⟨h.1, e⟩
  · rw [h.2.1] at e; exact absurd e (by decide)
  · rw [h.2.1] at e; exact absurd e (by decide)
set_option maxRecDepth 20000 in
set_option maxHeartbeats 400000 in
theorem names10 (A : View) (c : Array Value) (t : Tr) (hh : IsTr A t c ∧ SB t) : VCalls Try.prog 10 #[.agg c] A fun r A' => r = .bool true ∧ A ≤ A' := by
  obtain ⟨hc, hsb⟩ := hh
  obtain ⟨k, st, tag, val, an, h, ln, f, row, col, al, kk, rfl⟩ := t.ex
  have hc0 := hc
  obtain ⟨bb, bc0, rfl, hT⟩ := hc.open
  refine xcalls Try.func10 rfl (by simp [Try.ntmps10]) ?_
  simp only [Try.f10]
  have hP : Priv A (addrs []) := Priv.nil A
  show xc _ _ _ _ _ _ (ov A [])
  refine xc_two fun N1 hN1 => ?_
  refine xc_reg2 fun K hK => ?_
  simp only [rall, rsl, gres]
  refine seqX_hide2 fun R hR => ?_
  simp [go_sem]
  intro q1 hq1
  replace hP := hP.cons hq1
  clear hq1
  refine hR _ _ _ ?_; clear hR R
  (refine seqX_hide2 fun R hR => ?_; simp [go_sem]; refine hR _ _ _ ?_; clear hR R)
  rw [seqX_nil]
  refine hK _ _ _ ?_; clear hK K
  refine hN1 _ _ _ ?_
  refine xc_two fun N2 hN2 => ?_
  refine xc_two fun N3 hN3 => ?_
  refine xc_reg2 fun K hK => ?_
  simp only [rall, rsl, gres]
  (refine seqX_hide2 fun R hR => ?_; simp [go_sem]; refine hR _ _ _ ?_; clear hR R)
  refine seqX_hide2 fun R hR => ?_
  simp [go_sem]
  refine call_ov hP (fits8 A _ _ hc0) ?_
  clear hP
  rintro _ A1 ⟨⟨b, rfl, -⟩, hA1⟩ hP
  cases b with
  | false =>
    refine hR _ _ _ ?_; clear hR R
    (refine seqX_hide2 fun R hR => ?_; simp [go_sem]; refine hR _ _ _ ?_; clear hR R)
    rw [seqX_nil]
    refine hK _ _ _ ?_; clear hK K
    refine hN3 _ _ _ ?_
    refine xc_iftrue (by simp [go_sem]) ?_
    refine xc_two fun N4 hN4 => ?_
    refine xc_reg2 fun K hK => ?_
    simp only [rall, rsl, gres]
    (refine seqX_hide2 fun R hR => ?_; simp [go_sem]; refine hR _ _ _ ?_; clear hR R)
    rw [seqX_nil]
    refine hK _ _ _ ?_; clear hK K
    refine hN4 _ _ _ ?_
    simp [go_sem]
    exact View.le_trans hA1 (le_ov hP)
  | true =>
  refine hR _ _ _ ?_; clear hR R
  (refine seqX_hide2 fun R hR => ?_; simp [go_sem]; refine hR _ _ _ ?_; clear hR R)
  rw [seqX_nil]
  refine hK _ _ _ ?_; clear hK K
  refine hN3 _ _ _ ?_
  refine xc_iffalse (by simp [go_sem]) ?_
  refine hN2 _ _ _ ?_
  refine xc_two fun N4 hN4 => ?_
  refine xc_two fun N5 hN5 => ?_
  refine xc_reg2 fun K hK => ?_
  simp only [rall, rsl, gres]
  (refine seqX_hide2 fun R hR => ?_; simp [go_sem]; refine hR _ _ _ ?_; clear hR R)
  refine seqX_hide2 fun R hR => ?_
  simp [go_sem]
  refine call_ov hP (plainTree12 A1 _ _ 200 (hc0.le hA1) hsb (by omega)) ?_
  clear hP
  rintro _ A2 ⟨⟨b, rfl, hb⟩, hA2⟩ hP
  have hA := View.le_trans hA1 hA2
  cases b with
  | false =>
    refine hR _ _ _ ?_; clear hR R
    iterate 3 (refine seqX_hide2 fun R hR => ?_; simp [go_sem]; refine hR _ _ _ ?_; clear hR R)
    refine seqX_hide2 fun R hR => ?_
    simp [go_sem]
    refine hR _ _ _ ?_; clear hR R
    (refine seqX_hide2 fun R hR => ?_; simp [go_sem]; refine hR _ _ _ ?_; clear hR R)
    rw [seqX_nil]
    refine hK _ _ _ ?_; clear hK K
    refine hN5 _ _ _ ?_
    refine xc_iftrue (by simp [go_sem]) ?_
    refine xc_two fun N6 hN6 => ?_
    refine xc_reg2 fun K hK => ?_
    simp only [rall, rsl, gres]
    (refine seqX_hide2 fun R hR => ?_; simp [go_sem]; refine hR _ _ _ ?_; clear hR R)
    rw [seqX_nil]
    refine hK _ _ _ ?_; clear hK K
    refine hN6 _ _ _ ?_
    simp [go_sem]
    exact View.le_trans hA (le_ov hP)
  | true =>
  obtain ⟨hpl, hnd⟩ := hb rfl
  refine hR _ _ _ ?_; clear hR R
  iterate 3 (refine seqX_hide2 fun R hR => ?_; simp [go_sem]; refine hR _ _ _ ?_; clear hR R)
  refine seqX_hide2 fun R hR => ?_
  simp [go_sem]
  refine call_ov hP (isNull16 A2 _ _ (hc0.le hA)) ?_
  clear hP
  rintro _ A3 ⟨⟨b, rfl, hbn⟩, hA3⟩ hP
  have hA := View.le_trans hA hA3
  cases b with
  | true =>
    refine hR _ _ _ ?_; clear hR R
    (refine seqX_hide2 fun R hR => ?_; simp [go_sem]; refine hR _ _ _ ?_; clear hR R)
    rw [seqX_nil]
    refine hK _ _ _ ?_; clear hK K
    refine hN5 _ _ _ ?_
    refine xc_iftrue (by simp [go_sem]) ?_
    refine xc_two fun N6 hN6 => ?_
    refine xc_reg2 fun K hK => ?_
    simp only [rall, rsl, gres]
    (refine seqX_hide2 fun R hR => ?_; simp [go_sem]; refine hR _ _ _ ?_; clear hR R)
    rw [seqX_nil]
    refine hK _ _ _ ?_; clear hK K
    refine hN6 _ _ _ ?_
    simp [go_sem]
    exact View.le_trans hA (le_ov hP)
  | false =>
  have htn := hpl.nn (hbn rfl)
  have hkd : k = 8 ∨ k = 2 ∨ k = 4 := hpl.kds
  have hkl : kk.length ≤ 1000000 := by
    have h5 := nds_len kk
    rw [nds_mk] at hnd
    omega
  refine hR _ _ _ ?_; clear hR R
  (refine seqX_hide2 fun R hR => ?_; simp [go_sem]; refine hR _ _ _ ?_; clear hR R)
  rw [seqX_nil]
  refine hK _ _ _ ?_; clear hK K
  refine hN5 _ _ _ ?_
  refine xc_iffalse (by simp [go_sem]) ?_
  refine hN4 _ _ _ ?_
  refine xc_two fun N6 hN6 => ?_
  refine xc_reg2 fun K hK => ?_
  simp only [rall, rsl, gres]
  (refine seqX_hide2 fun R hR => ?_; simp [go_sem]; refine hR _ _ _ ?_; clear hR R)
  refine seqX_hide2 fun R hR => ?_
  simp [go_sem]
  by_cases hk : k = 4
  rotate_left
  · have hkb : (k == 4) = false := beq_eq_false_iff_ne.2 hk
    have hkbn : (k != 4) = true := bne_iff_ne.2 hk
    refine call_ov hP (fieldNamesE40 A3 _ 12 _ (hc0.le hA) hpl.pt (by omega) (by omega) (by show k ≠ 1; omega) hk htn) ?_
    clear hP
    rintro _ A4 ⟨rfl, hA4⟩ hP
    refine hR _ _ _ ?_; clear hR R
    iterate 5 (refine seqX_hide2 fun R hR => ?_; simp [go_sem, hk, hkb, hkbn]; refine hR _ _ _ ?_; clear hR R)
    rw [seqX_nil]
    refine hK _ _ _ ?_; clear hK K
    refine hN6 _ _ _ ?_
    refine xc_two fun N7 hN7 => ?_
    refine xc_two fun N8 hN8 => ?_
    refine xc_reg2 fun K hK => ?_
    simp only [rall, rsl, gres]
    iterate 3 (refine seqX_hide2 fun R hR => ?_; simp [go_sem, hk, hkb, hkbn]; refine hR _ _ _ ?_; clear hR R)
    rw [seqX_nil]
    refine hK _ _ _ ?_; clear hK K
    refine hN8 _ _ _ ?_
    refine xc_iftrue (by simp [go_sem, hk, hkb, hkbn]) ?_
    refine xc_two fun N9 hN9 => ?_
    refine xc_reg2 fun K hK => ?_
    simp only [rall, rsl, gres]
    iterate 3 (refine seqX_hide2 fun R hR => ?_; simp [go_sem, hk, hkb, hkbn]; refine hR _ _ _ ?_; clear hR R)
    refine seqX_hide2 fun R hR => ?_
    simp [go_sem, hk, hkb, hkbn]
    refine call_ov hP (lives28 A4) ?_
    clear hP
    rintro _ A5 ⟨rfl, hA5⟩ hP
    refine hR _ _ _ ?_; clear hR R
    iterate 2 (refine seqX_hide2 fun R hR => ?_; simp [go_sem, hk, hkb, hkbn]; refine hR _ _ _ ?_; clear hR R)
    rw [seqX_nil]
    refine hK _ _ _ ?_; clear hK K
    refine hN9 _ _ _ ?_
    simp [go_sem, hk, hkb, hkbn]
    exact View.le_trans hA (View.le_trans hA4 (View.le_trans hA5 (le_ov hP)))
  have hev : kk.length % 2 = 0 := hpl.evn hk
  refine call_ov hP (fieldNames40 A3 _ 12 _ (hc0.le hA) hpl.pt (by omega) (by omega) hk htn hev hkl) ?_
  clear hP
  rintro _ A4 ⟨u, rfl, htx, hA4⟩ hP
  have hA := View.le_trans hA hA4
  replace htx : Texts A4 u (keysL kk) := htx
  obtain ⟨ub, uc, rfl⟩ := htx.slice
  subst hk
  refine hR _ _ _ ?_; clear hR R
  iterate 5 (refine seqX_hide2 fun R hR => ?_; simp [go_sem]; refine hR _ _ _ ?_; clear hR R)
  rw [seqX_nil]
  refine hK _ _ _ ?_; clear hK K
  refine hN6 _ _ _ ?_
  refine xc_two fun N7 hN7 => ?_
  refine xc_two fun N8 hN8 => ?_
  refine xc_reg2 fun K hK => ?_
  simp only [rall, rsl, gres]
  iterate 3 (refine seqX_hide2 fun R hR => ?_; simp [go_sem]; refine hR _ _ _ ?_; clear hR R)
  rw [seqX_nil]
  refine hK _ _ _ ?_; clear hK K
  refine hN8 _ _ _ ?_
  refine xc_iffalse (by simp [go_sem]) ?_
  refine hN7 _ _ _ ?_
  refine xc_two fun N9 hN9 => ?_
  refine xc_reg2 fun K hK => ?_
  simp only [rall, rsl, gres]
  (refine seqX_hide2 fun R hR => ?_; simp [go_sem]; refine hR _ _ _ ?_; clear hR R)
  rw [seqX_nil]
  refine hK _ _ _ ?_; clear hK K
  refine hN9 _ _ _ ?_
  refine xc_two fun N10 hN10 => ?_
  refine xc_two fun N11 hN11 => ?_
  refine xc_reg2 fun K hK => ?_
  simp only [rall, rsl, gres]
  (refine seqX_hide2 fun R hR => ?_; simp [go_sem]; refine hR _ _ _ ?_; clear hR R)
  rw [seqX_nil]
  refine hK _ _ _ ?_; clear hK K
  refine hN11 _ _ _ ?_
  rw [xc_block]
  rw [xc_loop]
  refine vloopK (fun k' e ds A' => ∃ (i : Nat) (D : View) (w : Value) (ks : List ByteArray), k' = kk.length - i ∧ ds = [] ∧ A' = ov D [(q1, .cells (trc 4 st tag val an h ln f row col al (.slice bb kk.length bc0)) 24 (0, 0))] ∧ Priv D [q1] ∧ e 1 = .pointer (some ⟨q1, 0, none⟩) ∧ e 3 = .slice ub (keysL kk).length uc ∧ e 4 = .int .i64 0 ∧ e 5 = w ∧ e 6 = .int .i64 i ∧ (i ≤ kk.length) ∧ (i % 2 = 0) ∧ (A4 ≤ eraseB D w) ∧ (Own (eraseB D w) D 9 1 w ks.length (ks.map .string)) ∧ (keysL kk = ks ++ keysL (kk.drop i)) ∧ (ks.length ≤ i)) _ ⟨0, A4, .slice none 0 0, [], rfl, rfl, rfl, hP, by simp [go_sem], by simp [go_sem], by simp [go_sem], by simp [go_sem], by simp [go_sem], by omega, rfl, View.le_refl _, Own.nil _ _ _ _, rfl, Nat.le_refl _⟩ ?_
  clear hP
  rintro k' e ds _ ⟨i, D, w, ks, rfl, rfl, rfl, hP, g1, g3, g4, g5, g6, hil, hi2, hAD, hO, hks, hkz⟩ J1 X1 hJ1 hX1
  refine xc_sound _ ?_
  have hw2 : IntKind.i64.wrap ((i : Int) + 2) = ((i + 2 : Nat) : Int) := by rw [wrap_in (by omega) (by omega)]; omega
  have hA4D := View.le_trans hAD (eraseB_le D w)
  obtain ⟨vb, vc, rfl⟩ := hO.shape
  by_cases hi : i < kk.length
  rotate_left
  · rw [keysL_end (by omega), List.append_nil] at hks
    have hii : ¬ (i : Int) < kk.length := by omega
    have htw : Texts D (.slice vb ks.length vc) (keysL kk) := by rw [hks]; exact hO.row
    refine xc_two fun N12 hN12 => ?_
    refine xc_two fun N13 hN13 => ?_
    refine xc_reg2 fun K hK => ?_
    simp only [rall, rsl, gres]
    iterate 5 (refine seqX_hide2 fun R hR => ?_; simp [go_sem, g1, g3, g4, g5, g6, hi, hii]; refine hR _ _ _ ?_; clear hR R)
    rw [seqX_nil]
    refine hK _ _ _ ?_; clear hK K
    refine hN13 _ _ _ ?_
    refine xc_iffalse (by simp [go_sem, g1, g3, g4, g5, g6, hi, hii]) ?_
    refine hX1 _ _ _ _ ?_
    refine hN10 _ _ _ ?_
    refine xc_two fun N14 hN14 => ?_
    refine xc_reg2 fun K hK => ?_
    simp only [rall, rsl, gres]
    iterate 5 (refine seqX_hide2 fun R hR => ?_; simp [go_sem, g1, g3, g4, g5, g6, hi, hii]; refine hR _ _ _ ?_; clear hR R)
    refine seqX_hide2 fun R hR => ?_
    simp [go_sem, g1, g3, g4, g5, g6, hi, hii]
    refine call_ov hP (same41 D _ _ (keysL kk) (htx.le hA4D) htw (by have := keysL_len kk; omega)) ?_
    clear hP
    rintro _ D2 ⟨rfl, hD2⟩ hP
    refine hR _ _ _ ?_; clear hR R
    iterate 2 (refine seqX_hide2 fun R hR => ?_; simp [go_sem, g1, g3, g4, g5, g6, hi, hii]; refine hR _ _ _ ?_; clear hR R)
    refine seqX_hide2 fun R hR => ?_
    simp [go_sem, g1, g3, g4, g5, g6, hi, hii]
    refine call_ov hP (lives28 D2) ?_
    clear hP
    rintro _ D3 ⟨rfl, hD3⟩ hP
    refine hR _ _ _ ?_; clear hR R
    iterate 2 (refine seqX_hide2 fun R hR => ?_; simp [go_sem, g1, g3, g4, g5, g6, hi, hii]; refine hR _ _ _ ?_; clear hR R)
    rw [seqX_nil]
    refine hK _ _ _ ?_; clear hK K
    refine hN14 _ _ _ ?_
    simp [go_sem, g1, g3, g4, g5, g6, hi, hii]
    exact View.le_trans hA (View.le_trans hA4D (View.le_trans hD2 (View.le_trans hD3 (le_ov hP))))
  have hi1 : i + 1 < kk.length := by omega
  have hii : (i : Int) < kk.length := by omega
  have hst := keysL_step hi1
  obtain ⟨bs', cap', f1, hel2⟩ := hT
  simp only [Value.slice.injEq, true_and] at f1
  obtain ⟨rfl, rfl⟩ := f1
  obtain ⟨a2, c2, rfl, w2, hc2⟩ := hel2 i hi
  obtain ⟨-, -, z3⟩ := hc2.at2
  have vj := le_cell hA4D (le_cell hA (cell_in w2 (by decide) (by decide) z3))
  refine xc_two fun N12 hN12 => ?_
  refine xc_two fun N13 hN13 => ?_
  refine xc_reg2 fun K hK => ?_
  simp only [rall, rsl, gres]
  iterate 5 (refine seqX_hide2 fun R hR => ?_; simp [go_sem, g1, g3, g4, g5, g6, hi, hii, hw2, bc hP vj]; refine hR _ _ _ ?_; clear hR R)
  rw [seqX_nil]
  refine hK _ _ _ ?_; clear hK K
  refine hN13 _ _ _ ?_
  refine xc_iftrue (by simp [go_sem, g1, g3, g4, g5, g6, hi, hii, hw2, bc hP vj]) ?_
  refine hN12 _ _ _ ?_
  refine xc_two fun N14 hN14 => ?_
  rw [xc_block]
  refine xc_reg2 fun K hK => ?_
  simp only [rall, rsl, gres]
  iterate 7 (refine seqX_hide2 fun R hR => ?_; simp [go_sem, g1, g3, g4, g5, g6, hi, hii, hw2, bc hP vj]; refine hR _ _ _ ?_; clear hR R)
  refine seqX_hide2 fun R hR => ?_
  simp [go_sem, g1, g3, g4, g5, g6, hi, hii, hw2, bc hP vj]
  intro q44 hq44
  replace hP := hP.cons hq44
  clear hq44
  have d441 : q44 ≠ q1 := (hP.ne q1 (by simp [addrs])).1
  have d144 : q1 ≠ q44 := (hP.ne q1 (by simp [addrs])).2
  refine hR _ _ _ ?_; clear hR R
  refine seqX_hide2 fun R hR => ?_
  simp [go_sem, g1, g3, g4, g5, g6, hi, hii, hw2, bc hP vj, d441, d144]
  refine append_ov (cs := [.string (kk[i]).value]) (m := 1) hP ti47 ti47 (fun k => by simp) ti9 rfl (by decide) hO (eraseB_le _ _) (by simp [appended, View.cells?, go_sem]) (by simp [isStr]) (fun v hv => by rw [List.mem_singleton] at hv; subst hv; rfl) (by omega) ?_
  clear hP
  rintro v4 D4 h4 hO4 h4e hP
  obtain ⟨yb, yc, rfl⟩ := hO4.shape
  refine hR _ _ _ ?_; clear hR R
  (refine seqX_hide2 fun R hR => ?_; simp [go_sem, g1, g3, g4, g5, g6, hi, hii, hw2, d441, d144]; refine hR _ _ _ ?_; clear hR R)
  rw [seqX_nil]
  refine hK _ _ _ ?_; clear hK K
  refine hN14 _ _ _ ?_
  refine xc_reg2 fun K hK => ?_
  simp only [rall, rsl, gres]
  iterate 3 (refine seqX_hide2 fun R hR => ?_; simp [go_sem, g1, g3, g4, g5, g6, hi, hii, hw2, d441, d144]; refine hR _ _ _ ?_; clear hR R)
  rw [seqX_nil]
  refine hK _ _ _ ?_; clear hK K
  refine sink_goal 0 hP rfl fun hPn lq44 nq44 => ?_
  clear hP; have hP := hPn; clear hPn
  simp only [List.eraseIdx_cons_zero, List.eraseIdx_cons_succ, addrs_cons, addrs_nil] at hP ⊢
  have hE5 := View.le_trans h4e (eraseB_mono lq44 (.slice yb (ks.length + 1) yc))
  have hkl2 : (ks ++ [(kk[i]).value]).length = ks.length + 1 := by simp
  refine hJ1 (kk.length - (i + 2)) _ _ _ (by omega) ⟨i + 2, _, .slice yb (ks.length + 1) yc, ks ++ [(kk[i]).value], rfl, rfl, rfl, hP, by simp [go_sem, g1, g3, g4, g5, g6, hi, hii, hw2, d441, d144], by simp [go_sem, g1, g3, g4, g5, g6, hi, hii, hw2, d441, d144], by simp [go_sem, g1, g3, g4, g5, g6, hi, hii, hw2, d441, d144], by simp [go_sem, g1, g3, g4, g5, g6, hi, hii, hw2, d441, d144], by simp [go_sem, g1, g3, g4, g5, g6, hi, hii, hw2, d441, d144], by omega, by omega, View.le_trans hAD hE5, by rw [hkl2, List.map_append]; exact own_rebase (hO4.le lq44), by rw [hks, hst]; simp, by rw [hkl2]; omega⟩
theorem law10 (W : World) (c : Array Value) (t : Tr) (h : IsTr (full W) t c ∧ SB t) : VCalls Try.prog 10 #[.agg c] (full W) fun r A' => r = .bool true ∧ full W ≤ A' := names10 (full W) c t h
end Go.Proofs.YtpinamipjddobaaV

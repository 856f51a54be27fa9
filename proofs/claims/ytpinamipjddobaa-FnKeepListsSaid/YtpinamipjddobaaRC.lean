/- Roads: Pipe with one filter; AddPrefix, AddSuffix. -/
import Derived.Test.YtpinamipjddobaaRA
namespace Go.Proofs.YtpinamipjddobaaV
open Go.RowKit
set_option linter.unusedSimpArgs false
set_option linter.unusedVariables false
set_option maxRecDepth 20000 in
theorem wrap75 (A : View) : VCalls Try.prog 75 #[.nilIface] A fun r A' => r = .nilIface ∧ A' = A := by
  refine xcalls Try.func75 rfl (by simp [Try.ntmps75]) ?_
  simp only [Try.f75]
  have hP : Priv A (addrs []) := Priv.nil A
  show xc _ _ _ _ _ _ (ov A [])
  refine xc_two fun N1 hN1 => ?_
  refine xc_reg2 fun K hK => ?_
  simp only [rall, rsl, gres]
  (refine seqX_hide2 fun R hR => ?_; simp [go_sem]; refine hR _ _ _ ?_; clear hR R)
  rw [seqX_nil]
  refine hK _ _ _ ?_; clear hK K
  refine hN1 _ _ _ ?_
  refine xc_two fun N2 hN2 => ?_
  refine xc_two fun N3 hN3 => ?_
  refine xc_reg2 fun K hK => ?_
  simp only [rall, rsl, gres]
  iterate 2 (refine seqX_hide2 fun R hR => ?_; simp [go_sem]; refine hR _ _ _ ?_; clear hR R)
  rw [seqX_nil]
  refine hK _ _ _ ?_; clear hK K
  refine hN3 _ _ _ ?_
  refine xc_iftrue (by simp [go_sem]) ?_
  refine xc_two fun N4 hN4 => ?_
  refine xc_reg2 fun K hK => ?_
  simp only [rall, rsl, gres]
  (refine seqX_hide2 fun R hR => ?_; simp [go_sem]; refine hR _ _ _ ?_; clear hR R)
  rw [seqX_nil]
  refine hK _ _ _ ?_; clear hK K
  refine hN4 _ _ _ ?_
  simp [go_sem]
  rfl
set_option maxRecDepth 20000 in
theorem pipe1 (A : View) (q p T F : Nat) (fv sl : Value) (k st : Int) (tag val an : ByteArray) (cv : Value) (h l f : ByteArray) (row col : Int) (hq : A q = some (.cells #[.slice none 0 0, ptr0 p, .bool false, .slice none 0 0] 111 (0, 0))) (hp : A p = some (.cells (ync k st tag val an cv h l f row col) 114 (0, 0))) (hk : k ≠ 1)
    (hm : meth Try.prog T "Filter" = some ⟨F, none⟩) (hg : goodFn Try.prog F = true) (hsl : Row A 1 sl 1 [.iface T fv]) (Q : Value → View → Prop) (hF : VCalls Try.prog F #[fv, ptr0 q] A fun r A' => ∃ x : Option Nat, r = .tuple #[(match x with | none => .pointer none | some b => ptr0 b), .nilIface] ∧ Q (match x with | none => .pointer none | some b => ptr0 b) A') :
    VCalls Try.prog 49 #[ptr0 q, sl] A fun r A' => ∃ x : Option Nat, r = .tuple #[(match x with | none => .pointer none | some b => ptr0 b), .nilIface] ∧ Q (match x with | none => .pointer none | some b => ptr0 b) A' := by
  have c1 := cell_of (i := 1) hq rfl
  have c0 := cell_of (i := 0) hp rfl
  have hkb : (k == 1) = false := beq_eq_false_iff_ne.2 hk
  obtain ⟨sb, sc, rfl⟩ := hsl.form
  refine xcalls Try.func49 rfl (by simp [Try.ntmps49]) ?_
  simp only [Try.f49]
  have hP : Priv A (addrs []) := Priv.nil A
  show xc _ _ _ _ _ _ (ov A [])
  refine xc_two fun N1 hN1 => ?_
  refine xc_reg2 fun K hK => ?_
  simp only [rall, rsl, gres]
  iterate 2 (refine seqX_hide2 fun R hR => ?_; simp [go_sem, bc hP c1, bc hP c0, hkb, hk]; refine hR _ _ _ ?_; clear hR R)
  rw [seqX_nil]
  refine hK _ _ _ ?_; clear hK K
  refine hN1 _ _ _ ?_
  refine xc_two fun N2 hN2 => ?_
  refine xc_two fun N3 hN3 => ?_
  refine xc_reg2 fun K hK => ?_
  simp only [rall, rsl, gres]
  iterate 2 (refine seqX_hide2 fun R hR => ?_; simp [go_sem, bc hP c1, bc hP c0, hkb, hk]; refine hR _ _ _ ?_; clear hR R)
  rw [seqX_nil]
  refine hK _ _ _ ?_; clear hK K
  refine hN3 _ _ _ ?_
  refine xc_iffalse (by simp [go_sem, bc hP c1, bc hP c0, hkb, hk]) ?_
  refine hN2 _ _ _ ?_
  refine xc_two fun N4 hN4 => ?_
  refine xc_reg2 fun K hK => ?_
  simp only [rall, rsl, gres]
  (refine seqX_hide2 fun R hR => ?_; simp [go_sem, bc hP c1, bc hP c0, hkb, hk]; refine hR _ _ _ ?_; clear hR R)
  rw [seqX_nil]
  refine hK _ _ _ ?_; clear hK K
  refine hN4 _ _ _ ?_
  refine xc_two fun N5 hN5 => ?_
  refine xc_reg2 fun K hK => ?_
  simp only [rall, rsl, gres]
  (refine seqX_hide2 fun R hR => ?_; simp [go_sem, bc hP c1, bc hP c0, hkb, hk]; refine hR _ _ _ ?_; clear hR R)
  rw [seqX_nil]
  refine hK _ _ _ ?_; clear hK K
  refine hN5 _ _ _ ?_
  refine xc_two fun N6 hN6 => ?_
  refine xc_two fun N7 hN7 => ?_
  refine xc_reg2 fun K hK => ?_
  simp only [rall, rsl, gres]
  iterate 15 (refine seqX_hide2 fun R hR => ?_; simp [go_sem, bc hP c1, bc hP c0, hkb, hk]; refine hR _ _ _ ?_; clear hR R)
  rw [seqX_nil]
  refine hK _ _ _ ?_; clear hK K
  refine hN7 _ _ _ ?_
  refine xc_iffalse (by simp [go_sem, bc hP c1, bc hP c0, hkb, hk]) ?_
  refine xc_reg2 fun K hK => ?_
  simp only [rall, rsl, gres]
  iterate 2 (refine seqX_hide2 fun R hR => ?_; simp [go_sem, bc hP c1, bc hP c0, hkb, hk]; refine hR _ _ _ ?_; clear hR R)
  rw [seqX_nil]
  refine hK _ _ _ ?_; clear hK K
  refine hN6 _ _ _ ?_
  refine xc_two fun N8 hN8 => ?_
  refine xc_two fun N9 hN9 => ?_
  refine xc_reg2 fun K hK => ?_
  simp only [rall, rsl, gres]
  iterate 3 (refine seqX_hide2 fun R hR => ?_; simp [go_sem, bc hP c1, bc hP c0, hkb, hk]; refine hR _ _ _ ?_; clear hR R)
  rw [seqX_nil]
  refine hK _ _ _ ?_; clear hK K
  refine hN9 _ _ _ ?_
  rw [xc_block]
  rw [xc_loop]
  refine vloopK (fun k' e ds A' => ∃ (i : Nat) (D : View) (x : Nat), k' = 1 - i ∧ ds = [] ∧ A' = ov D [] ∧ Priv D [] ∧ e 6 = ptr0 x ∧ e 7 = .nilIface ∧ e 39 = .slice sb 1 sc ∧ e 40 = .int .i64 1 ∧ e 41 = .int .i64 i ∧ (i ≤ 1) ∧ (i = 0 → D = A ∧ x = q) ∧ (i = 1 → Q (ptr0 x) D)) _ ⟨0, A, q, rfl, rfl, rfl, hP, by simp [go_sem, hkb, hk], by simp [go_sem, hkb, hk], by simp [go_sem, hkb, hk], by simp [go_sem, hkb, hk], by simp [go_sem, hkb, hk], by omega, fun _ => ⟨rfl, rfl⟩, fun e => absurd e (by omega)⟩ ?_
  clear hP
  rintro k' e ds A' ⟨i, D, x, rfl, rfl, hV, hP, g6, g7, g39, g40, g41, hil, hz, ho⟩ J1 X1 hJ1 hX1
  refine xc_sound _ ?_
  replace hV := Eq.symm hV; subst hV; replace hP : Priv D (addrs []) := hP
  by_cases hi : i < 1
  rotate_left
  · have hii : ¬ (i : Int) < 1 := by omega
    refine xc_two fun N10 hN10 => ?_
    refine xc_reg2 fun K hK => ?_
    simp only [rall, rsl, gres]
    (refine seqX_hide2 fun R hR => ?_; simp [go_sem, hkb, hk, g6, g7, g39, g40, g41, hi, hii]; refine hR _ _ _ ?_; clear hR R)
    rw [seqX_nil]
    refine hK _ _ _ ?_; clear hK K
    refine hN10 _ _ _ ?_
    refine xc_two fun N11 hN11 => ?_
    refine xc_iffalse (by simp [go_sem, hkb, hk, g6, g7, g39, g40, g41, hi, hii]) ?_
    refine hX1 _ _ _ _ ?_
    refine hN8 _ _ _ ?_
    refine xc_two fun N12 hN12 => ?_
    refine xc_reg2 fun K hK => ?_
    simp only [rall, rsl, gres]
    iterate 4 (refine seqX_hide2 fun R hR => ?_; simp [go_sem, hkb, hk, g6, g7, g39, g40, g41, hi, hii]; refine hR _ _ _ ?_; clear hR R)
    rw [seqX_nil]
    refine hK _ _ _ ?_; clear hK K
    refine hN12 _ _ _ ?_
    simp [go_sem, hkb, hk, g6, g7, g39, g40, g41, hi, hii]
    exact ⟨some x, rfl, ho (by omega)⟩
  obtain rfl : i = 0 := by omega
  obtain ⟨rfl, rfl⟩ := hz rfl
  obtain ⟨a1, cap1, f1, -, u1⟩ := Row.at1 (i := 0) (u := .iface T fv) hsl rfl
  simp only [Value.slice.injEq] at f1
  obtain ⟨rfl, -, rfl⟩ := f1
  rw [show a1.add 0 = a1 from if_pos rfl] at u1
  have hw1 : IntKind.i64.wrap (1 : Int) = 1 := by rw [wrap_in (by omega) (by omega)]
  refine xc_two fun N10 hN10 => ?_
  refine xc_reg2 fun K hK => ?_
  simp only [rall, rsl, gres]
  (refine seqX_hide2 fun R hR => ?_; simp [go_sem, hkb, hk, g6, g7, g39, g40, g41, hw1, bc hP u1, xindexAt, vload, xinvoke, hm, hg]; refine hR _ _ _ ?_; clear hR R)
  rw [seqX_nil]
  refine hK _ _ _ ?_; clear hK K
  refine hN10 _ _ _ ?_
  refine xc_two fun N11 hN11 => ?_
  refine xc_iftrue (by simp [go_sem, hkb, hk, g6, g7, g39, g40, g41, hw1, bc hP u1, xindexAt, vload, xinvoke, hm, hg]) ?_
  refine hN11 _ _ _ ?_
  refine xc_two fun N12 hN12 => ?_
  rw [xc_block]
  refine xc_two fun N13 hN13 => ?_
  refine xc_reg2 fun K hK => ?_
  simp only [rall, rsl, gres]
  iterate 3 (refine seqX_hide2 fun R hR => ?_; simp [go_sem, hkb, hk, g6, g7, g39, g40, g41, hw1, bc hP u1, xindexAt, vload, xinvoke, hm, hg]; refine hR _ _ _ ?_; clear hR R)
  rw [seqX_nil]
  refine hK _ _ _ ?_; clear hK K
  refine hN13 _ _ _ ?_
  refine xc_two fun N14 hN14 => ?_
  refine xc_reg2 fun K hK => ?_
  simp only [rall, rsl, gres]
  iterate 2 (refine seqX_hide2 fun R hR => ?_; simp [go_sem, hkb, hk, g6, g7, g39, g40, g41, hw1, bc hP u1, xindexAt, vload, xinvoke, hm, hg]; refine hR _ _ _ ?_; clear hR R)
  refine seqX_hide2 fun R hR => ?_
  simp [go_sem, hkb, hk, g6, g7, g39, g40, g41, hw1, bc hP u1, xindexAt, vload, xinvoke, hm, hg]
  refine call_ov hP hF ?_
  clear hP
  rintro _ D2 ⟨y, rfl, hy⟩ hP
  cases y with
  | none =>
    refine hR _ _ _ ?_; clear hR R
    iterate 5 (refine seqX_hide2 fun R hR => ?_; simp [go_sem, hkb, hk, g6, g7, g39, g40, g41, hw1, xindexAt, vload, xinvoke, hm, hg]; refine hR _ _ _ ?_; clear hR R)
    rw [seqX_nil]
    refine hK _ _ _ ?_; clear hK K
    refine hN14 _ _ _ ?_
    refine xc_two fun N15 hN15 => ?_
    refine xc_reg2 fun K hK => ?_
    simp only [rall, rsl, gres]
    iterate 6 (refine seqX_hide2 fun R hR => ?_; simp [go_sem, hkb, hk, g6, g7, g39, g40, g41, hw1, xindexAt, vload, xinvoke, hm, hg]; refine hR _ _ _ ?_; clear hR R)
    rw [seqX_nil]
    refine hK _ _ _ ?_; clear hK K
    refine hN15 _ _ _ ?_
    refine xc_iftrue (by simp [go_sem, hkb, hk, g6, g7, g39, g40, g41, hw1, xindexAt, vload, xinvoke, hm, hg]) ?_
    refine xc_two fun N16 hN16 => ?_
    refine xc_reg2 fun K hK => ?_
    simp only [rall, rsl, gres]
    iterate 2 (refine seqX_hide2 fun R hR => ?_; simp [go_sem, hkb, hk, g6, g7, g39, g40, g41, hw1, xindexAt, vload, xinvoke, hm, hg]; refine hR _ _ _ ?_; clear hR R)
    refine seqX_hide2 fun R hR => ?_
    simp [go_sem, hkb, hk, g6, g7, g39, g40, g41, hw1, xindexAt, vload, xinvoke, hm, hg]
    refine call_same hP (wrap75 D2) ?_
    rintro _ rfl
    refine hR _ _ _ ?_; clear hR R
    iterate 2 (refine seqX_hide2 fun R hR => ?_; simp [go_sem, hkb, hk, g6, g7, g39, g40, g41, hw1, xindexAt, vload, xinvoke, hm, hg]; refine hR _ _ _ ?_; clear hR R)
    rw [seqX_nil]
    refine hK _ _ _ ?_; clear hK K
    refine hN16 _ _ _ ?_
    refine hX1 _ _ _ _ ?_
    simp [go_sem, hkb, hk, g6, g7, g39, g40, g41, hw1, xindexAt, vload, xinvoke, hm, hg]
    exact ⟨none, rfl, hy⟩
  | some b =>
    refine hR _ _ _ ?_; clear hR R
    iterate 5 (refine seqX_hide2 fun R hR => ?_; simp [go_sem, hkb, hk, g6, g7, g39, g40, g41, hw1, xindexAt, vload, xinvoke, hm, hg]; refine hR _ _ _ ?_; clear hR R)
    rw [seqX_nil]
    refine hK _ _ _ ?_; clear hK K
    refine hN14 _ _ _ ?_
    refine xc_two fun N15 hN15 => ?_
    refine xc_reg2 fun K hK => ?_
    simp only [rall, rsl, gres]
    iterate 6 (refine seqX_hide2 fun R hR => ?_; simp [go_sem, hkb, hk, g6, g7, g39, g40, g41, hw1, xindexAt, vload, xinvoke, hm, hg]; refine hR _ _ _ ?_; clear hR R)
    rw [seqX_nil]
    refine hK _ _ _ ?_; clear hK K
    refine hN15 _ _ _ ?_
    refine xc_iffalse (by simp [go_sem, hkb, hk, g6, g7, g39, g40, g41, hw1, xindexAt, vload, xinvoke, hm, hg]) ?_
    refine hN12 _ _ _ ?_
    refine xc_reg2 fun K hK => ?_
    simp only [rall, rsl, gres]
    iterate 2 (refine seqX_hide2 fun R hR => ?_; simp [go_sem, hkb, hk, g6, g7, g39, g40, g41, hw1, xindexAt, vload, xinvoke, hm, hg]; refine hR _ _ _ ?_; clear hR R)
    rw [seqX_nil]
    refine hK _ _ _ ?_; clear hK K
    refine hJ1 (1 - (1)) _ _ _ (by omega) ⟨1, D2, b, rfl, rfl, rfl, hP, by simp [go_sem, hkb, hk, g6, g7, g39, g40, g41, hw1, xindexAt, vload, xinvoke, hm, hg], by simp [go_sem, hkb, hk, g6, g7, g39, g40, g41, hw1, xindexAt, vload, xinvoke, hm, hg], by simp [go_sem, hkb, hk, g6, g7, g39, g40, g41, hw1, xindexAt, vload, xinvoke, hm, hg], by simp [go_sem, hkb, hk, g6, g7, g39, g40, g41, hw1, xindexAt, vload, xinvoke, hm, hg], by simp [go_sem, hkb, hk, g6, g7, g39, g40, g41, hw1, xindexAt, vload, xinvoke, hm, hg], by omega, fun e => absurd e (by omega), fun _ => hy⟩
set_option maxRecDepth 20000 in
theorem pfx0 (A : View) (s p : ByteArray) (hs : s.size ≤ 1125899906842624) : VCalls Try.prog 126 #[.string s, .string p] A fun r A' => r = .bool (decide (Pfx s p)) ∧ A' = A := by
  refine xcalls Try.func126 rfl (by simp [Try.ntmps126]) ?_
  simp only [Try.f126]
  have hP : Priv A (addrs []) := Priv.nil A
  show xc _ _ _ _ _ _ (ov A [])
  by_cases hl : p.size ≤ s.size
  rotate_left
  · have hli : ¬ (p.size : Int) ≤ s.size := by omega
    have hd : decide (Pfx s p) = false := decide_eq_false fun h => hl h.1
    refine xc_two fun N1 hN1 => ?_
    refine xc_reg2 fun K hK => ?_
    simp only [rall, rsl, gres]
    (refine seqX_hide2 fun R hR => ?_; simp [go_sem, hl, hli]; refine hR _ _ _ ?_; clear hR R)
    rw [seqX_nil]
    refine hK _ _ _ ?_; clear hK K
    refine hN1 _ _ _ ?_
    refine xc_two fun N2 hN2 => ?_
    refine xc_reg2 fun K hK => ?_
    simp only [rall, rsl, gres]
    iterate 14 (refine seqX_hide2 fun R hR => ?_; simp [go_sem, hl, hli]; refine hR _ _ _ ?_; clear hR R)
    rw [seqX_nil]
    refine hK _ _ _ ?_; clear hK K
    refine hN2 _ _ _ ?_
    simp [go_sem, hl, hli]
    exact ⟨fun h => hl h.1, rfl⟩
  have hli : (p.size : Int) ≤ s.size := by omega
  have hw : IntKind.i64.wrap ((s.size : Int) - p.size) = ((s.size - p.size : Nat) : Int) := by rw [wrap_in (by omega) (by omega)]; omega
  have h2 : s.size - p.size ≤ s.size := by omega
  have h2i : ((s.size - p.size : Nat) : Int) ≤ s.size := by omega
  have h3i : (0 : Int) ≤ (s.size : Int) - p.size := by omega
  have h4i : (s.size : Int) - p.size ≤ s.size := by omega
  by_cases he : s.extract 0 p.size = p
  · have hd : decide (Pfx s p) = true := decide_eq_true ⟨hl, he⟩
    refine xc_two fun N1 hN1 => ?_
    refine xc_reg2 fun K hK => ?_
    simp only [rall, rsl, gres]
    (refine seqX_hide2 fun R hR => ?_; simp [go_sem, hl, hli, hw, h2, h2i, h3i, h4i, he, xslice]; refine hR _ _ _ ?_; clear hR R)
    rw [seqX_nil]
    refine hK _ _ _ ?_; clear hK K
    refine hN1 _ _ _ ?_
    refine xc_two fun N2 hN2 => ?_
    refine xc_reg2 fun K hK => ?_
    simp only [rall, rsl, gres]
    iterate 14 (refine seqX_hide2 fun R hR => ?_; simp [go_sem, hl, hli, hw, h2, h2i, h3i, h4i, he, xslice]; refine hR _ _ _ ?_; clear hR R)
    rw [seqX_nil]
    refine hK _ _ _ ?_; clear hK K
    refine hN2 _ _ _ ?_
    simp [go_sem, hl, hli, hw, h2, h2i, h3i, h4i, he, xslice]
    exact ⟨⟨hl, he⟩, rfl⟩
  have hd : decide (Pfx s p) = false := decide_eq_false fun h => he h.2
  have hn := bytes_ne he
  refine xc_two fun N1 hN1 => ?_
  refine xc_reg2 fun K hK => ?_
  simp only [rall, rsl, gres]
  (refine seqX_hide2 fun R hR => ?_; simp [go_sem, hl, hli, hw, h2, h2i, h3i, h4i, hn, xslice]; refine hR _ _ _ ?_; clear hR R)
  rw [seqX_nil]
  refine hK _ _ _ ?_; clear hK K
  refine hN1 _ _ _ ?_
  refine xc_two fun N2 hN2 => ?_
  refine xc_reg2 fun K hK => ?_
  simp only [rall, rsl, gres]
  iterate 14 (refine seqX_hide2 fun R hR => ?_; simp [go_sem, hl, hli, hw, h2, h2i, h3i, h4i, hn, xslice]; refine hR _ _ _ ?_; clear hR R)
  rw [seqX_nil]
  refine hK _ _ _ ?_; clear hK K
  refine hN2 _ _ _ ?_
  simp [go_sem, hl, hli, hw, h2, h2i, h3i, h4i, hn, xslice]
  rw [hd]
  exact ⟨beq_eq_false_iff_ne.2 hn, rfl⟩
set_option maxRecDepth 20000 in
theorem pfx2 (A : View) (s p : ByteArray) (hs : s.size ≤ 1125899906842624) : VCalls Try.prog 24 #[.string s, .string p] A fun r A' => r = .bool (decide (Pfx s p)) ∧ A' = A := by
  refine xcalls Try.func24 rfl (by simp [Try.ntmps24]) ?_
  simp only [Try.f24]
  have hP : Priv A (addrs []) := Priv.nil A
  show xc _ _ _ _ _ _ (ov A [])
  by_cases hl : p.size ≤ s.size
  rotate_left
  · have hli : ¬ (p.size : Int) ≤ s.size := by omega
    have hd : decide (Pfx s p) = false := decide_eq_false fun h => hl h.1
    refine xc_two fun N1 hN1 => ?_
    refine xc_reg2 fun K hK => ?_
    simp only [rall, rsl, gres]
    (refine seqX_hide2 fun R hR => ?_; simp [go_sem, hl, hli]; refine hR _ _ _ ?_; clear hR R)
    rw [seqX_nil]
    refine hK _ _ _ ?_; clear hK K
    refine hN1 _ _ _ ?_
    refine xc_two fun N2 hN2 => ?_
    refine xc_reg2 fun K hK => ?_
    simp only [rall, rsl, gres]
    iterate 14 (refine seqX_hide2 fun R hR => ?_; simp [go_sem, hl, hli]; refine hR _ _ _ ?_; clear hR R)
    rw [seqX_nil]
    refine hK _ _ _ ?_; clear hK K
    refine hN2 _ _ _ ?_
    simp [go_sem, hl, hli]
    exact ⟨fun h => hl h.1, rfl⟩
  have hli : (p.size : Int) ≤ s.size := by omega
  have hw : IntKind.i64.wrap ((s.size : Int) - p.size) = ((s.size - p.size : Nat) : Int) := by rw [wrap_in (by omega) (by omega)]; omega
  have h2 : s.size - p.size ≤ s.size := by omega
  have h2i : ((s.size - p.size : Nat) : Int) ≤ s.size := by omega
  have h3i : (0 : Int) ≤ (s.size : Int) - p.size := by omega
  have h4i : (s.size : Int) - p.size ≤ s.size := by omega
  by_cases he : s.extract 0 p.size = p
  · have hd : decide (Pfx s p) = true := decide_eq_true ⟨hl, he⟩
    refine xc_two fun N1 hN1 => ?_
    refine xc_reg2 fun K hK => ?_
    simp only [rall, rsl, gres]
    (refine seqX_hide2 fun R hR => ?_; simp [go_sem, hl, hli, hw, h2, h2i, h3i, h4i, he, xslice]; refine hR _ _ _ ?_; clear hR R)
    rw [seqX_nil]
    refine hK _ _ _ ?_; clear hK K
    refine hN1 _ _ _ ?_
    refine xc_two fun N2 hN2 => ?_
    refine xc_reg2 fun K hK => ?_
    simp only [rall, rsl, gres]
    iterate 14 (refine seqX_hide2 fun R hR => ?_; simp [go_sem, hl, hli, hw, h2, h2i, h3i, h4i, he, xslice]; refine hR _ _ _ ?_; clear hR R)
    rw [seqX_nil]
    refine hK _ _ _ ?_; clear hK K
    refine hN2 _ _ _ ?_
    simp [go_sem, hl, hli, hw, h2, h2i, h3i, h4i, he, xslice]
    exact ⟨⟨hl, he⟩, rfl⟩
  have hd : decide (Pfx s p) = false := decide_eq_false fun h => he h.2
  have hn := bytes_ne he
  refine xc_two fun N1 hN1 => ?_
  refine xc_reg2 fun K hK => ?_
  simp only [rall, rsl, gres]
  (refine seqX_hide2 fun R hR => ?_; simp [go_sem, hl, hli, hw, h2, h2i, h3i, h4i, hn, xslice]; refine hR _ _ _ ?_; clear hR R)
  rw [seqX_nil]
  refine hK _ _ _ ?_; clear hK K
  refine hN1 _ _ _ ?_
  refine xc_two fun N2 hN2 => ?_
  refine xc_reg2 fun K hK => ?_
  simp only [rall, rsl, gres]
  iterate 14 (refine seqX_hide2 fun R hR => ?_; simp [go_sem, hl, hli, hw, h2, h2i, h3i, h4i, hn, xslice]; refine hR _ _ _ ?_; clear hR R)
  rw [seqX_nil]
  refine hK _ _ _ ?_; clear hK K
  refine hN2 _ _ _ ?_
  simp [go_sem, hl, hli, hw, h2, h2i, h3i, h4i, hn, xslice]
  rw [hd]
  exact ⟨beq_eq_false_iff_ne.2 hn, rfl⟩
set_option maxRecDepth 20000 in
theorem pfx1 (A : View) (s p : ByteArray) (hs : s.size ≤ 1125899906842624) : VCalls Try.prog 125 #[.string s, .string p] A fun r A' => r = .bool (decide (Pfx s p)) ∧ A' = A := by
  refine xcalls Try.func125 rfl (by simp [Try.ntmps125]) ?_
  simp only [Try.f125]
  have hP : Priv A (addrs []) := Priv.nil A
  show xc _ _ _ _ _ _ (ov A [])
  refine xc_two fun N1 hN1 => ?_
  refine xc_reg2 fun K hK => ?_
  simp only [rall, rsl, gres]
  (refine seqX_hide2 fun R hR => ?_; simp [go_sem]; refine hR _ _ _ ?_; clear hR R)
  rw [seqX_nil]
  refine hK _ _ _ ?_; clear hK K
  refine hN1 _ _ _ ?_
  refine xc_two fun N2 hN2 => ?_
  refine xc_reg2 fun K hK => ?_
  simp only [rall, rsl, gres]
  iterate 2 (refine seqX_hide2 fun R hR => ?_; simp [go_sem]; refine hR _ _ _ ?_; clear hR R)
  refine seqX_hide2 fun R hR => ?_
  simp [go_sem]
  refine call_same hP (pfx0 A s p hs) ?_
  rintro _ rfl
  refine hR _ _ _ ?_; clear hR R
  (refine seqX_hide2 fun R hR => ?_; simp [go_sem]; refine hR _ _ _ ?_; clear hR R)
  rw [seqX_nil]
  refine hK _ _ _ ?_; clear hK K
  refine hN2 _ _ _ ?_
  simp [go_sem]
  rfl
set_option maxRecDepth 20000 in
theorem sfx0 (A : View) (s p : ByteArray) (hs : s.size ≤ 1125899906842624) : VCalls Try.prog 129 #[.string s, .string p] A fun r A' => r = .bool (decide (Sfx s p)) ∧ A' = A := by
  refine xcalls Try.func129 rfl (by simp [Try.ntmps129]) ?_
  simp only [Try.f129]
  have hP : Priv A (addrs []) := Priv.nil A
  show xc _ _ _ _ _ _ (ov A [])
  by_cases hl : p.size ≤ s.size
  rotate_left
  · have hli : ¬ (p.size : Int) ≤ s.size := by omega
    have hd : decide (Sfx s p) = false := decide_eq_false fun h => hl h.1
    refine xc_two fun N1 hN1 => ?_
    refine xc_reg2 fun K hK => ?_
    simp only [rall, rsl, gres]
    (refine seqX_hide2 fun R hR => ?_; simp [go_sem, hl, hli]; refine hR _ _ _ ?_; clear hR R)
    rw [seqX_nil]
    refine hK _ _ _ ?_; clear hK K
    refine hN1 _ _ _ ?_
    refine xc_two fun N2 hN2 => ?_
    refine xc_reg2 fun K hK => ?_
    simp only [rall, rsl, gres]
    iterate 17 (refine seqX_hide2 fun R hR => ?_; simp [go_sem, hl, hli]; refine hR _ _ _ ?_; clear hR R)
    rw [seqX_nil]
    refine hK _ _ _ ?_; clear hK K
    refine hN2 _ _ _ ?_
    simp [go_sem, hl, hli]
    exact ⟨fun h => hl h.1, rfl⟩
  have hli : (p.size : Int) ≤ s.size := by omega
  have hw : IntKind.i64.wrap ((s.size : Int) - p.size) = ((s.size - p.size : Nat) : Int) := by rw [wrap_in (by omega) (by omega)]; omega
  have h2 : s.size - p.size ≤ s.size := by omega
  have h2i : ((s.size - p.size : Nat) : Int) ≤ s.size := by omega
  have h3i : (0 : Int) ≤ (s.size : Int) - p.size := by omega
  have h4i : (s.size : Int) - p.size ≤ s.size := by omega
  by_cases he : s.extract (s.size - p.size) s.size = p
  · have hd : decide (Sfx s p) = true := decide_eq_true ⟨hl, he⟩
    refine xc_two fun N1 hN1 => ?_
    refine xc_reg2 fun K hK => ?_
    simp only [rall, rsl, gres]
    (refine seqX_hide2 fun R hR => ?_; simp [go_sem, hl, hli, hw, h2, h2i, h3i, h4i, he, xslice]; refine hR _ _ _ ?_; clear hR R)
    rw [seqX_nil]
    refine hK _ _ _ ?_; clear hK K
    refine hN1 _ _ _ ?_
    refine xc_two fun N2 hN2 => ?_
    refine xc_reg2 fun K hK => ?_
    simp only [rall, rsl, gres]
    iterate 17 (refine seqX_hide2 fun R hR => ?_; simp [go_sem, hl, hli, hw, h2, h2i, h3i, h4i, he, xslice]; refine hR _ _ _ ?_; clear hR R)
    rw [seqX_nil]
    refine hK _ _ _ ?_; clear hK K
    refine hN2 _ _ _ ?_
    simp [go_sem, hl, hli, hw, h2, h2i, h3i, h4i, he, xslice]
    exact ⟨⟨hl, he⟩, rfl⟩
  have hd : decide (Sfx s p) = false := decide_eq_false fun h => he h.2
  have hn := bytes_ne he
  refine xc_two fun N1 hN1 => ?_
  refine xc_reg2 fun K hK => ?_
  simp only [rall, rsl, gres]
  (refine seqX_hide2 fun R hR => ?_; simp [go_sem, hl, hli, hw, h2, h2i, h3i, h4i, hn, xslice]; refine hR _ _ _ ?_; clear hR R)
  rw [seqX_nil]
  refine hK _ _ _ ?_; clear hK K
  refine hN1 _ _ _ ?_
  refine xc_two fun N2 hN2 => ?_
  refine xc_reg2 fun K hK => ?_
  simp only [rall, rsl, gres]
  iterate 17 (refine seqX_hide2 fun R hR => ?_; simp [go_sem, hl, hli, hw, h2, h2i, h3i, h4i, hn, xslice]; refine hR _ _ _ ?_; clear hR R)
  rw [seqX_nil]
  refine hK _ _ _ ?_; clear hK K
  refine hN2 _ _ _ ?_
  simp [go_sem, hl, hli, hw, h2, h2i, h3i, h4i, hn, xslice]
  rw [hd]
  exact ⟨beq_eq_false_iff_ne.2 hn, rfl⟩
set_option maxRecDepth 20000 in
theorem sfx2 (A : View) (s p : ByteArray) (hs : s.size ≤ 1125899906842624) : VCalls Try.prog 25 #[.string s, .string p] A fun r A' => r = .bool (decide (Sfx s p)) ∧ A' = A := by
  refine xcalls Try.func25 rfl (by simp [Try.ntmps25]) ?_
  simp only [Try.f25]
  have hP : Priv A (addrs []) := Priv.nil A
  show xc _ _ _ _ _ _ (ov A [])
  by_cases hl : p.size ≤ s.size
  rotate_left
  · have hli : ¬ (p.size : Int) ≤ s.size := by omega
    have hd : decide (Sfx s p) = false := decide_eq_false fun h => hl h.1
    refine xc_two fun N1 hN1 => ?_
    refine xc_reg2 fun K hK => ?_
    simp only [rall, rsl, gres]
    (refine seqX_hide2 fun R hR => ?_; simp [go_sem, hl, hli]; refine hR _ _ _ ?_; clear hR R)
    rw [seqX_nil]
    refine hK _ _ _ ?_; clear hK K
    refine hN1 _ _ _ ?_
    refine xc_two fun N2 hN2 => ?_
    refine xc_reg2 fun K hK => ?_
    simp only [rall, rsl, gres]
    iterate 17 (refine seqX_hide2 fun R hR => ?_; simp [go_sem, hl, hli]; refine hR _ _ _ ?_; clear hR R)
    rw [seqX_nil]
    refine hK _ _ _ ?_; clear hK K
    refine hN2 _ _ _ ?_
    simp [go_sem, hl, hli]
    exact ⟨fun h => hl h.1, rfl⟩
  have hli : (p.size : Int) ≤ s.size := by omega
  have hw : IntKind.i64.wrap ((s.size : Int) - p.size) = ((s.size - p.size : Nat) : Int) := by rw [wrap_in (by omega) (by omega)]; omega
  have h2 : s.size - p.size ≤ s.size := by omega
  have h2i : ((s.size - p.size : Nat) : Int) ≤ s.size := by omega
  have h3i : (0 : Int) ≤ (s.size : Int) - p.size := by omega
  have h4i : (s.size : Int) - p.size ≤ s.size := by omega
  by_cases he : s.extract (s.size - p.size) s.size = p
  · have hd : decide (Sfx s p) = true := decide_eq_true ⟨hl, he⟩
    refine xc_two fun N1 hN1 => ?_
    refine xc_reg2 fun K hK => ?_
    simp only [rall, rsl, gres]
    (refine seqX_hide2 fun R hR => ?_; simp [go_sem, hl, hli, hw, h2, h2i, h3i, h4i, he, xslice]; refine hR _ _ _ ?_; clear hR R)
    rw [seqX_nil]
    refine hK _ _ _ ?_; clear hK K
    refine hN1 _ _ _ ?_
    refine xc_two fun N2 hN2 => ?_
    refine xc_reg2 fun K hK => ?_
    simp only [rall, rsl, gres]
    iterate 17 (refine seqX_hide2 fun R hR => ?_; simp [go_sem, hl, hli, hw, h2, h2i, h3i, h4i, he, xslice]; refine hR _ _ _ ?_; clear hR R)
    rw [seqX_nil]
    refine hK _ _ _ ?_; clear hK K
    refine hN2 _ _ _ ?_
    simp [go_sem, hl, hli, hw, h2, h2i, h3i, h4i, he, xslice]
    exact ⟨⟨hl, he⟩, rfl⟩
  have hd : decide (Sfx s p) = false := decide_eq_false fun h => he h.2
  have hn := bytes_ne he
  refine xc_two fun N1 hN1 => ?_
  refine xc_reg2 fun K hK => ?_
  simp only [rall, rsl, gres]
  (refine seqX_hide2 fun R hR => ?_; simp [go_sem, hl, hli, hw, h2, h2i, h3i, h4i, hn, xslice]; refine hR _ _ _ ?_; clear hR R)
  rw [seqX_nil]
  refine hK _ _ _ ?_; clear hK K
  refine hN1 _ _ _ ?_
  refine xc_two fun N2 hN2 => ?_
  refine xc_reg2 fun K hK => ?_
  simp only [rall, rsl, gres]
  iterate 17 (refine seqX_hide2 fun R hR => ?_; simp [go_sem, hl, hli, hw, h2, h2i, h3i, h4i, hn, xslice]; refine hR _ _ _ ?_; clear hR R)
  rw [seqX_nil]
  refine hK _ _ _ ?_; clear hK K
  refine hN2 _ _ _ ?_
  simp [go_sem, hl, hli, hw, h2, h2i, h3i, h4i, hn, xslice]
  rw [hd]
  exact ⟨beq_eq_false_iff_ne.2 hn, rfl⟩
set_option maxRecDepth 20000 in
theorem sfx1 (A : View) (s p : ByteArray) (hs : s.size ≤ 1125899906842624) : VCalls Try.prog 128 #[.string s, .string p] A fun r A' => r = .bool (decide (Sfx s p)) ∧ A' = A := by
  refine xcalls Try.func128 rfl (by simp [Try.ntmps128]) ?_
  simp only [Try.f128]
  have hP : Priv A (addrs []) := Priv.nil A
  show xc _ _ _ _ _ _ (ov A [])
  refine xc_two fun N1 hN1 => ?_
  refine xc_reg2 fun K hK => ?_
  simp only [rall, rsl, gres]
  (refine seqX_hide2 fun R hR => ?_; simp [go_sem]; refine hR _ _ _ ?_; clear hR R)
  rw [seqX_nil]
  refine hK _ _ _ ?_; clear hK K
  refine hN1 _ _ _ ?_
  refine xc_two fun N2 hN2 => ?_
  refine xc_reg2 fun K hK => ?_
  simp only [rall, rsl, gres]
  iterate 2 (refine seqX_hide2 fun R hR => ?_; simp [go_sem]; refine hR _ _ _ ?_; clear hR R)
  refine seqX_hide2 fun R hR => ?_
  simp [go_sem]
  refine call_same hP (sfx0 A s p hs) ?_
  rintro _ rfl
  refine hR _ _ _ ?_; clear hR R
  (refine seqX_hide2 fun R hR => ?_; simp [go_sem]; refine hR _ _ _ ?_; clear hR R)
  rw [seqX_nil]
  refine hK _ _ _ ?_; clear hK K
  refine hN2 _ _ _ ?_
  simp [go_sem]
  rfl
/-- A tree with another value at its top. -/
def Tr.setv : Tr → ByteArray → Tr
  | .mk k st tag _ an h l f row col al kids, v => .mk k st tag v an h l f row col al kids
theorem setv_value (t : Tr) (v : ByteArray) : (t.setv v).value = v := by
  obtain ⟨k, st, tag, val, an, h, l, f, row, col, al, kids, rfl⟩ := t.ex
  rfl
theorem setv_setv (t : Tr) (v w : ByteArray) : (t.setv v).setv w = t.setv w := by
  obtain ⟨k, st, tag, val, an, h, l, f, row, col, al, kids, rfl⟩ := t.ex
  rfl
theorem setv_pt {lv : Nat} {t : Tr} (h : PT lv t) (v : ByteArray) : PT lv (t.setv v) := by
  obtain ⟨k, st, tag, val, an, hh, l, f, row, col, al, kids, rfl⟩ := t.ex
  rw [PT] at h
  rw [Tr.setv, PT]
  exact h
theorem setv_nds (t : Tr) (v : ByteArray) : nds (t.setv v) = nds t := by
  obtain ⟨k, st, tag, val, an, h, l, f, row, col, al, kids, rfl⟩ := t.ex
  rw [Tr.setv, nds_mk, nds_mk]
/-- A field of a struct is set that lies beneath. -/
theorem cstoreF {D : View} {L : List (Nat × Obj)} (hP : Priv D (addrs L)) {t e : TypeId} {k : TK} {y : Nat} {z : Option Value} {m i : Nat} {c c' : Array Value} {u : Value} (ht : tinfo Try.prog t = some ⟨k, 1, y, z⟩) (hD : D m = some (.cells c e (0, 0))) (hi : i < c.size) (hu : one u = true) (hc : c.setIfInBounds i u = c') :
    stB Try.prog t (.pointer (some ⟨m, i, none⟩)) u D L = some (ov (D.set m (.cells c' e (0, 0))) L) ∧ Priv (D.set m (.cells c' e (0, 0))) (addrs L) := by
  subst hc
  obtain ⟨e1, e2⟩ := ov_set_base hP (o' := .cells (c.setIfInBounds i u) e (0, 0)) hD
  refine ⟨?_, e2⟩
  unfold stB
  rw [xstore_field (P := Try.prog) (t := t) ht (ov_base hP hD) hi hu, ← e1]
/-- A tree of kyaml nodes whose topmost node is new, with its handle. -/
def TopR (A A' : View) (t : Tr) (q p : Nat) : Prop := A' q = some (.cells #[.slice none 0 0, ptr0 p, .bool false, .slice none 0 0] 111 (0, 0)) ∧ q ≠ p ∧ TopY A A' t p
theorem TopR.rn {A A' : View} {t : Tr} {q p : Nat} (h : TopR A A' t q p) : IsRn A' t q := ⟨p, h.1, h.2.2.yn⟩
theorem TopR.grow {A0 A A' A'' : View} {t : Tr} {q p : Nat} (h : TopR A A' t q p) (h0 : A0 ≤ A) (h1 : A' ≤ A'') : TopR A0 A'' t q p := ⟨h1 _ _ h.1, h.2.1, h.2.2.grow h0 h1⟩
set_option maxRecDepth 20000 in
theorem foundOf51 (A : View) (t : Tr) (q : Nat) (hq : IsRn A t q) (hnt : NT t) (hnd : nds t ≤ 1000000) : VCalls Try.prog 51 #[ptr0 q] A fun r A' => Trs A' r [t] ∧ A ≤ A' := by
  have hq0 := hq
  obtain ⟨p, hq, hy⟩ := hq
  refine xcalls Try.func51 rfl (by simp [Try.ntmps51]) ?_
  simp only [Try.f51]
  have hP : Priv A (addrs []) := Priv.nil A
  show xc _ _ _ _ _ _ (ov A [])
  refine xc_two fun N1 hN1 => ?_
  refine xc_reg2 fun K hK => ?_
  simp only [rall, rsl, gres]
  (refine seqX_hide2 fun R hR => ?_; simp [go_sem]; refine hR _ _ _ ?_; clear hR R)
  rw [seqX_nil]
  refine hK _ _ _ ?_; clear hK K
  refine hN1 _ _ _ ?_
  refine xc_two fun N2 hN2 => ?_
  refine xc_two fun N3 hN3 => ?_
  refine xc_reg2 fun K hK => ?_
  simp only [rall, rsl, gres]
  iterate 4 (refine seqX_hide2 fun R hR => ?_; simp [go_sem]; refine hR _ _ _ ?_; clear hR R)
  refine seqX_hide2 fun R hR => ?_
  simp [go_sem]
  refine call_same hP (doc49 A q p hq) ?_
  rintro _ rfl
  refine hR _ _ _ ?_; clear hR R
  iterate 2 (refine seqX_hide2 fun R hR => ?_; simp [go_sem]; refine hR _ _ _ ?_; clear hR R)
  rw [seqX_nil]
  refine hK _ _ _ ?_; clear hK K
  refine hN3 _ _ _ ?_
  refine xc_iffalse (by simp [go_sem]) ?_
  refine hN2 _ _ _ ?_
  refine xc_two fun N4 hN4 => ?_
  refine xc_reg2 fun K hK => ?_
  simp only [rall, rsl, gres]
  (refine seqX_hide2 fun R hR => ?_; simp [go_sem]; refine hR _ _ _ ?_; clear hR R)
  refine seqX_hide2 fun R hR => ?_
  simp [go_sem]
  refine call_ov hP (treeOf28 A t q hq0 hnt hnd) ?_
  clear hP
  rintro _ A2 ⟨c, rfl, hc, hA2⟩ hP
  have hcz := hc.size
  have hco := hc.ones
  refine hR _ _ _ ?_; clear hR R
  refine seqX_hide2 fun R hR => ?_
  simp [go_sem, hcz, hco]
  intro q12 hq12
  replace hP := hP.cons hq12
  clear hq12
  refine hR _ _ _ ?_; clear hR R
  (refine seqX_hide2 fun R hR => ?_; simp [go_sem, hcz, hco]; refine hR _ _ _ ?_; clear hR R)
  rw [seqX_nil]
  refine hK _ _ _ ?_; clear hK K
  refine hN4 _ _ _ ?_
  refine sink_goal 0 hP rfl fun hPn lq12 nq12 => ?_
  clear hP; have hP := hPn; clear hPn
  simp only [List.eraseIdx_cons_zero, List.eraseIdx_cons_succ, addrs_cons, addrs_nil] at hP ⊢
  have h4 : (A2.set q12 (.cells c 24 (0, 0))) q12 = some (.cells c 24 (0, 0)) := set_at _ _ _
  simp [go_sem, hcz, hco]
  refine ⟨Trs.le ?_ (Trs.one h4 (IsTr.le lq12 _ _ hc)), View.le_trans hA2 (View.le_trans lq12 ?_)⟩
  · exact le_ov hP
  · exact le_ov hP
set_option maxRecDepth 20000 in
theorem foundNil51 (A : View) : VCalls Try.prog 51 #[.pointer none] A fun r A' => r = .slice none 0 0 ∧ A' = A := by
  refine xcalls Try.func51 rfl (by simp [Try.ntmps51]) ?_
  simp only [Try.f51]
  have hP : Priv A (addrs []) := Priv.nil A
  show xc _ _ _ _ _ _ (ov A [])
  refine xc_two fun N1 hN1 => ?_
  refine xc_reg2 fun K hK => ?_
  simp only [rall, rsl, gres]
  (refine seqX_hide2 fun R hR => ?_; simp [go_sem]; refine hR _ _ _ ?_; clear hR R)
  rw [seqX_nil]
  refine hK _ _ _ ?_; clear hK K
  refine hN1 _ _ _ ?_
  refine xc_two fun N2 hN2 => ?_
  refine xc_two fun N3 hN3 => ?_
  refine xc_reg2 fun K hK => ?_
  simp only [rall, rsl, gres]
  iterate 4 (refine seqX_hide2 fun R hR => ?_; simp [go_sem]; refine hR _ _ _ ?_; clear hR R)
  refine seqX_hide2 fun R hR => ?_
  simp [go_sem]
  refine hR _ _ _ ?_; clear hR R
  iterate 2 (refine seqX_hide2 fun R hR => ?_; simp [go_sem]; refine hR _ _ _ ?_; clear hR R)
  rw [seqX_nil]
  refine hK _ _ _ ?_; clear hK K
  refine hN3 _ _ _ ?_
  refine xc_iftrue (by simp [go_sem]) ?_
  refine xc_two fun N4 hN4 => ?_
  refine xc_reg2 fun K hK => ?_
  simp only [rall, rsl, gres]
  (refine seqX_hide2 fun R hR => ?_; simp [go_sem]; refine hR _ _ _ ?_; clear hR R)
  rw [seqX_nil]
  refine hK _ _ _ ?_; clear hK K
  refine hN4 _ _ _ ?_
  simp [go_sem]
  rfl
set_option maxRecDepth 20000 in
theorem pfxF (A0 A : View) (k st : Int) (tag val an h l f : ByteArray) (row col al : Int) (kids : List Tr) (q p : Nat) (v : ByteArray) (H : TopR A0 A (.mk k st tag val an h l f row col al kids) q p) (hz : val.size + v.size ≤ 1000000000) :
    VCalls Try.prog 124 #[.agg #[.string v], ptr0 q] A fun r A' => ∃ x : Option Nat, r = .tuple #[(match x with | none => .pointer none | some b => ptr0 b), .nilIface] ∧ ((match x with | none => .pointer none | some b => ptr0 b) = ptr0 q ∧ TopR A0 A' (.mk k st tag (prf val v) an h l f row col al kids) q p) := by
  obtain ⟨hq, hqp, HT⟩ := H
  obtain ⟨cv, hp, hup⟩ := HT.cell
  have c1 := cell_of (i := 1) hq rfl
  have c3 := cell_of (i := 3) hp rfl
  refine xcalls Try.func124 rfl (by simp [Try.ntmps124]) ?_
  simp only [Try.f124]
  have hP : Priv A (addrs []) := Priv.nil A
  show xc _ _ _ _ _ _ (ov A [])
  refine xc_two fun N1 hN1 => ?_
  refine xc_reg2 fun K hK => ?_
  simp only [rall, rsl, gres]
  refine seqX_hide2 fun R hR => ?_
  simp [go_sem, bc hP c1, bc hP c3]
  intro q2 hq2
  replace hP := hP.cons hq2
  clear hq2
  refine hR _ _ _ ?_; clear hR R
  iterate 2 (refine seqX_hide2 fun R hR => ?_; simp [go_sem, bc hP c1, bc hP c3]; refine hR _ _ _ ?_; clear hR R)
  rw [seqX_nil]
  refine hK _ _ _ ?_; clear hK K
  refine hN1 _ _ _ ?_
  refine xc_two fun N2 hN2 => ?_
  refine xc_two fun N3 hN3 => ?_
  rw [xc_draws]
  refine vdrawK [(0, true), (1, true), (2, true), (3, true), (4, true), (5, true), (6, true), (7, true), (8, true), (9, false), (10, true)] (ov A [(q2, .cells #[.string v] 80 (0, 0))]) mixed (by kernel_rfl) (View.le_refl _) fun K hK => ?_
  simp only [rsl, gres]
  iterate 9 (refine seqR_hide fun R hR => ?_; simp [go_sem, bc hP c1, bc hP c3]; refine hR _ _ _ ?_; clear hR R)
  refine seqR_hide fun R hR => ?_
  simp [go_sem, bc hP c1, bc hP c3]
  refine call_same hP (pfx1 A val v (by omega)) ?_
  rintro _ rfl
  refine hR _ _ _ ?_; clear hR R
  (refine seqR_hide fun R hR => ?_; simp [go_sem, bc hP c1, bc hP c3]; refine hR _ _ _ ?_; clear hR R)
  rw [seqR_nil]
  refine hK _ _ _ ?_; clear hK K
  refine hN3 _ _ _ ?_
  by_cases hpf : Pfx val v
  · have hd : decide (Pfx val v) = true := decide_eq_true hpf
    refine xc_iffalse (by simp [go_sem, bc hP c1, bc hP c3, hd, hpf]) ?_
    refine hN2 _ _ _ ?_
    refine xc_two fun N4 hN4 => ?_
    refine xc_reg2 fun K hK => ?_
    simp only [rall, rsl, gres]
    iterate 3 (refine seqX_hide2 fun R hR => ?_; simp [go_sem, bc hP c1, bc hP c3, hd, hpf]; refine hR _ _ _ ?_; clear hR R)
    rw [seqX_nil]
    refine hK _ _ _ ?_; clear hK K
    refine hN4 _ _ _ ?_
    simp [go_sem, bc hP c1, bc hP c3, hd, hpf]
    refine ⟨some q, rfl, rfl, ?_⟩
    rw [prf, if_pos hpf]
    exact TopR.grow ⟨hq, hqp, HT⟩ (View.le_refl _) (le_ov hP)
  have hd : decide (Pfx val v) = false := decide_eq_false hpf
  have hs1 : v.size + val.size ≤ 9223372036854775807 := by omega
  have hs2 : val.size + v.size ≤ 9223372036854775807 := by omega
  have hpq : p ≠ q2 := fun hx => by have := hP.1; rw [← hx, hp] at this; cases this
  have hs := cstoreF (L := [(q2, .cells #[.string v] 80 (0, 0))]) hP ti9 hp (i := 3) (u := .string (v ++ val)) (c' := ync k st tag (v ++ val) an cv h l f row col) (by show 3 < 12; decide) rfl rfl
  have hsa := hs.1
  refine xc_iftrue (by simp [go_sem, bc hP c1, bc hP c3, hd, hpf, hs1, hs2, hpq, hsa]) ?_
  rw [xc_draws]
  refine vdrawK [(0, true), (1, true), (2, true), (3, true), (4, true), (5, true), (6, true), (7, true), (8, true), (9, true), (10, true), (11, true), (12, true), (13, true), (14, true), (15, true), (16, false)] (ov A [(q2, .cells #[.string v] 80 (0, 0))]) mixed (by kernel_rfl) (View.le_refl _) fun K hK => ?_
  simp only [rsl, gres]
  iterate 16 (refine seqR_hide fun R hR => ?_; simp [go_sem, bc hP c1, bc hP c3, hd, hpf, hs1, hs2, hpq, hsa]; refine hR _ _ _ ?_; clear hR R)
  refine seqR_hide fun R hR => ?_
  simp [go_sem, bc hP c1, bc hP c3, hd, hpf, hs1, hs2, hpq, hsa]
  refine hR _ _ _ ?_; clear hR R
  rw [seqR_nil]
  refine hK _ _ _ ?_; clear hK K
  refine hN2 _ _ _ ?_
  refine xc_two fun N4 hN4 => ?_
  refine xc_reg2 fun K hK => ?_
  simp only [rall, rsl, gres]
  iterate 3 (refine seqX_hide2 fun R hR => ?_; simp [go_sem, bc hP c1, bc hP c3, hd, hpf, hs1, hs2, hpq, hsa]; refine hR _ _ _ ?_; clear hR R)
  rw [seqX_nil]
  refine hK _ _ _ ?_; clear hK K
  refine hN4 _ _ _ ?_
  simp [go_sem, bc hP c1, bc hP c3, hd, hpf, hs1, hs2, hpq, hsa]
  have hP2 := hs.2
  refine ⟨some q, rfl, rfl, ?_⟩
  rw [prf, if_neg hpf]
  refine TopR.grow (A' := A.set p (.cells (ync k st tag (v ++ val) an cv h l f row col) 114 (0, 0))) ⟨?_, hqp, hup st tag (v ++ val)⟩ (View.le_refl _) (le_ov hP2)
  rw [set_other hqp]
  exact hq
theorem caughtpfx (p q s : Addr) (w : World) :
    CallsD Try.prog 54 #[.pointer (some p), .pointer (some q), .pointer (some s)] .returning w fun e u' w' => (∃ v, e = .returned v) ∧ u' = .returning ∧ w' = w := by
  refine callsD_of_wpS Try.func54 rfl fun c₀ cs hu => ?_
  apply wpS_seq
  apply wpS_region
  simp [wpOpsS, go_sem, recoverD, hu, Try.ntmps54, Exit.thenS]
  refine wpS_cond (t := false) (by simp [Act.eval, Array.replicate]) ?_
  simp only [Bool.false_eq_true, if_false]
  refine wpS_of_wp (wp_skip ?_)
  cases c₀
  simp_all [bodyPostS, results, Try.results54]
theorem meth_pfx : meth Try.prog 80 "Filter" = some ⟨124, none⟩ := by kernel_rfl
set_option maxRecDepth 20000 in
set_option maxHeartbeats 400000 in
theorem add_pfx (A : View) (t : Tr) (lv : Nat) (c : Array Value) (v : ByteArray) (hc : IsTr A t c) (hpt : PT lv t) (hnd : nds t ≤ 400) (hlv : lv ≤ 40) (hz : t.value.size + v.size ≤ 1000000000) :
    VCalls Try.prog 21 #[.agg c, .string v] A fun r A' => ∃ c1 fv, r = .tuple #[.agg c1, fv, .int .i64 0] ∧ IsTr A' (t.setv (prf t.value v)) c1 ∧ A ≤ A' := by
  have hcz := hc.size
  have hco := hc.ones
  refine xcallsD Try.func21 rfl (by simp [Try.ntmps21]) ?_
  simp only [Try.f21]
  have hP : Priv A (addrs []) := Priv.nil A
  show xc _ _ _ _ _ _ (ov A [])
  refine xc_two fun N1 hN1 => ?_
  refine xc_reg2 fun K hK => ?_
  simp only [rall, rsl, gres]
  refine seqX_hide2 fun R hR => ?_
  simp [go_sem, hcz, hco]
  intro q2 hq2
  replace hP := hP.cons hq2
  clear hq2
  refine hR _ _ _ ?_; clear hR R
  refine seqX_hide2 fun R hR => ?_
  simp [go_sem, hcz, hco]
  intro q4 hq4
  replace hP := hP.cons hq4
  clear hq4
  have d42 : q4 ≠ q2 := (hP.ne q2 (by simp [addrs])).1
  have d24 : q2 ≠ q4 := (hP.ne q2 (by simp [addrs])).2
  refine hR _ _ _ ?_; clear hR R
  refine seqX_hide2 fun R hR => ?_
  simp [go_sem, hcz, hco, d42, d24]
  intro q5 hq5
  replace hP := hP.cons hq5
  clear hq5
  have d54 : q5 ≠ q4 := (hP.ne q4 (by simp [addrs])).1
  have d45 : q4 ≠ q5 := (hP.ne q4 (by simp [addrs])).2
  have d52 : q5 ≠ q2 := (hP.ne q2 (by simp [addrs])).1
  have d25 : q2 ≠ q5 := (hP.ne q2 (by simp [addrs])).2
  refine hR _ _ _ ?_; clear hR R
  refine seqX_hide2 fun R hR => ?_
  simp [go_sem, hcz, hco, d42, d24, d54, d45, d52, d25]
  intro q6 hq6
  replace hP := hP.cons hq6
  clear hq6
  have d65 : q6 ≠ q5 := (hP.ne q5 (by simp [addrs])).1
  have d56 : q5 ≠ q6 := (hP.ne q5 (by simp [addrs])).2
  have d64 : q6 ≠ q4 := (hP.ne q4 (by simp [addrs])).1
  have d46 : q4 ≠ q6 := (hP.ne q4 (by simp [addrs])).2
  have d62 : q6 ≠ q2 := (hP.ne q2 (by simp [addrs])).1
  have d26 : q2 ≠ q6 := (hP.ne q2 (by simp [addrs])).2
  refine hR _ _ _ ?_; clear hR R
  rw [seqX_nil]
  refine hK _ _ _ ?_; clear hK K
  refine hN1 _ _ _ ?_
  refine xc_two fun N2 hN2 => ?_
  refine xc_reg2 fun K hK => ?_
  simp only [rall, rsl, gres]
  (refine seqX_hide2 fun R hR => ?_; simp [go_sem, hcz, hco, d42, d24, d54, d45, d52, d25, d65, d56, d64, d46, d62, d26]; refine hR _ _ _ ?_; clear hR R)
  refine seqX_hide2 fun R hR => ?_
  simp [go_sem, hcz, hco, d42, d24, d54, d45, d52, d25, d65, d56, d64, d46, d62, d26, toDefer]
  refine hR _ _ _ ?_; clear hR R
  rw [seqX_nil]
  refine hK _ _ _ ?_; clear hK K
  refine hN2 _ _ _ ?_
  refine xc_two fun N3 hN3 => ?_
  refine xc_reg2 fun K hK => ?_
  simp only [rall, rsl, gres]
  (refine seqX_hide2 fun R hR => ?_; simp [go_sem, hcz, hco, d42, d24, d54, d45, d52, d25, d65, d56, d64, d46, d62, d26]; refine hR _ _ _ ?_; clear hR R)
  refine seqX_hide2 fun R hR => ?_
  simp [go_sem, hcz, hco, d42, d24, d54, d45, d52, d25, d65, d56, d64, d46, d62, d26]
  refine call_ov hP (rootedS A t lv c hc hpt hnd hlv) ?_
  clear hP
  rintro _ A2 ⟨q, p, rfl, hq, hqp, hq0, HT⟩ hP
  have hA2 := HT.le
  refine hR _ _ _ ?_; clear hR R
  iterate 5 (refine seqX_hide2 fun R hR => ?_; simp [go_sem, hcz, hco, d42, d24, d54, d45, d52, d25, d65, d56, d64, d46, d62, d26]; refine hR _ _ _ ?_; clear hR R)
  rw [seqX_nil]
  refine hK _ _ _ ?_; clear hK K
  refine hN3 _ _ _ ?_
  refine xc_two fun N4 hN4 => ?_
  refine xc_two fun N5 hN5 => ?_
  refine xc_reg2 fun K hK => ?_
  simp only [rall, rsl, gres]
  iterate 2 (refine seqX_hide2 fun R hR => ?_; simp [go_sem, hcz, hco, d42, d24, d54, d45, d52, d25, d65, d56, d64, d46, d62, d26]; refine hR _ _ _ ?_; clear hR R)
  rw [seqX_nil]
  refine hK _ _ _ ?_; clear hK K
  refine hN5 _ _ _ ?_
  refine xc_iffalse (by simp [go_sem, hcz, hco, d42, d24, d54, d45, d52, d25, d65, d56, d64, d46, d62, d26]) ?_
  refine hN4 _ _ _ ?_
  refine xc_two fun N6 hN6 => ?_
  refine xc_reg2 fun K hK => ?_
  simp only [rall, rsl, gres]
  iterate 4 (refine seqX_hide2 fun R hR => ?_; simp [go_sem, hcz, hco, d42, d24, d54, d45, d52, d25, d65, d56, d64, d46, d62, d26]; refine hR _ _ _ ?_; clear hR R)
  refine seqX_hide2 fun R hR => ?_
  simp [go_sem, hcz, hco, d42, d24, d54, d45, d52, d25, d65, d56, d64, d46, d62, d26]
  intro q25 hq25
  replace hP := hP.cons hq25
  clear hq25
  have d256 : q25 ≠ q6 := (hP.ne q6 (by simp [addrs])).1
  have d625 : q6 ≠ q25 := (hP.ne q6 (by simp [addrs])).2
  have d255 : q25 ≠ q5 := (hP.ne q5 (by simp [addrs])).1
  have d525 : q5 ≠ q25 := (hP.ne q5 (by simp [addrs])).2
  have d254 : q25 ≠ q4 := (hP.ne q4 (by simp [addrs])).1
  have d425 : q4 ≠ q25 := (hP.ne q4 (by simp [addrs])).2
  have d252 : q25 ≠ q2 := (hP.ne q2 (by simp [addrs])).1
  have d225 : q2 ≠ q25 := (hP.ne q2 (by simp [addrs])).2
  refine hR _ _ _ ?_; clear hR R
  refine seqX_hide2 fun R hR => ?_
  simp [go_sem, hcz, hco, d42, d24, d54, d45, d52, d25, d65, d56, d64, d46, d62, d26, d256, d625, d255, d525, d254, d425, d252, d225]
  obtain ⟨eq25, hPn, nq25⟩ := sinkI (A := A2) (L := [(q25, .cells #[.iface 80 (.agg #[.string v])] 116 (0, 0)), (q6, .cells #[.int .i64 0] 3 (0, 0)), (q5, .cells #[.slice none 0 0] 22 (0, 0)), (q4, .cells (trc 0 0 ⟨#[]⟩ ⟨#[]⟩ ⟨#[]⟩ ⟨#[]⟩ ⟨#[]⟩ ⟨#[]⟩ 0 0 0 (.slice none 0 0)) 24 (0, 0)), (q2, .cells c 24 (0, 0))]) 0 hP rfl
  rw [eq25]
  clear eq25 hP; have hP := hPn; clear hPn
  simp only [List.eraseIdx_cons_zero, List.eraseIdx_cons_succ, addrs_cons, addrs_nil] at hP ⊢
  have lq25 : A2 ≤ A2.set q25 (.cells #[.iface 80 (.agg #[.string v])] 116 (0, 0)) := le_set nq25
  have hrow : Row (A2.set q25 (.cells #[.iface 80 (.agg #[.string v])] 116 (0, 0))) 1 (.slice (some ⟨q25, 0, none⟩) 1 1) 1 [.iface 80 (.agg #[.string v])] := .inl ⟨_, 1, rfl, cells_block (set_at _ _ _) rfl⟩
  generalize A2.set q25 (.cells #[.iface 80 (.agg #[.string v])] 116 (0, 0)) = A3 at hP lq25 hrow ⊢
  have HR : TopR A A3 t q p := TopR.grow ⟨hq, hqp, HT⟩ (View.le_refl _) lq25
  obtain ⟨k, st, tag, val, an, h, l, f, row, col, al, kids, rfl⟩ := t.ex
  obtain ⟨cv, hp, -⟩ := HR.2.2.cell
  have hk1 : k ≠ 1 := by
    have := hpt
    rw [PT] at this
    obtain ⟨-, -, hk, -⟩ := this
    omega
  refine call_ov hP (pipe1 A3 q p 80 124 (.agg #[.string v]) (.slice (some ⟨q25, 0, none⟩) 1 1) k st tag val an cv h l f row col HR.1 hp hk1 meth_pfx (by kernel_rfl) hrow (fun x A' => x = ptr0 q ∧ TopR A A' (.mk k st tag (prf val v) an h l f row col al kids) q p) (pfxF A A3 k st tag val an h l f row col al kids q p v HR hz)) ?_
  clear hP
  rintro _ A4 ⟨x, rfl, hx, HR4⟩ hP
  rw [hx]
  have hpt4 : PT lv (.mk k st tag (prf val v) an h l f row col al kids) := setv_pt hpt (prf val v)
  have hnd4 : nds (.mk k st tag (prf val v) an h l f row col al kids) ≤ 1000000 := by
    have := setv_nds (.mk k st tag val an h l f row col al kids) (prf val v)
    rw [Tr.setv] at this
    omega
  refine hR _ _ _ ?_; clear hR R
  iterate 5 (refine seqX_hide2 fun R hR => ?_; simp [go_sem, hcz, hco, d42, d24, d54, d45, d52, d25, d65, d56, d64, d46, d62, d26, d256, d625, d255, d525, d254, d425, d252, d225]; refine hR _ _ _ ?_; clear hR R)
  rw [seqX_nil]
  refine hK _ _ _ ?_; clear hK K
  refine hN6 _ _ _ ?_
  refine xc_two fun N7 hN7 => ?_
  refine xc_two fun N8 hN8 => ?_
  refine xc_reg2 fun K hK => ?_
  simp only [rall, rsl, gres]
  iterate 2 (refine seqX_hide2 fun R hR => ?_; simp [go_sem, hcz, hco, d42, d24, d54, d45, d52, d25, d65, d56, d64, d46, d62, d26, d256, d625, d255, d525, d254, d425, d252, d225]; refine hR _ _ _ ?_; clear hR R)
  rw [seqX_nil]
  refine hK _ _ _ ?_; clear hK K
  refine hN8 _ _ _ ?_
  refine xc_iffalse (by simp [go_sem, hcz, hco, d42, d24, d54, d45, d52, d25, d65, d56, d64, d46, d62, d26, d256, d625, d255, d525, d254, d425, d252, d225]) ?_
  refine hN7 _ _ _ ?_
  refine xc_two fun N9 hN9 => ?_
  refine xc_reg2 fun K hK => ?_
  simp only [rall, rsl, gres]
  (refine seqX_hide2 fun R hR => ?_; simp [go_sem, hcz, hco, d42, d24, d54, d45, d52, d25, d65, d56, d64, d46, d62, d26, d256, d625, d255, d525, d254, d425, d252, d225]; refine hR _ _ _ ?_; clear hR R)
  refine seqX_hide2 fun R hR => ?_
  simp [go_sem, hcz, hco, d42, d24, d54, d45, d52, d25, d65, d56, d64, d46, d62, d26, d256, d625, d255, d525, d254, d425, d252, d225]
  refine call_ov hP (treeOf28 A4 _ q HR4.rn hpt4.nt hnd4) ?_
  clear hP
  rintro _ A5 ⟨c1, rfl, hc1, hA5⟩ hP
  have hcz1 := hc1.size
  have hco1 := hc1.ones
  refine hR _ _ _ ?_; clear hR R
  (refine seqX_hide2 fun R hR => ?_; simp [go_sem, hcz, hco, d42, d24, d54, d45, d52, d25, d65, d56, d64, d46, d62, d26, d256, d625, d255, d525, d254, d425, d252, d225, hcz1, hco1]; refine hR _ _ _ ?_; clear hR R)
  refine seqX_hide2 fun R hR => ?_
  simp [go_sem, hcz, hco, d42, d24, d54, d45, d52, d25, d65, d56, d64, d46, d62, d26, d256, d625, d255, d525, d254, d425, d252, d225, hcz1, hco1]
  refine call_ov hP (foundOf51 A5 _ q (HR4.rn.le hA5) hpt4.nt hnd4) ?_
  clear hP
  rintro fv A6 ⟨hfv, hA6⟩ hP
  obtain ⟨fb, fc, rfl⟩ := hfv.slice
  have hidle : Idle Try.prog { target := .fn (.func 54) #[.pointer (some ⟨q4, 0, none⟩), .pointer (some ⟨q5, 0, none⟩), .pointer (some ⟨q6, 0, none⟩)], args := #[] } := by
    intro w'
    exact ⟨_, _, 54, #[.pointer (some ⟨q4, 0, none⟩), .pointer (some ⟨q5, 0, none⟩), .pointer (some ⟨q6, 0, none⟩)], rfl, by simp [go_sem, invoke], caughtpfx _ _ _ _⟩
  refine hR _ _ _ ?_; clear hR R
  refine seqX_hide2 fun R hR => ?_
  simp [go_sem, hcz, hco, d42, d24, d54, d45, d52, d25, d65, d56, d64, d46, d62, d26, d256, d625, d255, d525, d254, d425, d252, d225, hcz1, hco1]
  refine hR _ _ _ ?_; clear hR R
  refine seqX_hide2 fun R hR => ?_
  simp [go_sem, hcz, hco, d42, d24, d54, d45, d52, d25, d65, d56, d64, d46, d62, d26, d256, d625, d255, d525, d254, d425, d252, d225, hcz1, hco1]
  refine hR _ _ _ ?_; clear hR R
  refine seqX_hide2 fun R hR => ?_
  simp [go_sem, hcz, hco, d42, d24, d54, d45, d52, d25, d65, d56, d64, d46, d62, d26, d256, d625, d255, d525, d254, d425, d252, d225, hcz1, hco1]
  refine hR _ _ _ ?_; clear hR R
  rw [seqX_nil]
  refine hK _ _ _ ?_; clear hK K
  refine hN9 _ _ _ ?_
  simp [go_sem, hcz, hco, d42, d24, d54, d45, d52, d25, d65, d56, d64, d46, d62, d26, d256, d625, d255, d525, d254, d425, d252, d225, hcz1, hco1]
  refine ⟨hidle, hc1.le ?_, View.le_trans HR4.2.2.le (View.le_trans hA5 (View.le_trans hA6 ?_))⟩
  · refine View.le_trans hA6 ?_
    exact le_ov hP
  · exact le_ov hP
set_option maxRecDepth 20000 in
theorem sfxF (A0 A : View) (k st : Int) (tag val an h l f : ByteArray) (row col al : Int) (kids : List Tr) (q p : Nat) (v : ByteArray) (H : TopR A0 A (.mk k st tag val an h l f row col al kids) q p) (hz : val.size + v.size ≤ 1000000000) :
    VCalls Try.prog 127 #[.agg #[.string v], ptr0 q] A fun r A' => ∃ x : Option Nat, r = .tuple #[(match x with | none => .pointer none | some b => ptr0 b), .nilIface] ∧ ((match x with | none => .pointer none | some b => ptr0 b) = ptr0 q ∧ TopR A0 A' (.mk k st tag (suf val v) an h l f row col al kids) q p) := by
  obtain ⟨hq, hqp, HT⟩ := H
  obtain ⟨cv, hp, hup⟩ := HT.cell
  have c1 := cell_of (i := 1) hq rfl
  have c3 := cell_of (i := 3) hp rfl
  refine xcalls Try.func127 rfl (by simp [Try.ntmps127]) ?_
  simp only [Try.f127]
  have hP : Priv A (addrs []) := Priv.nil A
  show xc _ _ _ _ _ _ (ov A [])
  refine xc_two fun N1 hN1 => ?_
  refine xc_reg2 fun K hK => ?_
  simp only [rall, rsl, gres]
  refine seqX_hide2 fun R hR => ?_
  simp [go_sem, bc hP c1, bc hP c3]
  intro q2 hq2
  replace hP := hP.cons hq2
  clear hq2
  refine hR _ _ _ ?_; clear hR R
  iterate 2 (refine seqX_hide2 fun R hR => ?_; simp [go_sem, bc hP c1, bc hP c3]; refine hR _ _ _ ?_; clear hR R)
  rw [seqX_nil]
  refine hK _ _ _ ?_; clear hK K
  refine hN1 _ _ _ ?_
  refine xc_two fun N2 hN2 => ?_
  refine xc_two fun N3 hN3 => ?_
  rw [xc_draws]
  refine vdrawK [(0, true), (1, true), (2, true), (3, true), (4, true), (5, true), (6, true), (7, true), (8, true), (9, false), (10, true)] (ov A [(q2, .cells #[.string v] 81 (0, 0))]) mixed (by kernel_rfl) (View.le_refl _) fun K hK => ?_
  simp only [rsl, gres]
  iterate 9 (refine seqR_hide fun R hR => ?_; simp [go_sem, bc hP c1, bc hP c3]; refine hR _ _ _ ?_; clear hR R)
  refine seqR_hide fun R hR => ?_
  simp [go_sem, bc hP c1, bc hP c3]
  refine call_same hP (sfx1 A val v (by omega)) ?_
  rintro _ rfl
  refine hR _ _ _ ?_; clear hR R
  (refine seqR_hide fun R hR => ?_; simp [go_sem, bc hP c1, bc hP c3]; refine hR _ _ _ ?_; clear hR R)
  rw [seqR_nil]
  refine hK _ _ _ ?_; clear hK K
  refine hN3 _ _ _ ?_
  by_cases hpf : Sfx val v
  · have hd : decide (Sfx val v) = true := decide_eq_true hpf
    refine xc_iffalse (by simp [go_sem, bc hP c1, bc hP c3, hd, hpf]) ?_
    refine hN2 _ _ _ ?_
    refine xc_two fun N4 hN4 => ?_
    refine xc_reg2 fun K hK => ?_
    simp only [rall, rsl, gres]
    iterate 3 (refine seqX_hide2 fun R hR => ?_; simp [go_sem, bc hP c1, bc hP c3, hd, hpf]; refine hR _ _ _ ?_; clear hR R)
    rw [seqX_nil]
    refine hK _ _ _ ?_; clear hK K
    refine hN4 _ _ _ ?_
    simp [go_sem, bc hP c1, bc hP c3, hd, hpf]
    refine ⟨some q, rfl, rfl, ?_⟩
    rw [suf, if_pos hpf]
    exact TopR.grow ⟨hq, hqp, HT⟩ (View.le_refl _) (le_ov hP)
  have hd : decide (Sfx val v) = false := decide_eq_false hpf
  have hs1 : v.size + val.size ≤ 9223372036854775807 := by omega
  have hs2 : val.size + v.size ≤ 9223372036854775807 := by omega
  have hpq : p ≠ q2 := fun hx => by have := hP.1; rw [← hx, hp] at this; cases this
  have hs := cstoreF (L := [(q2, .cells #[.string v] 81 (0, 0))]) hP ti9 hp (i := 3) (u := .string (val ++ v)) (c' := ync k st tag (val ++ v) an cv h l f row col) (by show 3 < 12; decide) rfl rfl
  have hsa := hs.1
  refine xc_iftrue (by simp [go_sem, bc hP c1, bc hP c3, hd, hpf, hs1, hs2, hpq, hsa]) ?_
  rw [xc_draws]
  refine vdrawK [(0, true), (1, true), (2, true), (3, true), (4, true), (5, true), (6, true), (7, true), (8, true), (9, true), (10, true), (11, true), (12, false)] (ov A [(q2, .cells #[.string v] 81 (0, 0))]) mixed (by kernel_rfl) (View.le_refl _) fun K hK => ?_
  simp only [rsl, gres]
  iterate 12 (refine seqR_hide fun R hR => ?_; simp [go_sem, bc hP c1, bc hP c3, hd, hpf, hs1, hs2, hpq, hsa]; refine hR _ _ _ ?_; clear hR R)
  refine seqR_hide fun R hR => ?_
  simp [go_sem, bc hP c1, bc hP c3, hd, hpf, hs1, hs2, hpq, hsa]
  refine hR _ _ _ ?_; clear hR R
  rw [seqR_nil]
  refine hK _ _ _ ?_; clear hK K
  refine hN2 _ _ _ ?_
  refine xc_two fun N4 hN4 => ?_
  refine xc_reg2 fun K hK => ?_
  simp only [rall, rsl, gres]
  iterate 3 (refine seqX_hide2 fun R hR => ?_; simp [go_sem, bc hP c1, bc hP c3, hd, hpf, hs1, hs2, hpq, hsa]; refine hR _ _ _ ?_; clear hR R)
  rw [seqX_nil]
  refine hK _ _ _ ?_; clear hK K
  refine hN4 _ _ _ ?_
  simp [go_sem, bc hP c1, bc hP c3, hd, hpf, hs1, hs2, hpq, hsa]
  have hP2 := hs.2
  refine ⟨some q, rfl, rfl, ?_⟩
  rw [suf, if_neg hpf]
  refine TopR.grow (A' := A.set p (.cells (ync k st tag (val ++ v) an cv h l f row col) 114 (0, 0))) ⟨?_, hqp, hup st tag (val ++ v)⟩ (View.le_refl _) (le_ov hP2)
  rw [set_other hqp]
  exact hq
theorem caughtsfx (p q s : Addr) (w : World) :
    CallsD Try.prog 55 #[.pointer (some p), .pointer (some q), .pointer (some s)] .returning w fun e u' w' => (∃ v, e = .returned v) ∧ u' = .returning ∧ w' = w := by
  refine callsD_of_wpS Try.func55 rfl fun c₀ cs hu => ?_
  apply wpS_seq
  apply wpS_region
  simp [wpOpsS, go_sem, recoverD, hu, Try.ntmps55, Exit.thenS]
  refine wpS_cond (t := false) (by simp [Act.eval, Array.replicate]) ?_
  simp only [Bool.false_eq_true, if_false]
  refine wpS_of_wp (wp_skip ?_)
  cases c₀
  simp_all [bodyPostS, results, Try.results55]
theorem meth_sfx : meth Try.prog 81 "Filter" = some ⟨127, none⟩ := by kernel_rfl
set_option maxRecDepth 20000 in
set_option maxHeartbeats 400000 in
theorem add_sfx (A : View) (t : Tr) (lv : Nat) (c : Array Value) (v : ByteArray) (hc : IsTr A t c) (hpt : PT lv t) (hnd : nds t ≤ 400) (hlv : lv ≤ 40) (hz : t.value.size + v.size ≤ 1000000000) :
    VCalls Try.prog 23 #[.agg c, .string v] A fun r A' => ∃ c1 fv, r = .tuple #[.agg c1, fv, .int .i64 0] ∧ IsTr A' (t.setv (suf t.value v)) c1 ∧ A ≤ A' := by
  have hcz := hc.size
  have hco := hc.ones
  refine xcallsD Try.func23 rfl (by simp [Try.ntmps23]) ?_
  simp only [Try.f23]
  have hP : Priv A (addrs []) := Priv.nil A
  show xc _ _ _ _ _ _ (ov A [])
  refine xc_two fun N1 hN1 => ?_
  refine xc_reg2 fun K hK => ?_
  simp only [rall, rsl, gres]
  refine seqX_hide2 fun R hR => ?_
  simp [go_sem, hcz, hco]
  intro q2 hq2
  replace hP := hP.cons hq2
  clear hq2
  refine hR _ _ _ ?_; clear hR R
  refine seqX_hide2 fun R hR => ?_
  simp [go_sem, hcz, hco]
  intro q4 hq4
  replace hP := hP.cons hq4
  clear hq4
  have d42 : q4 ≠ q2 := (hP.ne q2 (by simp [addrs])).1
  have d24 : q2 ≠ q4 := (hP.ne q2 (by simp [addrs])).2
  refine hR _ _ _ ?_; clear hR R
  refine seqX_hide2 fun R hR => ?_
  simp [go_sem, hcz, hco, d42, d24]
  intro q5 hq5
  replace hP := hP.cons hq5
  clear hq5
  have d54 : q5 ≠ q4 := (hP.ne q4 (by simp [addrs])).1
  have d45 : q4 ≠ q5 := (hP.ne q4 (by simp [addrs])).2
  have d52 : q5 ≠ q2 := (hP.ne q2 (by simp [addrs])).1
  have d25 : q2 ≠ q5 := (hP.ne q2 (by simp [addrs])).2
  refine hR _ _ _ ?_; clear hR R
  refine seqX_hide2 fun R hR => ?_
  simp [go_sem, hcz, hco, d42, d24, d54, d45, d52, d25]
  intro q6 hq6
  replace hP := hP.cons hq6
  clear hq6
  have d65 : q6 ≠ q5 := (hP.ne q5 (by simp [addrs])).1
  have d56 : q5 ≠ q6 := (hP.ne q5 (by simp [addrs])).2
  have d64 : q6 ≠ q4 := (hP.ne q4 (by simp [addrs])).1
  have d46 : q4 ≠ q6 := (hP.ne q4 (by simp [addrs])).2
  have d62 : q6 ≠ q2 := (hP.ne q2 (by simp [addrs])).1
  have d26 : q2 ≠ q6 := (hP.ne q2 (by simp [addrs])).2
  refine hR _ _ _ ?_; clear hR R
  rw [seqX_nil]
  refine hK _ _ _ ?_; clear hK K
  refine hN1 _ _ _ ?_
  refine xc_two fun N2 hN2 => ?_
  refine xc_reg2 fun K hK => ?_
  simp only [rall, rsl, gres]
  (refine seqX_hide2 fun R hR => ?_; simp [go_sem, hcz, hco, d42, d24, d54, d45, d52, d25, d65, d56, d64, d46, d62, d26]; refine hR _ _ _ ?_; clear hR R)
  refine seqX_hide2 fun R hR => ?_
  simp [go_sem, hcz, hco, d42, d24, d54, d45, d52, d25, d65, d56, d64, d46, d62, d26, toDefer]
  refine hR _ _ _ ?_; clear hR R
  rw [seqX_nil]
  refine hK _ _ _ ?_; clear hK K
  refine hN2 _ _ _ ?_
  refine xc_two fun N3 hN3 => ?_
  refine xc_reg2 fun K hK => ?_
  simp only [rall, rsl, gres]
  (refine seqX_hide2 fun R hR => ?_; simp [go_sem, hcz, hco, d42, d24, d54, d45, d52, d25, d65, d56, d64, d46, d62, d26]; refine hR _ _ _ ?_; clear hR R)
  refine seqX_hide2 fun R hR => ?_
  simp [go_sem, hcz, hco, d42, d24, d54, d45, d52, d25, d65, d56, d64, d46, d62, d26]
  refine call_ov hP (rootedS A t lv c hc hpt hnd hlv) ?_
  clear hP
  rintro _ A2 ⟨q, p, rfl, hq, hqp, hq0, HT⟩ hP
  have hA2 := HT.le
  refine hR _ _ _ ?_; clear hR R
  iterate 5 (refine seqX_hide2 fun R hR => ?_; simp [go_sem, hcz, hco, d42, d24, d54, d45, d52, d25, d65, d56, d64, d46, d62, d26]; refine hR _ _ _ ?_; clear hR R)
  rw [seqX_nil]
  refine hK _ _ _ ?_; clear hK K
  refine hN3 _ _ _ ?_
  refine xc_two fun N4 hN4 => ?_
  refine xc_two fun N5 hN5 => ?_
  refine xc_reg2 fun K hK => ?_
  simp only [rall, rsl, gres]
  iterate 2 (refine seqX_hide2 fun R hR => ?_; simp [go_sem, hcz, hco, d42, d24, d54, d45, d52, d25, d65, d56, d64, d46, d62, d26]; refine hR _ _ _ ?_; clear hR R)
  rw [seqX_nil]
  refine hK _ _ _ ?_; clear hK K
  refine hN5 _ _ _ ?_
  refine xc_iffalse (by simp [go_sem, hcz, hco, d42, d24, d54, d45, d52, d25, d65, d56, d64, d46, d62, d26]) ?_
  refine hN4 _ _ _ ?_
  refine xc_two fun N6 hN6 => ?_
  refine xc_reg2 fun K hK => ?_
  simp only [rall, rsl, gres]
  iterate 4 (refine seqX_hide2 fun R hR => ?_; simp [go_sem, hcz, hco, d42, d24, d54, d45, d52, d25, d65, d56, d64, d46, d62, d26]; refine hR _ _ _ ?_; clear hR R)
  refine seqX_hide2 fun R hR => ?_
  simp [go_sem, hcz, hco, d42, d24, d54, d45, d52, d25, d65, d56, d64, d46, d62, d26]
  intro q25 hq25
  replace hP := hP.cons hq25
  clear hq25
  have d256 : q25 ≠ q6 := (hP.ne q6 (by simp [addrs])).1
  have d625 : q6 ≠ q25 := (hP.ne q6 (by simp [addrs])).2
  have d255 : q25 ≠ q5 := (hP.ne q5 (by simp [addrs])).1
  have d525 : q5 ≠ q25 := (hP.ne q5 (by simp [addrs])).2
  have d254 : q25 ≠ q4 := (hP.ne q4 (by simp [addrs])).1
  have d425 : q4 ≠ q25 := (hP.ne q4 (by simp [addrs])).2
  have d252 : q25 ≠ q2 := (hP.ne q2 (by simp [addrs])).1
  have d225 : q2 ≠ q25 := (hP.ne q2 (by simp [addrs])).2
  refine hR _ _ _ ?_; clear hR R
  refine seqX_hide2 fun R hR => ?_
  simp [go_sem, hcz, hco, d42, d24, d54, d45, d52, d25, d65, d56, d64, d46, d62, d26, d256, d625, d255, d525, d254, d425, d252, d225]
  obtain ⟨eq25, hPn, nq25⟩ := sinkI (A := A2) (L := [(q25, .cells #[.iface 81 (.agg #[.string v])] 116 (0, 0)), (q6, .cells #[.int .i64 0] 3 (0, 0)), (q5, .cells #[.slice none 0 0] 22 (0, 0)), (q4, .cells (trc 0 0 ⟨#[]⟩ ⟨#[]⟩ ⟨#[]⟩ ⟨#[]⟩ ⟨#[]⟩ ⟨#[]⟩ 0 0 0 (.slice none 0 0)) 24 (0, 0)), (q2, .cells c 24 (0, 0))]) 0 hP rfl
  rw [eq25]
  clear eq25 hP; have hP := hPn; clear hPn
  simp only [List.eraseIdx_cons_zero, List.eraseIdx_cons_succ, addrs_cons, addrs_nil] at hP ⊢
  have lq25 : A2 ≤ A2.set q25 (.cells #[.iface 81 (.agg #[.string v])] 116 (0, 0)) := le_set nq25
  have hrow : Row (A2.set q25 (.cells #[.iface 81 (.agg #[.string v])] 116 (0, 0))) 1 (.slice (some ⟨q25, 0, none⟩) 1 1) 1 [.iface 81 (.agg #[.string v])] := .inl ⟨_, 1, rfl, cells_block (set_at _ _ _) rfl⟩
  generalize A2.set q25 (.cells #[.iface 81 (.agg #[.string v])] 116 (0, 0)) = A3 at hP lq25 hrow ⊢
  have HR : TopR A A3 t q p := TopR.grow ⟨hq, hqp, HT⟩ (View.le_refl _) lq25
  obtain ⟨k, st, tag, val, an, h, l, f, row, col, al, kids, rfl⟩ := t.ex
  obtain ⟨cv, hp, -⟩ := HR.2.2.cell
  have hk1 : k ≠ 1 := by
    have := hpt
    rw [PT] at this
    obtain ⟨-, -, hk, -⟩ := this
    omega
  refine call_ov hP (pipe1 A3 q p 81 127 (.agg #[.string v]) (.slice (some ⟨q25, 0, none⟩) 1 1) k st tag val an cv h l f row col HR.1 hp hk1 meth_sfx (by kernel_rfl) hrow (fun x A' => x = ptr0 q ∧ TopR A A' (.mk k st tag (suf val v) an h l f row col al kids) q p) (sfxF A A3 k st tag val an h l f row col al kids q p v HR hz)) ?_
  clear hP
  rintro _ A4 ⟨x, rfl, hx, HR4⟩ hP
  rw [hx]
  have hpt4 : PT lv (.mk k st tag (suf val v) an h l f row col al kids) := setv_pt hpt (suf val v)
  have hnd4 : nds (.mk k st tag (suf val v) an h l f row col al kids) ≤ 1000000 := by
    have := setv_nds (.mk k st tag val an h l f row col al kids) (suf val v)
    rw [Tr.setv] at this
    omega
  refine hR _ _ _ ?_; clear hR R
  iterate 5 (refine seqX_hide2 fun R hR => ?_; simp [go_sem, hcz, hco, d42, d24, d54, d45, d52, d25, d65, d56, d64, d46, d62, d26, d256, d625, d255, d525, d254, d425, d252, d225]; refine hR _ _ _ ?_; clear hR R)
  rw [seqX_nil]
  refine hK _ _ _ ?_; clear hK K
  refine hN6 _ _ _ ?_
  refine xc_two fun N7 hN7 => ?_
  refine xc_two fun N8 hN8 => ?_
  refine xc_reg2 fun K hK => ?_
  simp only [rall, rsl, gres]
  iterate 2 (refine seqX_hide2 fun R hR => ?_; simp [go_sem, hcz, hco, d42, d24, d54, d45, d52, d25, d65, d56, d64, d46, d62, d26, d256, d625, d255, d525, d254, d425, d252, d225]; refine hR _ _ _ ?_; clear hR R)
  rw [seqX_nil]
  refine hK _ _ _ ?_; clear hK K
  refine hN8 _ _ _ ?_
  refine xc_iffalse (by simp [go_sem, hcz, hco, d42, d24, d54, d45, d52, d25, d65, d56, d64, d46, d62, d26, d256, d625, d255, d525, d254, d425, d252, d225]) ?_
  refine hN7 _ _ _ ?_
  refine xc_two fun N9 hN9 => ?_
  refine xc_reg2 fun K hK => ?_
  simp only [rall, rsl, gres]
  (refine seqX_hide2 fun R hR => ?_; simp [go_sem, hcz, hco, d42, d24, d54, d45, d52, d25, d65, d56, d64, d46, d62, d26, d256, d625, d255, d525, d254, d425, d252, d225]; refine hR _ _ _ ?_; clear hR R)
  refine seqX_hide2 fun R hR => ?_
  simp [go_sem, hcz, hco, d42, d24, d54, d45, d52, d25, d65, d56, d64, d46, d62, d26, d256, d625, d255, d525, d254, d425, d252, d225]
  refine call_ov hP (treeOf28 A4 _ q HR4.rn hpt4.nt hnd4) ?_
  clear hP
  rintro _ A5 ⟨c1, rfl, hc1, hA5⟩ hP
  have hcz1 := hc1.size
  have hco1 := hc1.ones
  refine hR _ _ _ ?_; clear hR R
  (refine seqX_hide2 fun R hR => ?_; simp [go_sem, hcz, hco, d42, d24, d54, d45, d52, d25, d65, d56, d64, d46, d62, d26, d256, d625, d255, d525, d254, d425, d252, d225, hcz1, hco1]; refine hR _ _ _ ?_; clear hR R)
  refine seqX_hide2 fun R hR => ?_
  simp [go_sem, hcz, hco, d42, d24, d54, d45, d52, d25, d65, d56, d64, d46, d62, d26, d256, d625, d255, d525, d254, d425, d252, d225, hcz1, hco1]
  refine call_ov hP (foundOf51 A5 _ q (HR4.rn.le hA5) hpt4.nt hnd4) ?_
  clear hP
  rintro fv A6 ⟨hfv, hA6⟩ hP
  obtain ⟨fb, fc, rfl⟩ := hfv.slice
  have hidle : Idle Try.prog { target := .fn (.func 55) #[.pointer (some ⟨q4, 0, none⟩), .pointer (some ⟨q5, 0, none⟩), .pointer (some ⟨q6, 0, none⟩)], args := #[] } := by
    intro w'
    exact ⟨_, _, 55, #[.pointer (some ⟨q4, 0, none⟩), .pointer (some ⟨q5, 0, none⟩), .pointer (some ⟨q6, 0, none⟩)], rfl, by simp [go_sem, invoke], caughtsfx _ _ _ _⟩
  refine hR _ _ _ ?_; clear hR R
  refine seqX_hide2 fun R hR => ?_
  simp [go_sem, hcz, hco, d42, d24, d54, d45, d52, d25, d65, d56, d64, d46, d62, d26, d256, d625, d255, d525, d254, d425, d252, d225, hcz1, hco1]
  refine hR _ _ _ ?_; clear hR R
  refine seqX_hide2 fun R hR => ?_
  simp [go_sem, hcz, hco, d42, d24, d54, d45, d52, d25, d65, d56, d64, d46, d62, d26, d256, d625, d255, d525, d254, d425, d252, d225, hcz1, hco1]
  refine hR _ _ _ ?_; clear hR R
  refine seqX_hide2 fun R hR => ?_
  simp [go_sem, hcz, hco, d42, d24, d54, d45, d52, d25, d65, d56, d64, d46, d62, d26, d256, d625, d255, d525, d254, d425, d252, d225, hcz1, hco1]
  refine hR _ _ _ ?_; clear hR R
  rw [seqX_nil]
  refine hK _ _ _ ?_; clear hK K
  refine hN9 _ _ _ ?_
  simp [go_sem, hcz, hco, d42, d24, d54, d45, d52, d25, d65, d56, d64, d46, d62, d26, d256, d625, d255, d525, d254, d425, d252, d225, hcz1, hco1]
  refine ⟨hidle, hc1.le ?_, View.le_trans HR4.2.2.le (View.le_trans hA5 (View.le_trans hA6 ?_))⟩
  · refine View.le_trans hA6 ?_
    exact le_ov hP
  · exact le_ov hP
end Go.Proofs.YtpinamipjddobaaV

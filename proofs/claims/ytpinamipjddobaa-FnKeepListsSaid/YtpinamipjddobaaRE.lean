/- Trees: texts that are no keywords (the text red), small questions to a node. -/
import Derived.Test.YtpinamipjddobaaRA
import Derived.Test.YtpinamipjddobaaKQ2
namespace Go.Proofs.YtpinamipjddobaaV
open Go.RowKit
set_option linter.unusedSimpArgs false
set_option linter.unusedVariables false
theorem extract_one {s : ByteArray} {i : Nat} (h : i < s.size) : s.extract i (i + 1) = ⟨#[s[i]]⟩ := by
  have h1 : i < s.data.toList.length := by rw [Array.length_toList]; exact h
  apply ByteArray.ext
  apply Array.toList_inj.1
  rw [Lib.extract_data s i (i + 1), Nat.add_sub_cancel_left, List.drop_eq_getElem_cons h1]
  rfl
def vRed : ByteArray := ⟨#[114, 101, 100]⟩
set_option maxRecDepth 20000 in
theorem index123 (A : View) (s : ByteArray) (hs : s.size ≤ 1125899906842624) (hn : ∀ j (h : j < s.size), s[j] ≠ 10) : VCalls Try.prog 123 #[.string s, .string ⟨#[10]⟩] A fun r A' => r = .int .i64 (-1) ∧ A' = A := by
  refine xcalls Try.func123 rfl (by simp [Try.ntmps123]) ?_
  simp only [Try.f123]
  have hP : Priv A (addrs []) := Priv.nil A
  show xc _ _ _ _ _ _ (ov A [])
  refine xc_two fun N1 hN1 => ?_
  refine xc_reg2 fun K hK => ?_
  simp only [rall, rsl, gres]
  (refine seqX_hide2 fun R hR => ?_; simp [go_sem]; refine hR _ _ _ ?_; clear hR R)
  rw [seqX_nil]
  refine hK _ _ _ ?_; clear hK K
  refine hN1 _ _ _ ?_
  refine xc_two fun N2 hN2 => ?_
  refine xc_two fun N3 hN3 => ?_
  refine xc_reg2 fun K hK => ?_
  simp only [rall, rsl, gres]
  (refine seqX_hide2 fun R hR => ?_; simp [go_sem]; refine hR _ _ _ ?_; clear hR R)
  rw [seqX_nil]
  refine hK _ _ _ ?_; clear hK K
  refine hN3 _ _ _ ?_
  rw [xc_block]
  rw [xc_loop]
  refine vloopK (fun k' e ds A' => ∃ (i : Nat), k' = s.size - i ∧ ds = [] ∧ A' = ov A [] ∧ Priv A [] ∧ e 0 = .string s ∧ e 1 = .string ⟨#[10]⟩ ∧ e 5 = .int .i64 i ∧ (i ≤ s.size)) _ ⟨0, rfl, rfl, rfl, hP, by simp [go_sem], by simp [go_sem], by simp [go_sem], by omega⟩ ?_
  clear hP
  rintro k' e ds A' ⟨i, rfl, rfl, hV, hP, g0, g1, g5, hil⟩ J1 X1 hJ1 hX1
  refine xc_sound _ ?_
  replace hV := Eq.symm hV; subst hV; replace hP : Priv A (addrs []) := hP
  have hw1 := wrap_nat (i := i) (by omega)
  have hsz : (⟨#[10]⟩ : ByteArray).size = 1 := rfl
  by_cases hi : i < s.size
  · have hii : (i : Int) < s.size := by omega
    have hi1 : i + 1 ≤ s.size := by omega
    have hi1i : (i : Int) + 1 ≤ s.size := by omega
    have hil' : (i : Int) ≤ s.size := by omega
    have h0i : (0 : Int) ≤ (i : Int) + 1 := by omega
    have hiil : (i : Int) ≤ (i : Int) + 1 := by omega
    have hd := hn i hi
    have hb : ((s.extract i (i + 1)).toList == [10]) = false := by
      cases hx : ((s.extract i (i + 1)).toList == [10]) with
      | false => rfl
      | true =>
        exfalso
        have := (Lib.bytes_beq_iff (s.extract i (i + 1)) ⟨#[10]⟩).1 (by rw [show (⟨#[10]⟩ : ByteArray).toList = [10] by kernel_rfl]; exact hx)
        rw [extract_one hi] at this
        have h2 : s[i] = 10 := by
          have := congrArg (fun x : ByteArray => x.data.toList) this
          simpa using this
        exact hd h2
    refine xc_two fun N4 hN4 => ?_
    refine xc_two fun N5 hN5 => ?_
    refine xc_reg2 fun K hK => ?_
    simp only [rall, rsl, gres]
    iterate 7 (refine seqX_hide2 fun R hR => ?_; simp [go_sem, g0, g1, g5, hi, hii, hw1, hsz, hi1, hi1i, xslice, hil, hil', hiil, h0i, hb]; refine hR _ _ _ ?_; clear hR R)
    rw [seqX_nil]
    refine hK _ _ _ ?_; clear hK K
    refine hN5 _ _ _ ?_
    refine xc_iftrue (by simp [go_sem, g0, g1, g5, hi, hii, hw1, hsz, hi1, hi1i, xslice, hil, hil', hiil, h0i, hb]) ?_
    refine hN4 _ _ _ ?_
    refine xc_two fun N6 hN6 => ?_
    rw [xc_block]
    refine xc_two fun N7 hN7 => ?_
    refine xc_reg2 fun K hK => ?_
    simp only [rall, rsl, gres]
    iterate 9 (refine seqX_hide2 fun R hR => ?_; simp [go_sem, g0, g1, g5, hi, hii, hw1, hsz, hi1, hi1i, xslice, hil, hil', hiil, h0i, hb]; refine hR _ _ _ ?_; clear hR R)
    rw [seqX_nil]
    refine hK _ _ _ ?_; clear hK K
    refine hN7 _ _ _ ?_
    refine xc_iffalse (by simp [go_sem, g0, g1, g5, hi, hii, hw1, hsz, hi1, hi1i, xslice, hil, hil', hiil, h0i, hb]) ?_
    refine hN6 _ _ _ ?_
    refine xc_reg2 fun K hK => ?_
    simp only [rall, rsl, gres]
    iterate 3 (refine seqX_hide2 fun R hR => ?_; simp [go_sem, g0, g1, g5, hi, hii, hw1, hsz, hi1, hi1i, xslice, hil, hil', hiil, h0i, hb]; refine hR _ _ _ ?_; clear hR R)
    rw [seqX_nil]
    refine hK _ _ _ ?_; clear hK K
    refine hJ1 (s.size - (i + 1)) _ _ _ (by omega) ⟨i + 1, rfl, rfl, rfl, hP, by simp [go_sem, g0, g1, g5, hi, hii, hw1, hsz, hi1, hi1i, xslice, hil, hil', hiil, h0i, hb], by simp [go_sem, g0, g1, g5, hi, hii, hw1, hsz, hi1, hi1i, xslice, hil, hil', hiil, h0i, hb], by simp [go_sem, g0, g1, g5, hi, hii, hw1, hsz, hi1, hi1i, xslice, hil, hil', hiil, h0i, hb], by omega⟩
  · skip
    have hii : ¬ (i : Int) < s.size := by omega
    have hi1 : ¬ i + 1 ≤ s.size := by omega
    have hi1i : ¬ (i : Int) + 1 ≤ s.size := by omega
    refine xc_two fun N4 hN4 => ?_
    refine xc_two fun N5 hN5 => ?_
    refine xc_reg2 fun K hK => ?_
    simp only [rall, rsl, gres]
    iterate 7 (refine seqX_hide2 fun R hR => ?_; simp [go_sem, g0, g1, g5, hi, hii, hw1, hsz, hi1, hi1i]; refine hR _ _ _ ?_; clear hR R)
    rw [seqX_nil]
    refine hK _ _ _ ?_; clear hK K
    refine hN5 _ _ _ ?_
    refine xc_iffalse (by simp [go_sem, g0, g1, g5, hi, hii, hw1, hsz, hi1, hi1i]) ?_
    refine hX1 _ _ _ _ ?_
    refine hN2 _ _ _ ?_
    refine xc_two fun N6 hN6 => ?_
    refine xc_reg2 fun K hK => ?_
    simp only [rall, rsl, gres]
    (refine seqX_hide2 fun R hR => ?_; simp [go_sem, g0, g1, g5, hi, hii, hw1, hsz, hi1, hi1i]; refine hR _ _ _ ?_; clear hR R)
    rw [seqX_nil]
    refine hK _ _ _ ?_; clear hK K
    refine hN6 _ _ _ ?_
    simp [go_sem, g0, g1, g5, hi, hii, hw1, hsz, hi1, hi1i]
    rfl
set_option maxRecDepth 20000 in
theorem cont121 (A : View) (s : ByteArray) (hs : s.size ≤ 1125899906842624) (hn : ∀ j (h : j < s.size), s[j] ≠ 10) : VCalls Try.prog 121 #[.string s, .string ⟨#[10]⟩] A fun r A' => r = .bool false ∧ A' = A := by
  refine xcalls Try.func121 rfl (by simp [Try.ntmps121]) ?_
  simp only [Try.f121]
  have hP : Priv A (addrs []) := Priv.nil A
  show xc _ _ _ _ _ _ (ov A [])
  refine xc_two fun N1 hN1 => ?_
  refine xc_reg2 fun K hK => ?_
  simp only [rall, rsl, gres]
  (refine seqX_hide2 fun R hR => ?_; simp [go_sem]; refine hR _ _ _ ?_; clear hR R)
  rw [seqX_nil]
  refine hK _ _ _ ?_; clear hK K
  refine hN1 _ _ _ ?_
  refine xc_two fun N2 hN2 => ?_
  refine xc_reg2 fun K hK => ?_
  simp only [rall, rsl, gres]
  iterate 2 (refine seqX_hide2 fun R hR => ?_; simp [go_sem]; refine hR _ _ _ ?_; clear hR R)
  refine seqX_hide2 fun R hR => ?_
  simp [go_sem]
  refine call_same hP (index123 A s hs hn) ?_
  rintro _ rfl
  refine hR _ _ _ ?_; clear hR R
  iterate 2 (refine seqX_hide2 fun R hR => ?_; simp [go_sem]; refine hR _ _ _ ?_; clear hR R)
  rw [seqX_nil]
  refine hK _ _ _ ?_; clear hK K
  refine hN2 _ _ _ ?_
  simp [go_sem]
  rfl
set_option maxRecDepth 20000 in
theorem number122 (A : View) : VCalls Try.prog 122 #[.string ⟨#[114, 101, 100]⟩] A fun r A' => r = .bool false ∧ A' = A := by
  have hz : (⟨#[114, 101, 100]⟩ : ByteArray).size = 3 := rfl
  have h0 : (⟨#[114, 101, 100]⟩ : ByteArray)[0]? = some 114 := rfl
  have hw8 : IntKind.u8.wrap 114 = 114 := by decide
  have h0n : ((⟨#[114, 101, 100]⟩ : ByteArray)[0]'(by decide)).toNat = 114 := by decide
  refine xcalls Try.func122 rfl (by simp [Try.ntmps122]) ?_
  simp only [Try.f122]
  have hP : Priv A (addrs []) := Priv.nil A
  show xc _ _ _ _ _ _ (ov A [])
  refine xc_two fun N1 hN1 => ?_
  refine xc_reg2 fun K hK => ?_
  simp only [rall, rsl, gres]
  (refine seqX_hide2 fun R hR => ?_; simp [go_sem, hz, h0, h0n, hw8, xindex]; refine hR _ _ _ ?_; clear hR R)
  rw [seqX_nil]
  refine hK _ _ _ ?_; clear hK K
  refine hN1 _ _ _ ?_
  refine xc_two fun N2 hN2 => ?_
  refine xc_two fun N3 hN3 => ?_
  refine xc_reg2 fun K hK => ?_
  simp only [rall, rsl, gres]
  iterate 8 (refine seqX_hide2 fun R hR => ?_; simp [go_sem, hz, h0, h0n, hw8, xindex]; refine hR _ _ _ ?_; clear hR R)
  rw [seqX_nil]
  refine hK _ _ _ ?_; clear hK K
  refine hN3 _ _ _ ?_
  refine xc_iffalse (by simp [go_sem, hz, h0, h0n, hw8, xindex]) ?_
  refine hN2 _ _ _ ?_
  refine xc_two fun N4 hN4 => ?_
  refine xc_reg2 fun K hK => ?_
  simp only [rall, rsl, gres]
  (refine seqX_hide2 fun R hR => ?_; simp [go_sem, hz, h0, h0n, hw8, xindex]; refine hR _ _ _ ?_; clear hR R)
  rw [seqX_nil]
  refine hK _ _ _ ?_; clear hK K
  refine hN4 _ _ _ ?_
  refine xc_two fun N5 hN5 => ?_
  refine xc_two fun N6 hN6 => ?_
  refine xc_reg2 fun K hK => ?_
  simp only [rall, rsl, gres]
  iterate 8 (refine seqX_hide2 fun R hR => ?_; simp [go_sem, hz, h0, h0n, hw8, xindex]; refine hR _ _ _ ?_; clear hR R)
  rw [seqX_nil]
  refine hK _ _ _ ?_; clear hK K
  refine hN6 _ _ _ ?_
  refine xc_iffalse (by simp [go_sem, hz, h0, h0n, hw8, xindex]) ?_
  refine hN5 _ _ _ ?_
  refine xc_two fun N7 hN7 => ?_
  refine xc_reg2 fun K hK => ?_
  simp only [rall, rsl, gres]
  iterate 2 (refine seqX_hide2 fun R hR => ?_; simp [go_sem, hz, h0, h0n, hw8, xindex]; refine hR _ _ _ ?_; clear hR R)
  rw [seqX_nil]
  refine hK _ _ _ ?_; clear hK K
  refine hN7 _ _ _ ?_
  refine xc_two fun N8 hN8 => ?_
  refine xc_two fun N9 hN9 => ?_
  refine xc_reg2 fun K hK => ?_
  simp only [rall, rsl, gres]
  (refine seqX_hide2 fun R hR => ?_; simp [go_sem, hz, h0, h0n, hw8, xindex]; refine hR _ _ _ ?_; clear hR R)
  rw [seqX_nil]
  refine hK _ _ _ ?_; clear hK K
  refine hN9 _ _ _ ?_
  rw [xc_block]
  rw [xc_loop]
  refine vloopK (fun k' e ds A' => ∃ (i : Nat), k' = i ∧ ds = [] ∧ A' = ov A [] ∧ Priv A [] ∧ e 0 = .string ⟨#[114, 101, 100]⟩ ∧ e 3 = .int .i64 10 ∧ e 4 = .int .i64 0 ∧ e 5 = .bool false ∧ e 6 = .int .i64 0 ∧ (True)) _ ⟨0, rfl, rfl, rfl, hP, by simp [go_sem, hz, h0, h0n, hw8, xindex], by simp [go_sem, hz, h0, h0n, hw8, xindex], by simp [go_sem, hz, h0, h0n, hw8, xindex], by simp [go_sem, hz, h0, h0n, hw8, xindex], by simp [go_sem, hz, h0, h0n, hw8, xindex], trivial⟩ ?_
  clear hP
  rintro k' e ds A' ⟨i, rfl, rfl, hV, hP, g0, g3, g4, g5, g6, hi0⟩ J1 X1 hJ1 hX1
  refine xc_sound _ ?_
  replace hV := Eq.symm hV; subst hV; replace hP : Priv A (addrs []) := hP
  refine xc_two fun N10 hN10 => ?_
  refine xc_two fun N11 hN11 => ?_
  refine xc_reg2 fun K hK => ?_
  simp only [rall, rsl, gres]
  iterate 4 (refine seqX_hide2 fun R hR => ?_; simp [go_sem, hz, h0, h0n, hw8, xindex, g0, g3, g4, g5, g6]; refine hR _ _ _ ?_; clear hR R)
  rw [seqX_nil]
  refine hK _ _ _ ?_; clear hK K
  refine hN11 _ _ _ ?_
  refine xc_iftrue (by simp [go_sem, hz, h0, h0n, hw8, xindex, g0, g3, g4, g5, g6]) ?_
  refine hN10 _ _ _ ?_
  refine xc_two fun N12 hN12 => ?_
  rw [xc_block]
  refine xc_two fun N13 hN13 => ?_
  refine xc_reg2 fun K hK => ?_
  simp only [rall, rsl, gres]
  iterate 4 (refine seqX_hide2 fun R hR => ?_; simp [go_sem, hz, h0, h0n, hw8, xindex, g0, g3, g4, g5, g6]; refine hR _ _ _ ?_; clear hR R)
  rw [seqX_nil]
  refine hK _ _ _ ?_; clear hK K
  refine hN13 _ _ _ ?_
  rw [xc_block]
  refine xc_two fun N14 hN14 => ?_
  refine xc_reg2 fun K hK => ?_
  simp only [rall, rsl, gres]
  iterate 3 (refine seqX_hide2 fun R hR => ?_; simp [go_sem, hz, h0, h0n, hw8, xindex, g0, g3, g4, g5, g6]; refine hR _ _ _ ?_; clear hR R)
  rw [seqX_nil]
  refine hK _ _ _ ?_; clear hK K
  refine hN14 _ _ _ ?_
  refine xc_iffalse (by simp [go_sem, hz, h0, h0n, hw8, xindex, g0, g3, g4, g5, g6]) ?_
  refine xc_two fun N15 hN15 => ?_
  refine xc_two fun N16 hN16 => ?_
  refine xc_reg2 fun K hK => ?_
  simp only [rall, rsl, gres]
  iterate 9 (refine seqX_hide2 fun R hR => ?_; simp [go_sem, hz, h0, h0n, hw8, xindex, g0, g3, g4, g5, g6]; refine hR _ _ _ ?_; clear hR R)
  refine seqX_hide2 fun R hR => ?_
  simp [go_sem, hz, h0, h0n, hw8, xindex, g0, g3, g4, g5, g6]
  refine hR _ _ _ ?_; clear hR R
  iterate 4 (refine seqX_hide2 fun R hR => ?_; simp [go_sem, hz, h0, h0n, hw8, xindex, g0, g3, g4, g5, g6]; refine hR _ _ _ ?_; clear hR R)
  rw [seqX_nil]
  refine hK _ _ _ ?_; clear hK K
  refine hN16 _ _ _ ?_
  refine xc_iffalse (by simp [go_sem, hz, h0, h0n, hw8, xindex, g0, g3, g4, g5, g6]) ?_
  refine xc_reg2 fun K hK => ?_
  simp only [rall, rsl, gres]
  iterate 13 (refine seqX_hide2 fun R hR => ?_; simp [go_sem, hz, h0, h0n, hw8, xindex, g0, g3, g4, g5, g6]; refine hR _ _ _ ?_; clear hR R)
  rw [seqX_nil]
  refine hK _ _ _ ?_; clear hK K
  refine hN15 _ _ _ ?_
  refine xc_iffalse (by simp [go_sem, hz, h0, h0n, hw8, xindex, g0, g3, g4, g5, g6]) ?_
  refine xc_two fun N17 hN17 => ?_
  refine xc_reg2 fun K hK => ?_
  simp only [rall, rsl, gres]
  iterate 11 (refine seqX_hide2 fun R hR => ?_; simp [go_sem, hz, h0, h0n, hw8, xindex, g0, g3, g4, g5, g6]; refine hR _ _ _ ?_; clear hR R)
  rw [seqX_nil]
  refine hK _ _ _ ?_; clear hK K
  refine hN17 _ _ _ ?_
  refine xc_iffalse (by simp [go_sem, hz, h0, h0n, hw8, xindex, g0, g3, g4, g5, g6]) ?_
  refine xc_two fun N18 hN18 => ?_
  refine xc_reg2 fun K hK => ?_
  simp only [rall, rsl, gres]
  iterate 12 (refine seqX_hide2 fun R hR => ?_; simp [go_sem, hz, h0, h0n, hw8, xindex, g0, g3, g4, g5, g6]; refine hR _ _ _ ?_; clear hR R)
  rw [seqX_nil]
  refine hK _ _ _ ?_; clear hK K
  refine hN18 _ _ _ ?_
  refine xc_iffalse (by simp [go_sem, hz, h0, h0n, hw8, xindex, g0, g3, g4, g5, g6]) ?_
  refine xc_two fun N19 hN19 => ?_
  refine xc_reg2 fun K hK => ?_
  simp only [rall, rsl, gres]
  (refine seqX_hide2 fun R hR => ?_; simp [go_sem, hz, h0, h0n, hw8, xindex, g0, g3, g4, g5, g6]; refine hR _ _ _ ?_; clear hR R)
  rw [seqX_nil]
  refine hK _ _ _ ?_; clear hK K
  refine hN19 _ _ _ ?_
  refine hX1 _ _ _ _ ?_
  simp [go_sem, hz, h0, h0n, hw8, xindex, g0, g3, g4, g5, g6]
  rfl
set_option maxRecDepth 20000 in
theorem nonStr119 (A : View) : VCalls Try.prog 119 #[.string ⟨#[114, 101, 100]⟩] A fun r A' => r = .bool false ∧ A' = A := by
  refine xcalls Try.func119 rfl (by simp [Try.ntmps119]) ?_
  simp only [Try.f119]
  have hP : Priv A (addrs []) := Priv.nil A
  show xc _ _ _ _ _ _ (ov A [])
  refine xc_two fun N1 hN1 => ?_
  refine xc_reg2 fun K hK => ?_
  simp only [rall, rsl, gres]
  (refine seqX_hide2 fun R hR => ?_; simp [go_sem]; refine hR _ _ _ ?_; clear hR R)
  rw [seqX_nil]
  refine hK _ _ _ ?_; clear hK K
  refine hN1 _ _ _ ?_
  refine xc_two fun N2 hN2 => ?_
  refine xc_two fun N3 hN3 => ?_
  refine xc_reg2 fun K hK => ?_
  simp only [rall, rsl, gres]
  iterate 2 (refine seqX_hide2 fun R hR => ?_; simp [go_sem]; refine hR _ _ _ ?_; clear hR R)
  rw [seqX_nil]
  refine hK _ _ _ ?_; clear hK K
  refine hN3 _ _ _ ?_
  refine xc_iffalse (by simp [go_sem]) ?_
  refine hN2 _ _ _ ?_
  refine xc_two fun N4 hN4 => ?_
  refine xc_two fun N5 hN5 => ?_
  refine xc_reg2 fun K hK => ?_
  simp only [rall, rsl, gres]
  (refine seqX_hide2 fun R hR => ?_; simp [go_sem]; refine hR _ _ _ ?_; clear hR R)
  refine seqX_hide2 fun R hR => ?_
  simp [go_sem]
  refine call_same hP (cont121 A ⟨#[114, 101, 100]⟩ (by decide) (by decide)) ?_
  rintro _ rfl
  refine hR _ _ _ ?_; clear hR R
  rw [seqX_nil]
  refine hK _ _ _ ?_; clear hK K
  refine hN5 _ _ _ ?_
  refine xc_iffalse (by simp [go_sem]) ?_
  refine hN4 _ _ _ ?_
  refine xc_two fun N6 hN6 => ?_
  refine xc_two fun N7 hN7 => ?_
  refine xc_reg2 fun K hK => ?_
  simp only [rall, rsl, gres]
  (refine seqX_hide2 fun R hR => ?_; simp [go_sem]; refine hR _ _ _ ?_; clear hR R)
  rw [seqX_nil]
  refine hK _ _ _ ?_; clear hK K
  refine hN7 _ _ _ ?_
  rw [xc_block]
  refine xc_two fun N8 hN8 => ?_
  refine xc_two fun N9 hN9 => ?_
  refine xc_reg2 fun K hK => ?_
  simp only [rall, rsl, gres]
  iterate 2 (refine seqX_hide2 fun R hR => ?_; simp [go_sem]; refine hR _ _ _ ?_; clear hR R)
  rw [seqX_nil]
  refine hK _ _ _ ?_; clear hK K
  refine hN9 _ _ _ ?_
  refine xc_iffalse (by simp [go_sem]) ?_
  refine xc_two fun N10 hN10 => ?_
  refine xc_reg2 fun K hK => ?_
  simp only [rall, rsl, gres]
  iterate 2 (refine seqX_hide2 fun R hR => ?_; simp [go_sem]; refine hR _ _ _ ?_; clear hR R)
  rw [seqX_nil]
  refine hK _ _ _ ?_; clear hK K
  refine hN10 _ _ _ ?_
  refine xc_iffalse (by simp [go_sem]) ?_
  refine xc_two fun N11 hN11 => ?_
  refine xc_reg2 fun K hK => ?_
  simp only [rall, rsl, gres]
  iterate 2 (refine seqX_hide2 fun R hR => ?_; simp [go_sem]; refine hR _ _ _ ?_; clear hR R)
  rw [seqX_nil]
  refine hK _ _ _ ?_; clear hK K
  refine hN11 _ _ _ ?_
  refine xc_iffalse (by simp [go_sem]) ?_
  refine xc_two fun N12 hN12 => ?_
  refine xc_reg2 fun K hK => ?_
  simp only [rall, rsl, gres]
  iterate 2 (refine seqX_hide2 fun R hR => ?_; simp [go_sem]; refine hR _ _ _ ?_; clear hR R)
  rw [seqX_nil]
  refine hK _ _ _ ?_; clear hK K
  refine hN12 _ _ _ ?_
  refine xc_iffalse (by simp [go_sem]) ?_
  refine xc_two fun N13 hN13 => ?_
  refine xc_reg2 fun K hK => ?_
  simp only [rall, rsl, gres]
  iterate 2 (refine seqX_hide2 fun R hR => ?_; simp [go_sem]; refine hR _ _ _ ?_; clear hR R)
  rw [seqX_nil]
  refine hK _ _ _ ?_; clear hK K
  refine hN13 _ _ _ ?_
  refine xc_iffalse (by simp [go_sem]) ?_
  refine xc_two fun N14 hN14 => ?_
  refine xc_reg2 fun K hK => ?_
  simp only [rall, rsl, gres]
  iterate 2 (refine seqX_hide2 fun R hR => ?_; simp [go_sem]; refine hR _ _ _ ?_; clear hR R)
  rw [seqX_nil]
  refine hK _ _ _ ?_; clear hK K
  refine hN14 _ _ _ ?_
  refine xc_iffalse (by simp [go_sem]) ?_
  refine xc_two fun N15 hN15 => ?_
  refine xc_reg2 fun K hK => ?_
  simp only [rall, rsl, gres]
  iterate 2 (refine seqX_hide2 fun R hR => ?_; simp [go_sem]; refine hR _ _ _ ?_; clear hR R)
  rw [seqX_nil]
  refine hK _ _ _ ?_; clear hK K
  refine hN15 _ _ _ ?_
  refine xc_iffalse (by simp [go_sem]) ?_
  refine xc_two fun N16 hN16 => ?_
  refine xc_reg2 fun K hK => ?_
  simp only [rall, rsl, gres]
  iterate 2 (refine seqX_hide2 fun R hR => ?_; simp [go_sem]; refine hR _ _ _ ?_; clear hR R)
  rw [seqX_nil]
  refine hK _ _ _ ?_; clear hK K
  refine hN16 _ _ _ ?_
  refine xc_iffalse (by simp [go_sem]) ?_
  refine xc_two fun N17 hN17 => ?_
  refine xc_reg2 fun K hK => ?_
  simp only [rall, rsl, gres]
  iterate 2 (refine seqX_hide2 fun R hR => ?_; simp [go_sem]; refine hR _ _ _ ?_; clear hR R)
  rw [seqX_nil]
  refine hK _ _ _ ?_; clear hK K
  refine hN17 _ _ _ ?_
  refine xc_iffalse (by simp [go_sem]) ?_
  refine xc_two fun N18 hN18 => ?_
  refine xc_reg2 fun K hK => ?_
  simp only [rall, rsl, gres]
  iterate 2 (refine seqX_hide2 fun R hR => ?_; simp [go_sem]; refine hR _ _ _ ?_; clear hR R)
  rw [seqX_nil]
  refine hK _ _ _ ?_; clear hK K
  refine hN18 _ _ _ ?_
  refine xc_iffalse (by simp [go_sem]) ?_
  refine xc_two fun N19 hN19 => ?_
  refine xc_reg2 fun K hK => ?_
  simp only [rall, rsl, gres]
  iterate 2 (refine seqX_hide2 fun R hR => ?_; simp [go_sem]; refine hR _ _ _ ?_; clear hR R)
  rw [seqX_nil]
  refine hK _ _ _ ?_; clear hK K
  refine hN19 _ _ _ ?_
  refine xc_iffalse (by simp [go_sem]) ?_
  refine xc_two fun N20 hN20 => ?_
  refine xc_reg2 fun K hK => ?_
  simp only [rall, rsl, gres]
  iterate 2 (refine seqX_hide2 fun R hR => ?_; simp [go_sem]; refine hR _ _ _ ?_; clear hR R)
  rw [seqX_nil]
  refine hK _ _ _ ?_; clear hK K
  refine hN20 _ _ _ ?_
  refine xc_iffalse (by simp [go_sem]) ?_
  refine xc_two fun N21 hN21 => ?_
  refine xc_reg2 fun K hK => ?_
  simp only [rall, rsl, gres]
  iterate 2 (refine seqX_hide2 fun R hR => ?_; simp [go_sem]; refine hR _ _ _ ?_; clear hR R)
  rw [seqX_nil]
  refine hK _ _ _ ?_; clear hK K
  refine hN21 _ _ _ ?_
  refine xc_iffalse (by simp [go_sem]) ?_
  refine xc_two fun N22 hN22 => ?_
  refine xc_reg2 fun K hK => ?_
  simp only [rall, rsl, gres]
  iterate 2 (refine seqX_hide2 fun R hR => ?_; simp [go_sem]; refine hR _ _ _ ?_; clear hR R)
  rw [seqX_nil]
  refine hK _ _ _ ?_; clear hK K
  refine hN22 _ _ _ ?_
  refine xc_iffalse (by simp [go_sem]) ?_
  refine xc_two fun N23 hN23 => ?_
  refine xc_reg2 fun K hK => ?_
  simp only [rall, rsl, gres]
  iterate 2 (refine seqX_hide2 fun R hR => ?_; simp [go_sem]; refine hR _ _ _ ?_; clear hR R)
  rw [seqX_nil]
  refine hK _ _ _ ?_; clear hK K
  refine hN23 _ _ _ ?_
  refine xc_iffalse (by simp [go_sem]) ?_
  refine xc_two fun N24 hN24 => ?_
  refine xc_reg2 fun K hK => ?_
  simp only [rall, rsl, gres]
  iterate 2 (refine seqX_hide2 fun R hR => ?_; simp [go_sem]; refine hR _ _ _ ?_; clear hR R)
  rw [seqX_nil]
  refine hK _ _ _ ?_; clear hK K
  refine hN24 _ _ _ ?_
  refine xc_iffalse (by simp [go_sem]) ?_
  refine xc_two fun N25 hN25 => ?_
  refine xc_reg2 fun K hK => ?_
  simp only [rall, rsl, gres]
  iterate 2 (refine seqX_hide2 fun R hR => ?_; simp [go_sem]; refine hR _ _ _ ?_; clear hR R)
  rw [seqX_nil]
  refine hK _ _ _ ?_; clear hK K
  refine hN25 _ _ _ ?_
  refine xc_iffalse (by simp [go_sem]) ?_
  refine xc_two fun N26 hN26 => ?_
  refine xc_reg2 fun K hK => ?_
  simp only [rall, rsl, gres]
  iterate 2 (refine seqX_hide2 fun R hR => ?_; simp [go_sem]; refine hR _ _ _ ?_; clear hR R)
  rw [seqX_nil]
  refine hK _ _ _ ?_; clear hK K
  refine hN26 _ _ _ ?_
  refine xc_iffalse (by simp [go_sem]) ?_
  refine xc_two fun N27 hN27 => ?_
  refine xc_reg2 fun K hK => ?_
  simp only [rall, rsl, gres]
  iterate 2 (refine seqX_hide2 fun R hR => ?_; simp [go_sem]; refine hR _ _ _ ?_; clear hR R)
  rw [seqX_nil]
  refine hK _ _ _ ?_; clear hK K
  refine hN27 _ _ _ ?_
  refine xc_iffalse (by simp [go_sem]) ?_
  refine xc_two fun N28 hN28 => ?_
  refine xc_reg2 fun K hK => ?_
  simp only [rall, rsl, gres]
  iterate 2 (refine seqX_hide2 fun R hR => ?_; simp [go_sem]; refine hR _ _ _ ?_; clear hR R)
  rw [seqX_nil]
  refine hK _ _ _ ?_; clear hK K
  refine hN28 _ _ _ ?_
  refine xc_iffalse (by simp [go_sem]) ?_
  refine xc_two fun N29 hN29 => ?_
  refine xc_reg2 fun K hK => ?_
  simp only [rall, rsl, gres]
  iterate 2 (refine seqX_hide2 fun R hR => ?_; simp [go_sem]; refine hR _ _ _ ?_; clear hR R)
  rw [seqX_nil]
  refine hK _ _ _ ?_; clear hK K
  refine hN29 _ _ _ ?_
  refine xc_iffalse (by simp [go_sem]) ?_
  refine xc_two fun N30 hN30 => ?_
  refine xc_reg2 fun K hK => ?_
  simp only [rall, rsl, gres]
  iterate 2 (refine seqX_hide2 fun R hR => ?_; simp [go_sem]; refine hR _ _ _ ?_; clear hR R)
  rw [seqX_nil]
  refine hK _ _ _ ?_; clear hK K
  refine hN30 _ _ _ ?_
  refine xc_iffalse (by simp [go_sem]) ?_
  refine xc_two fun N31 hN31 => ?_
  refine xc_reg2 fun K hK => ?_
  simp only [rall, rsl, gres]
  iterate 2 (refine seqX_hide2 fun R hR => ?_; simp [go_sem]; refine hR _ _ _ ?_; clear hR R)
  rw [seqX_nil]
  refine hK _ _ _ ?_; clear hK K
  refine hN31 _ _ _ ?_
  refine xc_iffalse (by simp [go_sem]) ?_
  refine xc_two fun N32 hN32 => ?_
  refine xc_reg2 fun K hK => ?_
  simp only [rall, rsl, gres]
  iterate 2 (refine seqX_hide2 fun R hR => ?_; simp [go_sem]; refine hR _ _ _ ?_; clear hR R)
  rw [seqX_nil]
  refine hK _ _ _ ?_; clear hK K
  refine hN32 _ _ _ ?_
  refine xc_iffalse (by simp [go_sem]) ?_
  refine xc_two fun N33 hN33 => ?_
  refine xc_reg2 fun K hK => ?_
  simp only [rall, rsl, gres]
  iterate 2 (refine seqX_hide2 fun R hR => ?_; simp [go_sem]; refine hR _ _ _ ?_; clear hR R)
  rw [seqX_nil]
  refine hK _ _ _ ?_; clear hK K
  refine hN33 _ _ _ ?_
  refine xc_iffalse (by simp [go_sem]) ?_
  refine xc_two fun N34 hN34 => ?_
  refine xc_reg2 fun K hK => ?_
  simp only [rall, rsl, gres]
  iterate 2 (refine seqX_hide2 fun R hR => ?_; simp [go_sem]; refine hR _ _ _ ?_; clear hR R)
  rw [seqX_nil]
  refine hK _ _ _ ?_; clear hK K
  refine hN34 _ _ _ ?_
  refine xc_iffalse (by simp [go_sem]) ?_
  refine xc_two fun N35 hN35 => ?_
  refine xc_reg2 fun K hK => ?_
  simp only [rall, rsl, gres]
  iterate 2 (refine seqX_hide2 fun R hR => ?_; simp [go_sem]; refine hR _ _ _ ?_; clear hR R)
  rw [seqX_nil]
  refine hK _ _ _ ?_; clear hK K
  refine hN35 _ _ _ ?_
  refine xc_iffalse (by simp [go_sem]) ?_
  refine xc_two fun N36 hN36 => ?_
  refine xc_reg2 fun K hK => ?_
  simp only [rall, rsl, gres]
  iterate 2 (refine seqX_hide2 fun R hR => ?_; simp [go_sem]; refine hR _ _ _ ?_; clear hR R)
  rw [seqX_nil]
  refine hK _ _ _ ?_; clear hK K
  refine hN36 _ _ _ ?_
  refine xc_iffalse (by simp [go_sem]) ?_
  refine xc_two fun N37 hN37 => ?_
  refine xc_reg2 fun K hK => ?_
  simp only [rall, rsl, gres]
  iterate 2 (refine seqX_hide2 fun R hR => ?_; simp [go_sem]; refine hR _ _ _ ?_; clear hR R)
  rw [seqX_nil]
  refine hK _ _ _ ?_; clear hK K
  refine hN37 _ _ _ ?_
  refine xc_iffalse (by simp [go_sem]) ?_
  refine xc_two fun N38 hN38 => ?_
  refine xc_reg2 fun K hK => ?_
  simp only [rall, rsl, gres]
  iterate 2 (refine seqX_hide2 fun R hR => ?_; simp [go_sem]; refine hR _ _ _ ?_; clear hR R)
  rw [seqX_nil]
  refine hK _ _ _ ?_; clear hK K
  refine hN38 _ _ _ ?_
  refine xc_iffalse (by simp [go_sem]) ?_
  refine xc_two fun N39 hN39 => ?_
  refine xc_reg2 fun K hK => ?_
  simp only [rall, rsl, gres]
  iterate 2 (refine seqX_hide2 fun R hR => ?_; simp [go_sem]; refine hR _ _ _ ?_; clear hR R)
  rw [seqX_nil]
  refine hK _ _ _ ?_; clear hK K
  refine hN39 _ _ _ ?_
  refine xc_iffalse (by simp [go_sem]) ?_
  refine xc_two fun N40 hN40 => ?_
  refine xc_reg2 fun K hK => ?_
  simp only [rall, rsl, gres]
  iterate 2 (refine seqX_hide2 fun R hR => ?_; simp [go_sem]; refine hR _ _ _ ?_; clear hR R)
  rw [seqX_nil]
  refine hK _ _ _ ?_; clear hK K
  refine hN40 _ _ _ ?_
  refine xc_iffalse (by simp [go_sem]) ?_
  refine xc_two fun N41 hN41 => ?_
  refine xc_reg2 fun K hK => ?_
  simp only [rall, rsl, gres]
  iterate 2 (refine seqX_hide2 fun R hR => ?_; simp [go_sem]; refine hR _ _ _ ?_; clear hR R)
  rw [seqX_nil]
  refine hK _ _ _ ?_; clear hK K
  refine hN41 _ _ _ ?_
  refine xc_iffalse (by simp [go_sem]) ?_
  refine xc_two fun N42 hN42 => ?_
  refine xc_reg2 fun K hK => ?_
  simp only [rall, rsl, gres]
  iterate 2 (refine seqX_hide2 fun R hR => ?_; simp [go_sem]; refine hR _ _ _ ?_; clear hR R)
  rw [seqX_nil]
  refine hK _ _ _ ?_; clear hK K
  refine hN42 _ _ _ ?_
  refine xc_iffalse (by simp [go_sem]) ?_
  refine xc_two fun N43 hN43 => ?_
  refine xc_reg2 fun K hK => ?_
  simp only [rall, rsl, gres]
  iterate 2 (refine seqX_hide2 fun R hR => ?_; simp [go_sem]; refine hR _ _ _ ?_; clear hR R)
  rw [seqX_nil]
  refine hK _ _ _ ?_; clear hK K
  refine hN43 _ _ _ ?_
  refine xc_iffalse (by simp [go_sem]) ?_
  refine xc_two fun N44 hN44 => ?_
  refine xc_reg2 fun K hK => ?_
  simp only [rall, rsl, gres]
  iterate 2 (refine seqX_hide2 fun R hR => ?_; simp [go_sem]; refine hR _ _ _ ?_; clear hR R)
  rw [seqX_nil]
  refine hK _ _ _ ?_; clear hK K
  refine hN44 _ _ _ ?_
  refine xc_iffalse (by simp [go_sem]) ?_
  refine xc_two fun N45 hN45 => ?_
  refine xc_reg2 fun K hK => ?_
  simp only [rall, rsl, gres]
  iterate 2 (refine seqX_hide2 fun R hR => ?_; simp [go_sem]; refine hR _ _ _ ?_; clear hR R)
  rw [seqX_nil]
  refine hK _ _ _ ?_; clear hK K
  refine hN45 _ _ _ ?_
  refine xc_iffalse (by simp [go_sem]) ?_
  refine xc_reg2 fun K hK => ?_
  simp only [rall, rsl, gres]
  iterate 2 (refine seqX_hide2 fun R hR => ?_; simp [go_sem]; refine hR _ _ _ ?_; clear hR R)
  rw [seqX_nil]
  refine hK _ _ _ ?_; clear hK K
  refine hN8 _ _ _ ?_
  refine xc_iffalse (by simp [go_sem]) ?_
  refine hN6 _ _ _ ?_
  refine xc_two fun N46 hN46 => ?_
  refine xc_reg2 fun K hK => ?_
  simp only [rall, rsl, gres]
  (refine seqX_hide2 fun R hR => ?_; simp [go_sem]; refine hR _ _ _ ?_; clear hR R)
  refine seqX_hide2 fun R hR => ?_
  simp [go_sem]
  refine call_same hP (number122 A) ?_
  rintro _ rfl
  refine hR _ _ _ ?_; clear hR R
  (refine seqX_hide2 fun R hR => ?_; simp [go_sem]; refine hR _ _ _ ?_; clear hR R)
  rw [seqX_nil]
  refine hK _ _ _ ?_; clear hK K
  refine hN46 _ _ _ ?_
  simp [go_sem]
  rfl
set_option maxRecDepth 20000 in
theorem yaml114 (A : View) (p : Nat) (hy : IsYn A (tn vRed) p) : VCalls Try.prog 114 #[ptr0 p] A fun r A' => r = .bool false ∧ A' = A := by
  obtain ⟨cv, ps, hp, -, -, -⟩ := IsYn.open hy
  have c0 := cell_of (i := 0) hp rfl
  have c3 := cell_of (i := 3) hp rfl
  refine xcalls Try.func114 rfl (by simp [Try.ntmps114]) ?_
  simp only [Try.f114]
  have hP : Priv A (addrs []) := Priv.nil A
  show xc _ _ _ _ _ _ (ov A [])
  refine xc_two fun N1 hN1 => ?_
  refine xc_reg2 fun K hK => ?_
  simp only [rall, rsl, gres]
  (refine seqX_hide2 fun R hR => ?_; simp [go_sem, bc hP c0, bc hP c3]; refine hR _ _ _ ?_; clear hR R)
  rw [seqX_nil]
  refine hK _ _ _ ?_; clear hK K
  refine hN1 _ _ _ ?_
  refine xc_two fun N2 hN2 => ?_
  refine xc_two fun N3 hN3 => ?_
  refine xc_reg2 fun K hK => ?_
  simp only [rall, rsl, gres]
  iterate 5 (refine seqX_hide2 fun R hR => ?_; simp [go_sem, bc hP c0, bc hP c3]; refine hR _ _ _ ?_; clear hR R)
  rw [seqX_nil]
  refine hK _ _ _ ?_; clear hK K
  refine hN3 _ _ _ ?_
  refine xc_iffalse (by simp [go_sem, bc hP c0, bc hP c3]) ?_
  refine hN2 _ _ _ ?_
  refine xc_two fun N4 hN4 => ?_
  refine xc_reg2 fun K hK => ?_
  simp only [rall, rsl, gres]
  iterate 4 (refine seqX_hide2 fun R hR => ?_; simp [go_sem, bc hP c0, bc hP c3]; refine hR _ _ _ ?_; clear hR R)
  refine seqX_hide2 fun R hR => ?_
  simp [go_sem, bc hP c0, bc hP c3]
  refine call_same hP (nonStr119 A) ?_
  rintro _ rfl
  refine hR _ _ _ ?_; clear hR R
  (refine seqX_hide2 fun R hR => ?_; simp [go_sem, bc hP c0, bc hP c3]; refine hR _ _ _ ?_; clear hR R)
  rw [seqX_nil]
  refine hK _ _ _ ?_; clear hK K
  refine hN4 _ _ _ ?_
  simp [go_sem, bc hP c0, bc hP c3]
  rfl
set_option maxRecDepth 20000 in
theorem isStr118 (A : View) (s : ByteArray) (p : Nat) (hy : IsYn A (tn s) p) : VCalls Try.prog 118 #[ptr0 p] A fun r A' => r = .bool true ∧ A' = A := by
  obtain ⟨cv, ps, hp, -, -, -⟩ := IsYn.open hy
  have c0 := cell_of (i := 0) hp rfl
  have c2 := cell_of (i := 2) hp rfl
  have ht : tStr.toList = [33, 33, 115, 116, 114] := by kernel_rfl
  refine xcalls Try.func118 rfl (by simp [Try.ntmps118]) ?_
  simp only [Try.f118]
  have hP : Priv A (addrs []) := Priv.nil A
  show xc _ _ _ _ _ _ (ov A [])
  refine xc_two fun N1 hN1 => ?_
  refine xc_reg2 fun K hK => ?_
  simp only [rall, rsl, gres]
  (refine seqX_hide2 fun R hR => ?_; simp [go_sem, bc hP c0, bc hP c2, ht]; refine hR _ _ _ ?_; clear hR R)
  rw [seqX_nil]
  refine hK _ _ _ ?_; clear hK K
  refine hN1 _ _ _ ?_
  refine xc_two fun N2 hN2 => ?_
  refine xc_reg2 fun K hK => ?_
  simp only [rall, rsl, gres]
  iterate 20 (refine seqX_hide2 fun R hR => ?_; simp [go_sem, bc hP c0, bc hP c2, ht]; refine hR _ _ _ ?_; clear hR R)
  rw [seqX_nil]
  refine hK _ _ _ ?_; clear hK K
  refine hN2 _ _ _ ?_
  simp [go_sem, bc hP c0, bc hP c2, ht]
  rfl
theorem yn_tn {A : View} {s : ByteArray} {p : Nat} (hy : IsYn A (tn s) p) : ∃ cv, A p = some (.cells (ync 8 0 tStr s e0 cv e0 e0 e0 0 0) 114 (0, 0)) := by
  obtain ⟨cv, ps, hp, -, -, -⟩ := IsYn.open hy
  exact ⟨cv, hp⟩
set_option maxRecDepth 20000 in
theorem strVal113 (A : View) (s : ByteArray) (q : Nat) (hq : IsRn A (tn s) q) : VCalls Try.prog 113 #[ptr0 q] A fun r A' => r = .bool true ∧ A' = A := by
  obtain ⟨p, h1, hy⟩ := hq
  obtain ⟨cv, hp⟩ := yn_tn hy
  refine xcalls Try.func113 rfl (by simp [Try.ntmps113]) ?_
  simp only [Try.f113]
  have hP : Priv A (addrs []) := Priv.nil A
  show xc _ _ _ _ _ _ (ov A [])
  refine xc_two fun N1 hN1 => ?_
  refine xc_reg2 fun K hK => ?_
  simp only [rall, rsl, gres]
  (refine seqX_hide2 fun R hR => ?_; simp [go_sem]; refine hR _ _ _ ?_; clear hR R)
  rw [seqX_nil]
  refine hK _ _ _ ?_; clear hK K
  refine hN1 _ _ _ ?_
  refine xc_two fun N2 hN2 => ?_
  refine xc_reg2 fun K hK => ?_
  simp only [rall, rsl, gres]
  (refine seqX_hide2 fun R hR => ?_; simp [go_sem]; refine hR _ _ _ ?_; clear hR R)
  refine seqX_hide2 fun R hR => ?_
  simp [go_sem]
  refine call_same hP (isNil52 A (tn s) q ⟨p, h1, hy⟩ (by show (8 : Int) ≠ 1; decide)) ?_
  rintro _ rfl
  refine hR _ _ _ ?_; clear hR R
  iterate 3 (refine seqX_hide2 fun R hR => ?_; simp [go_sem]; refine hR _ _ _ ?_; clear hR R)
  refine seqX_hide2 fun R hR => ?_
  simp [go_sem]
  refine call_same hP (ynode48 A q p 8 0 tStr s e0 cv e0 e0 e0 0 0 h1 hp (by decide)) ?_
  rintro _ rfl
  refine hR _ _ _ ?_; clear hR R
  refine seqX_hide2 fun R hR => ?_
  simp [go_sem]
  refine call_same hP (isStr118 A s p hy) ?_
  rintro _ rfl
  refine hR _ _ _ ?_; clear hR R
  iterate 2 (refine seqX_hide2 fun R hR => ?_; simp [go_sem]; refine hR _ _ _ ?_; clear hR R)
  rw [seqX_nil]
  refine hK _ _ _ ?_; clear hK K
  refine hN2 _ _ _ ?_
  simp [go_sem]
  rfl
set_option maxRecDepth 20000 in
theorem tagNull120 (A : View) (t : Tr) (p : Nat) (hy : IsYn A t p) (ht : t.tag ≠ tNull) : VCalls Try.prog 120 #[ptr0 p] A fun r A' => r = .bool false ∧ A' = A := by
  obtain ⟨k, st, tag, val, an, h, l, f, row, col, al, kids, rfl⟩ := t.ex
  obtain ⟨cv, ps, hp, hrow, hpl, hyk⟩ := hy.open
  have c2 := cell_of (i := 2) hp rfl
  have ht : ¬ tag.toList = [33, 33, 110, 117, 108, 108] := fun e => bytes_ne (show tag ≠ tNull from ht) (e.trans (by kernel_rfl))
  refine xcalls Try.func120 rfl (by simp [Try.ntmps120]) ?_
  simp only [Try.f120]
  have hP : Priv A (addrs []) := Priv.nil A
  show xc _ _ _ _ _ _ (ov A [])
  refine xc_two fun N1 hN1 => ?_
  refine xc_reg2 fun K hK => ?_
  simp only [rall, rsl, gres]
  (refine seqX_hide2 fun R hR => ?_; simp [go_sem, bc hP c2, ht]; refine hR _ _ _ ?_; clear hR R)
  rw [seqX_nil]
  refine hK _ _ _ ?_; clear hK K
  refine hN1 _ _ _ ?_
  refine xc_two fun N2 hN2 => ?_
  refine xc_reg2 fun K hK => ?_
  simp only [rall, rsl, gres]
  iterate 10 (refine seqX_hide2 fun R hR => ?_; simp [go_sem, bc hP c2, ht]; refine hR _ _ _ ?_; clear hR R)
  rw [seqX_nil]
  refine hK _ _ _ ?_; clear hK K
  refine hN2 _ _ _ ?_
  simp [go_sem, bc hP c2, ht]
  rfl
set_option maxRecDepth 20000 in
theorem tagNull116 (A : View) (s : ByteArray) (q : Nat) (hq : IsRn A (tn s) q) : VCalls Try.prog 116 #[ptr0 q] A fun r A' => r = .bool false ∧ A' = A := by
  obtain ⟨p, h1, hy⟩ := hq
  obtain ⟨cv, hp⟩ := yn_tn hy
  refine xcalls Try.func116 rfl (by simp [Try.ntmps116]) ?_
  simp only [Try.f116]
  have hP : Priv A (addrs []) := Priv.nil A
  show xc _ _ _ _ _ _ (ov A [])
  refine xc_two fun N1 hN1 => ?_
  refine xc_reg2 fun K hK => ?_
  simp only [rall, rsl, gres]
  (refine seqX_hide2 fun R hR => ?_; simp [go_sem]; refine hR _ _ _ ?_; clear hR R)
  rw [seqX_nil]
  refine hK _ _ _ ?_; clear hK K
  refine hN1 _ _ _ ?_
  refine xc_two fun N2 hN2 => ?_
  refine xc_reg2 fun K hK => ?_
  simp only [rall, rsl, gres]
  (refine seqX_hide2 fun R hR => ?_; simp [go_sem]; refine hR _ _ _ ?_; clear hR R)
  refine seqX_hide2 fun R hR => ?_
  simp [go_sem]
  refine call_same hP (isNil52 A (tn s) q ⟨p, h1, hy⟩ (by show (8 : Int) ≠ 1; decide)) ?_
  rintro _ rfl
  refine hR _ _ _ ?_; clear hR R
  iterate 3 (refine seqX_hide2 fun R hR => ?_; simp [go_sem]; refine hR _ _ _ ?_; clear hR R)
  refine seqX_hide2 fun R hR => ?_
  simp [go_sem]
  refine call_same hP (ynode48 A q p 8 0 tStr s e0 cv e0 e0 e0 0 0 h1 hp (by decide)) ?_
  rintro _ rfl
  refine hR _ _ _ ?_; clear hR R
  refine seqX_hide2 fun R hR => ?_
  simp [go_sem]
  refine call_same hP (tagNull120 A (tn s) p hy (by show tStr ≠ tNull; decide)) ?_
  rintro _ rfl
  refine hR _ _ _ ?_; clear hR R
  iterate 2 (refine seqX_hide2 fun R hR => ?_; simp [go_sem]; refine hR _ _ _ ?_; clear hR R)
  rw [seqX_nil]
  refine hK _ _ _ ?_; clear hK K
  refine hN2 _ _ _ ?_
  simp [go_sem]
  rfl
set_option maxRecDepth 20000 in
theorem errIf79 (A : View) (t : Tr) (q : Nat) (n : Int) (hq : IsRn A t q) (hk : t.kind ≠ 1) (ht : t.tag ≠ tNull) (hkn : t.kind = n) (hev : n = 4 → t.kids.length % 2 = 0) (hkl : t.kids.length ≤ 1000000) : VCalls Try.prog 79 #[ptr0 q, .int .u32 n] A fun r A' => r = .nilIface ∧ A' = A := by
  have hq0 := hq
  have hmiss := missing39 A t q hq0 hk
  rw [decide_eq_false ht] at hmiss
  obtain ⟨p, hq, hy⟩ := hq
  obtain ⟨k, st, tag, val, an, h, l, f, row, col, al, kids, rfl⟩ := t.ex
  obtain ⟨cv, ps, hp, hrow, hpl, hyk⟩ := hy.open
  obtain ⟨cb, cc, rfl⟩ := hrow.form
  replace hk : k ≠ 1 := hk
  replace hkn : k = n := hkn
  replace hev : n = 4 → kids.length % 2 = 0 := hev
  replace hkl : kids.length ≤ 1000000 := hkl
  subst hkn
  have c0 := cell_of (i := 0) hp rfl
  have c6 := cell_of (i := 6) hp rfl
  refine xcalls Try.func79 rfl (by simp [Try.ntmps79]) ?_
  simp only [Try.f79]
  have hP : Priv A (addrs []) := Priv.nil A
  show xc _ _ _ _ _ _ (ov A [])
  refine xc_two fun N1 hN1 => ?_
  refine xc_reg2 fun K hK => ?_
  simp only [rall, rsl, gres]
  (refine seqX_hide2 fun R hR => ?_; simp [go_sem]; refine hR _ _ _ ?_; clear hR R)
  rw [seqX_nil]
  refine hK _ _ _ ?_; clear hK K
  refine hN1 _ _ _ ?_
  refine xc_two fun N2 hN2 => ?_
  refine xc_two fun N3 hN3 => ?_
  refine xc_reg2 fun K hK => ?_
  simp only [rall, rsl, gres]
  (refine seqX_hide2 fun R hR => ?_; simp [go_sem]; refine hR _ _ _ ?_; clear hR R)
  refine seqX_hide2 fun R hR => ?_
  simp [go_sem]
  refine call_same hP hmiss ?_
  rintro _ rfl
  refine hR _ _ _ ?_; clear hR R
  rw [seqX_nil]
  refine hK _ _ _ ?_; clear hK K
  refine hN3 _ _ _ ?_
  refine xc_iffalse (by simp [go_sem]) ?_
  refine hN2 _ _ _ ?_
  refine xc_two fun N4 hN4 => ?_
  refine xc_two fun N5 hN5 => ?_
  refine xc_reg2 fun K hK => ?_
  simp only [rall, rsl, gres]
  (refine seqX_hide2 fun R hR => ?_; simp [go_sem]; refine hR _ _ _ ?_; clear hR R)
  refine seqX_hide2 fun R hR => ?_
  simp [go_sem]
  refine call_same hP (ynode48 A q p k st tag val an (.slice cb kids.length cc) h l f row col hq hp hk) ?_
  rintro _ rfl
  refine hR _ _ _ ?_; clear hR R
  iterate 5 (refine seqX_hide2 fun R hR => ?_; simp [go_sem, bc hP c0, bc hP c6]; refine hR _ _ _ ?_; clear hR R)
  rw [seqX_nil]
  refine hK _ _ _ ?_; clear hK K
  refine hN5 _ _ _ ?_
  refine xc_iffalse (by simp [go_sem, bc hP c0, bc hP c6]) ?_
  refine hN4 _ _ _ ?_
  refine xc_two fun N6 hN6 => ?_
  refine xc_two fun N7 hN7 => ?_
  refine xc_reg2 fun K hK => ?_
  simp only [rall, rsl, gres]
  iterate 2 (refine seqX_hide2 fun R hR => ?_; simp [go_sem, bc hP c0, bc hP c6]; refine hR _ _ _ ?_; clear hR R)
  rw [seqX_nil]
  refine hK _ _ _ ?_; clear hK K
  refine hN7 _ _ _ ?_
  by_cases hk4 : k = 4
  · have hev4 := hev hk4
    subst hk4
    have hmod : (kids.length : Int) % 2 = 0 := by omega
    have htm : ((kids.length : Int)).tmod 2 = 0 := by rw [Int.tmod_eq_emod_of_nonneg (by omega)]; omega
    refine xc_iftrue (by simp [go_sem, bc hP c0, bc hP c6]) ?_
    refine xc_two fun N8 hN8 => ?_
    refine xc_reg2 fun K hK => ?_
    simp only [rall, rsl, gres]
    (refine seqX_hide2 fun R hR => ?_; simp [go_sem, bc hP c0, bc hP c6]; refine hR _ _ _ ?_; clear hR R)
    refine seqX_hide2 fun R hR => ?_
    simp [go_sem, bc hP c0, bc hP c6]
    refine call_same hP (ynode48 A q p 4 st tag val an (.slice cb kids.length cc) h l f row col hq hp hk) ?_
    rintro _ rfl
    refine hR _ _ _ ?_; clear hR R
    iterate 6 (refine seqX_hide2 fun R hR => ?_; simp [go_sem, bc hP c0, bc hP c6, hev4, hmod, htm]; refine hR _ _ _ ?_; clear hR R)
    rw [seqX_nil]
    refine hK _ _ _ ?_; clear hK K
    refine hN8 _ _ _ ?_
    refine xc_iffalse (by simp [go_sem, bc hP c0, bc hP c6, hev4, hmod, htm]) ?_
    refine hN6 _ _ _ ?_
    refine xc_two fun N9 hN9 => ?_
    refine xc_reg2 fun K hK => ?_
    simp only [rall, rsl, gres]
    (refine seqX_hide2 fun R hR => ?_; simp [go_sem, bc hP c0, bc hP c6, hev4, hmod, htm]; refine hR _ _ _ ?_; clear hR R)
    rw [seqX_nil]
    refine hK _ _ _ ?_; clear hK K
    refine hN9 _ _ _ ?_
    simp [go_sem, bc hP c0, bc hP c6, hev4, hmod, htm]
    rfl
  have hkb4 : (k == 4) = false := beq_eq_false_iff_ne.2 hk4
  refine xc_iffalse (by simp [go_sem, bc hP c0, bc hP c6, hk4, hkb4]) ?_
  refine hN6 _ _ _ ?_
  refine xc_two fun N8 hN8 => ?_
  refine xc_reg2 fun K hK => ?_
  simp only [rall, rsl, gres]
  (refine seqX_hide2 fun R hR => ?_; simp [go_sem, bc hP c0, bc hP c6, hk4, hkb4]; refine hR _ _ _ ?_; clear hR R)
  rw [seqX_nil]
  refine hK _ _ _ ?_; clear hK K
  refine hN8 _ _ _ ?_
  simp [go_sem, bc hP c0, bc hP c6, hk4, hkb4]
  rfl
end Go.Proofs.YtpinamipjddobaaV

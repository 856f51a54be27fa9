/- Shell patterns: filepath.Match. -/
import Derived.Test.YthjbgpmcfcijgaaDoorPH
import Derived.Test.YthjbgpmcfcijgaaDoorV15
namespace Go.Proofs.YthjbgpmcfcijgaaDoorV
open Go.RowKit
open Pm (nb nb_len nb_get nb_drop nb_nil nb_cons nb_extract extract_size' pat out Pc GL mcI)
set_option linter.unusedSimpArgs false
set_option linter.unusedVariables false
theorem isEmpty_pos {s : ByteArray} (h0 : 0 < s.size) : s.toList.isEmpty = false := by
  cases he : s.toList.isEmpty with
  | false => rfl
  | true =>
    exfalso
    have h2 := (Lib.bytes_beq_iff s ⟨#[]⟩).1 (by rw [List.isEmpty_iff.1 he]; kernel_rfl)
    rw [h2] at h0
    exact absurd h0 (by decide)
theorem size_zero {s : ByteArray} (h : s.size = 0) : s = ⟨#[]⟩ := ByteArray.ext (Array.eq_empty_of_size_eq_zero (show s.data.size = 0 from h))
theorem isEmpty_zero {s : ByteArray} (h : s.size = 0) : s.toList.isEmpty = true := by
  rw [size_zero h]
  kernel_rfl
theorem extract_one {s : ByteArray} {i : Nat} (h : i < s.size) : s.extract i (i + 1) = ⟨#[s[i]]⟩ := by
  have h1 : i < s.data.toList.length := by rw [Array.length_toList]; exact h
  apply ByteArray.ext
  apply Array.toList_inj.1
  rw [Lib.extract_data s i (i + 1), Nat.add_sub_cancel_left, List.drop_eq_getElem_cons h1]
  rfl
set_option maxRecDepth 20000 in
theorem index42 (A : View) (s : ByteArray) (hs : s.size ≤ 1000000) : VCalls Tryd.prog 42 #[.string s, .string ⟨#[47]⟩] A fun r A' => (∃ k : Int, r = .int .i64 k ∧ (k < 0 ↔ 47 ∉ nb s)) ∧ A' = A := by
  refine xcalls Tryd.func42 rfl (by simp [Tryd.ntmps42]) ?_
  simp only [Tryd.f42]
  have hP : Priv A (addrs []) := Priv.nil A
  show xc _ _ _ _ _ _ (ov A [])
  refine xc_two fun N1 hN1 => ?_
  refine xc_reg1 1 rfl fun K hK => ?_
  simp only [show (List.range 1).map (·, true) = [(0, true)] from rfl, rslv_cons, rslv_nil, List.getElem?_toArray, List.getElem?_cons_zero, List.getElem?_cons_succ, gres]
  (refine seqX_hide2 fun R hR => ?_; simp [go_sem]; refine hR _ _ _ ?_; clear hR R)
  rw [seqX_nil]
  refine hK _ _ _ ?_; clear hK K
  refine hN1 _ _ _ ?_
  refine xc_two fun N2 hN2 => ?_
  refine xc_two fun N3 hN3 => ?_
  refine xc_reg1 1 rfl fun K hK => ?_
  simp only [show (List.range 1).map (·, true) = [(0, true)] from rfl, rslv_cons, rslv_nil, List.getElem?_toArray, List.getElem?_cons_zero, List.getElem?_cons_succ, gres]
  (refine seqX_hide2 fun R hR => ?_; simp [go_sem]; refine hR _ _ _ ?_; clear hR R)
  rw [seqX_nil]
  refine hK _ _ _ ?_; clear hK K
  refine hN3 _ _ _ ?_
  rw [xc_block]
  rw [xc_loop]
  refine vloopK (fun k' e ds A' => ∃ (i : Nat), k' = s.size - i ∧ ds = [] ∧ A' = ov A [] ∧ Priv A [] ∧ e 0 = .string s ∧ e 1 = .string ⟨#[47]⟩ ∧ e 5 = .int .i64 i ∧ (i ≤ s.size) ∧ (∀ j (h : j < s.size), j < i → s[j].toNat ≠ 47)) _ ⟨0, rfl, rfl, rfl, hP, by simp [go_sem], by simp [go_sem], by simp [go_sem], by omega, fun j h hj => by omega⟩ ?_
  clear hP
  rintro k' e ds A' ⟨i, rfl, rfl, hV, hP, g0, g1, g5, hil, hA⟩ J1 X1 hJ1 hX1
  refine xc_sound _ ?_
  replace hV := Eq.symm hV; subst hV; replace hP : Priv A (addrs []) := hP
  have hw1 := wrap_nat (i := i) (by omega)
  have hsz : (⟨#[47]⟩ : ByteArray).size = 1 := rfl
  by_cases hi : i < s.size
  · have hii : (i : Int) < s.size := by omega
    have hi1 : i + 1 ≤ s.size := by omega
    have hi1i : (i : Int) + 1 ≤ s.size := by omega
    have hil' : (i : Int) ≤ s.size := by omega
    have h0i : (0 : Int) ≤ (i : Int) + 1 := by omega
    have hiil : (i : Int) ≤ (i : Int) + 1 := by omega
    by_cases hd : s[i].toNat = 47
    · have hb : ((s.extract i (i + 1)).toList == [47]) = true := by
        have := (Lib.bytes_beq_iff (s.extract i (i + 1)) ⟨#[47]⟩).2 (by rw [extract_one hi, show s[i] = 47 from UInt8.toNat_inj.1 hd])
        rwa [show (⟨#[47]⟩ : ByteArray).toList = [47] by kernel_rfl] at this
      refine xc_two fun N4 hN4 => ?_
      refine xc_two fun N5 hN5 => ?_
      refine xc_reg1 7 rfl fun K hK => ?_
      simp only [show (List.range 7).map (·, true) = [(0, true), (1, true), (2, true), (3, true), (4, true), (5, true), (6, true)] from rfl, rslv_cons, rslv_nil, List.getElem?_toArray, List.getElem?_cons_zero, List.getElem?_cons_succ, gres]
      iterate 7 (refine seqX_hide2 fun R hR => ?_; simp [go_sem, g0, g1, g5, hi, hii, hw1, hsz, hi1, hi1i, xslice, hil, hil', hiil, h0i, hb]; refine hR _ _ _ ?_; clear hR R)
      rw [seqX_nil]
      refine hK _ _ _ ?_; clear hK K
      refine hN5 _ _ _ ?_
      refine xc_iftrue (by simp [go_sem, g0, g1, g5, hi, hii, hw1, hsz, hi1, hi1i, xslice, hil, hil', hiil, h0i, hb]) ?_
      refine hN4 _ _ _ ?_
      refine xc_two fun N6 hN6 => ?_
      rw [xc_block]
      refine xc_two fun N7 hN7 => ?_
      refine xc_reg1 9 rfl fun K hK => ?_
      simp only [show (List.range 9).map (·, true) = [(0, true), (1, true), (2, true), (3, true), (4, true), (5, true), (6, true), (7, true), (8, true)] from rfl, rslv_cons, rslv_nil, List.getElem?_toArray, List.getElem?_cons_zero, List.getElem?_cons_succ, gres]
      iterate 9 (refine seqX_hide2 fun R hR => ?_; simp [go_sem, g0, g1, g5, hi, hii, hw1, hsz, hi1, hi1i, xslice, hil, hil', hiil, h0i, hb]; refine hR _ _ _ ?_; clear hR R)
      rw [seqX_nil]
      refine hK _ _ _ ?_; clear hK K
      refine hN7 _ _ _ ?_
      refine xc_iftrue (by simp [go_sem, g0, g1, g5, hi, hii, hw1, hsz, hi1, hi1i, xslice, hil, hil', hiil, h0i, hb]) ?_
      refine xc_two fun N8 hN8 => ?_
      refine xc_reg1 2 rfl fun K hK => ?_
      simp only [show (List.range 2).map (·, true) = [(0, true), (1, true)] from rfl, rslv_cons, rslv_nil, List.getElem?_toArray, List.getElem?_cons_zero, List.getElem?_cons_succ, gres]
      iterate 2 (refine seqX_hide2 fun R hR => ?_; simp [go_sem, g0, g1, g5, hi, hii, hw1, hsz, hi1, hi1i, xslice, hil, hil', hiil, h0i, hb]; refine hR _ _ _ ?_; clear hR R)
      rw [seqX_nil]
      refine hK _ _ _ ?_; clear hK K
      refine hN8 _ _ _ ?_
      refine hX1 _ _ _ _ ?_
      simp [go_sem, g0, g1, g5, hi, hii, hw1, hsz, hi1, hi1i, xslice, hil, hil', hiil, h0i, hb]
      refine ⟨?_, rfl⟩
      constructor
      · intro h; omega
      · intro h; exact absurd (mem_nb.2 ⟨i, hi, hd⟩) h
    · have hb : ((s.extract i (i + 1)).toList == [47]) = false := by
        cases hx : ((s.extract i (i + 1)).toList == [47]) with
        | false => rfl
        | true =>
          exfalso
          have := (Lib.bytes_beq_iff (s.extract i (i + 1)) ⟨#[47]⟩).1 (by rw [show (⟨#[47]⟩ : ByteArray).toList = [47] by kernel_rfl]; exact hx)
          rw [extract_one hi] at this
          have h2 : s[i] = 47 := by
            have := congrArg (fun x : ByteArray => x.data.toList) this
            simpa using this
          exact hd (by rw [h2]; rfl)
      refine xc_two fun N4 hN4 => ?_
      refine xc_two fun N5 hN5 => ?_
      refine xc_reg1 7 rfl fun K hK => ?_
      simp only [show (List.range 7).map (·, true) = [(0, true), (1, true), (2, true), (3, true), (4, true), (5, true), (6, true)] from rfl, rslv_cons, rslv_nil, List.getElem?_toArray, List.getElem?_cons_zero, List.getElem?_cons_succ, gres]
      iterate 7 (refine seqX_hide2 fun R hR => ?_; simp [go_sem, g0, g1, g5, hi, hii, hw1, hsz, hi1, hi1i, xslice, hil, hil', hiil, h0i, hb]; refine hR _ _ _ ?_; clear hR R)
      rw [seqX_nil]
      refine hK _ _ _ ?_; clear hK K
      refine hN5 _ _ _ ?_
      refine xc_iftrue (by simp [go_sem, g0, g1, g5, hi, hii, hw1, hsz, hi1, hi1i, xslice, hil, hil', hiil, h0i, hb]) ?_
      refine hN4 _ _ _ ?_
      refine xc_two fun N6 hN6 => ?_
      rw [xc_block]
      refine xc_two fun N7 hN7 => ?_
      refine xc_reg1 9 rfl fun K hK => ?_
      simp only [show (List.range 9).map (·, true) = [(0, true), (1, true), (2, true), (3, true), (4, true), (5, true), (6, true), (7, true), (8, true)] from rfl, rslv_cons, rslv_nil, List.getElem?_toArray, List.getElem?_cons_zero, List.getElem?_cons_succ, gres]
      iterate 9 (refine seqX_hide2 fun R hR => ?_; simp [go_sem, g0, g1, g5, hi, hii, hw1, hsz, hi1, hi1i, xslice, hil, hil', hiil, h0i, hb]; refine hR _ _ _ ?_; clear hR R)
      rw [seqX_nil]
      refine hK _ _ _ ?_; clear hK K
      refine hN7 _ _ _ ?_
      refine xc_iffalse (by simp [go_sem, g0, g1, g5, hi, hii, hw1, hsz, hi1, hi1i, xslice, hil, hil', hiil, h0i, hb]) ?_
      refine hN6 _ _ _ ?_
      refine xc_reg1 3 rfl fun K hK => ?_
      simp only [show (List.range 3).map (·, true) = [(0, true), (1, true), (2, true)] from rfl, rslv_cons, rslv_nil, List.getElem?_toArray, List.getElem?_cons_zero, List.getElem?_cons_succ, gres]
      iterate 3 (refine seqX_hide2 fun R hR => ?_; simp [go_sem, g0, g1, g5, hi, hii, hw1, hsz, hi1, hi1i, xslice, hil, hil', hiil, h0i, hb]; refine hR _ _ _ ?_; clear hR R)
      rw [seqX_nil]
      refine hK _ _ _ ?_; clear hK K
      refine hJ1 (s.size - (i + 1)) _ _ _ (by omega) ⟨i + 1, rfl, rfl, rfl, hP, by simp [go_sem, g0, g1, g5, hi, hii, hw1, hsz, hi1, hi1i, xslice, hil, hil', hiil, h0i, hb], by simp [go_sem, g0, g1, g5, hi, hii, hw1, hsz, hi1, hi1i, xslice, hil, hil', hiil, h0i, hb], by simp [go_sem, g0, g1, g5, hi, hii, hw1, hsz, hi1, hi1i, xslice, hil, hil', hiil, h0i, hb], by omega, fun j h hj => by rcases Nat.lt_or_eq_of_le (Nat.le_of_lt_succ hj) with h2 | h2; exact hA j h h2; subst h2; exact hd⟩
  · skip
    have hii : ¬ (i : Int) < s.size := by omega
    have hi1 : ¬ i + 1 ≤ s.size := by omega
    have hi1i : ¬ (i : Int) + 1 ≤ s.size := by omega
    refine xc_two fun N4 hN4 => ?_
    refine xc_two fun N5 hN5 => ?_
    refine xc_reg1 7 rfl fun K hK => ?_
    simp only [show (List.range 7).map (·, true) = [(0, true), (1, true), (2, true), (3, true), (4, true), (5, true), (6, true)] from rfl, rslv_cons, rslv_nil, List.getElem?_toArray, List.getElem?_cons_zero, List.getElem?_cons_succ, gres]
    iterate 7 (refine seqX_hide2 fun R hR => ?_; simp [go_sem, g0, g1, g5, hi, hii, hw1, hsz, hi1, hi1i]; refine hR _ _ _ ?_; clear hR R)
    rw [seqX_nil]
    refine hK _ _ _ ?_; clear hK K
    refine hN5 _ _ _ ?_
    refine xc_iffalse (by simp [go_sem, g0, g1, g5, hi, hii, hw1, hsz, hi1, hi1i]) ?_
    refine hX1 _ _ _ _ ?_
    refine hN2 _ _ _ ?_
    refine xc_two fun N6 hN6 => ?_
    refine xc_reg1 1 rfl fun K hK => ?_
    simp only [show (List.range 1).map (·, true) = [(0, true)] from rfl, rslv_cons, rslv_nil, List.getElem?_toArray, List.getElem?_cons_zero, List.getElem?_cons_succ, gres]
    (refine seqX_hide2 fun R hR => ?_; simp [go_sem, g0, g1, g5, hi, hii, hw1, hsz, hi1, hi1i]; refine hR _ _ _ ?_; clear hR R)
    rw [seqX_nil]
    refine hK _ _ _ ?_; clear hK K
    refine hN6 _ _ _ ?_
    simp [go_sem, g0, g1, g5, hi, hii, hw1, hsz, hi1, hi1i]
    refine ⟨fun hm => ?_, rfl⟩
    obtain ⟨j, hj, e⟩ := mem_nb.1 hm
    exact hA j hj (by omega) e
end Go.Proofs.YthjbgpmcfcijgaaDoorV

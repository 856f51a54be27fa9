/- Shell patterns: the small functions. -/
import Derived.Test.YthjbgpmcfcijgaaDoorPD
import Derived.Test.YthjbgpmcfcijgaaDoorV14
import Derived.Test.YthjbgpmcfcijgaaDoorV13
import Derived.Test.YthjbgpmcfcijgaaDoorVT
namespace Go.Proofs.YthjbgpmcfcijgaaDoorV
open Go.RowKit
open Pm (nb nb_len nb_get nb_drop nb_nil nb_cons nb_extract extract_size')
set_option linter.unusedSimpArgs false
set_option linter.unusedVariables false
theorem mem_nb {c : Nat} {s : ByteArray} : c ∈ nb s ↔ ∃ j, ∃ h : j < s.size, s[j].toNat = c := by
  constructor
  · intro h
    obtain ⟨j, hj, e⟩ := List.getElem_of_mem h
    rw [nb_len] at hj
    refine ⟨j, hj, ?_⟩
    have := nb_get hj
    rw [List.getElem?_eq_getElem (by rw [nb_len]; exact hj), e] at this
    exact (Option.some.inj this).symm
  · rintro ⟨j, hj, rfl⟩
    exact List.mem_of_getElem? (nb_get hj)
def Asc (s : ByteArray) : Prop := ∀ c ∈ nb s, c < 128
theorem Asc.at' {s : ByteArray} (h : Asc s) {j : Nat} (hj : j < s.size) : s[j].toNat < 128 := h _ (mem_nb.2 ⟨j, hj, rfl⟩)
theorem Asc.drop {s : ByteArray} (h : Asc s) (i : Nat) : Asc (s.extract i s.size) := fun c hc => by
  rw [nb_drop] at hc
  exact h c (List.mem_of_mem_drop hc)
def BQ (Q : Bool → Prop) (r : Value) : Prop := ∃ b, r = .bool b ∧ Q b
set_option maxRecDepth 20000 in
theorem ascii5 (A : View) (s : ByteArray) (hs : s.size ≤ 2147483648) : VCalls Tryd.prog 5 #[.string s] A fun r A' => BQ (fun b => b = true → Asc s) r ∧ A' = A := by
  refine xcalls Tryd.func5 rfl (by simp [Tryd.ntmps5]) ?_
  simp only [Tryd.f5]
  have hP : Priv A (addrs []) := Priv.nil A
  show xc _ _ _ _ _ _ (ov A [])
  refine xc_two fun N1 hN1 => ?_
  refine xc_reg1 1 rfl fun K hK => ?_
  simp only [show (List.range 1).map (·, true) = [(0, true)] from rfl, rslv_cons, rslv_nil, List.getElem?_toArray, List.getElem?_cons_zero, List.getElem?_cons_succ, gres]
  (refine seqX_hide2 fun R hR => ?_; simp [go_sem]; refine hR _ _ _ ?_; clear hR R)
  rw [seqX_nil]
  refine hK _ _ _ ?_; clear hK K
  refine hN1 _ _ _ ?_
  refine xc_two fun N2 hN2 => ?_
  refine xc_two fun N3 hN3 => ?_
  refine xc_reg1 3 rfl fun K hK => ?_
  simp only [show (List.range 3).map (·, true) = [(0, true), (1, true), (2, true)] from rfl, rslv_cons, rslv_nil, List.getElem?_toArray, List.getElem?_cons_zero, List.getElem?_cons_succ, gres]
  iterate 3 (refine seqX_hide2 fun R hR => ?_; simp [go_sem]; refine hR _ _ _ ?_; clear hR R)
  rw [seqX_nil]
  refine hK _ _ _ ?_; clear hK K
  refine hN3 _ _ _ ?_
  rw [xc_block]
  rw [xc_loop]
  refine vloopK (fun k' e ds A' => ∃ (i : Nat), k' = s.size - i ∧ ds = [] ∧ A' = ov A [] ∧ Priv A [] ∧ e 0 = .string s ∧ e 5 = .int .i64 s.size ∧ e 6 = .int .i64 i ∧ (i ≤ s.size) ∧ (∀ j (h : j < s.size), j < i → s[j].toNat < 128)) _ ⟨0, rfl, rfl, rfl, hP, by simp [go_sem], by simp [go_sem], by simp [go_sem], by omega, fun j h hj => by omega⟩ ?_
  clear hP
  rintro k' e ds A' ⟨i, rfl, rfl, hV, hP, g0, g5, g6, hil, hA⟩ J1 X1 hJ1 hX1
  refine xc_sound _ ?_
  replace hV := Eq.symm hV; subst hV; replace hP : Priv A (addrs []) := hP
  have hw1 := wrap_nat (i := i) (by omega)
  by_cases hi : i < s.size
  · have hg : s[i]? = some s[i] := getElem?_pos s i hi
    by_cases hd : 127 < s[i].toNat
    · have h1 : (127 : Int) < s[i].toNat := by omega
      refine xc_two fun N4 hN4 => ?_
      refine xc_reg1 1 rfl fun K hK => ?_
      simp only [show (List.range 1).map (·, true) = [(0, true)] from rfl, rslv_cons, rslv_nil, List.getElem?_toArray, List.getElem?_cons_zero, List.getElem?_cons_succ, gres]
      (refine seqX_hide2 fun R hR => ?_; simp [go_sem, g0, g5, g6, hi, hg, hw1, xindex, hd, h1]; refine hR _ _ _ ?_; clear hR R)
      rw [seqX_nil]
      refine hK _ _ _ ?_; clear hK K
      refine hN4 _ _ _ ?_
      refine xc_two fun N5 hN5 => ?_
      refine xc_iftrue (by simp [go_sem, g0, g5, g6, hi, hg, hw1, xindex, hd, h1]) ?_
      refine hN5 _ _ _ ?_
      refine xc_two fun N6 hN6 => ?_
      rw [xc_block]
      refine xc_two fun N7 hN7 => ?_
      refine xc_reg1 2 rfl fun K hK => ?_
      simp only [show (List.range 2).map (·, true) = [(0, true), (1, true)] from rfl, rslv_cons, rslv_nil, List.getElem?_toArray, List.getElem?_cons_zero, List.getElem?_cons_succ, gres]
      iterate 2 (refine seqX_hide2 fun R hR => ?_; simp [go_sem, g0, g5, g6, hi, hg, hw1, xindex, hd, h1]; refine hR _ _ _ ?_; clear hR R)
      rw [seqX_nil]
      refine hK _ _ _ ?_; clear hK K
      refine hN7 _ _ _ ?_
      refine xc_two fun N8 hN8 => ?_
      refine xc_reg1 4 rfl fun K hK => ?_
      simp only [show (List.range 4).map (·, true) = [(0, true), (1, true), (2, true), (3, true)] from rfl, rslv_cons, rslv_nil, List.getElem?_toArray, List.getElem?_cons_zero, List.getElem?_cons_succ, gres]
      iterate 4 (refine seqX_hide2 fun R hR => ?_; simp [go_sem, g0, g5, g6, hi, hg, hw1, xindex, hd, h1]; refine hR _ _ _ ?_; clear hR R)
      rw [seqX_nil]
      refine hK _ _ _ ?_; clear hK K
      refine hN8 _ _ _ ?_
      refine xc_iftrue (by simp [go_sem, g0, g5, g6, hi, hg, hw1, xindex, hd, h1]) ?_
      refine xc_two fun N9 hN9 => ?_
      refine xc_reg1 1 rfl fun K hK => ?_
      simp only [show (List.range 1).map (·, true) = [(0, true)] from rfl, rslv_cons, rslv_nil, List.getElem?_toArray, List.getElem?_cons_zero, List.getElem?_cons_succ, gres]
      (refine seqX_hide2 fun R hR => ?_; simp [go_sem, g0, g5, g6, hi, hg, hw1, xindex, hd, h1]; refine hR _ _ _ ?_; clear hR R)
      rw [seqX_nil]
      refine hK _ _ _ ?_; clear hK K
      refine hN9 _ _ _ ?_
      refine hX1 _ _ _ _ ?_
      simp [go_sem, g0, g5, g6, hi, hg, hw1, xindex, hd, h1]
      exact ⟨⟨false, rfl, fun h => by cases h⟩, rfl⟩
    · have h1 : ¬ (127 : Int) < s[i].toNat := by omega
      refine xc_two fun N4 hN4 => ?_
      refine xc_reg1 1 rfl fun K hK => ?_
      simp only [show (List.range 1).map (·, true) = [(0, true)] from rfl, rslv_cons, rslv_nil, List.getElem?_toArray, List.getElem?_cons_zero, List.getElem?_cons_succ, gres]
      (refine seqX_hide2 fun R hR => ?_; simp [go_sem, g0, g5, g6, hi, hg, hw1, xindex, hd, h1]; refine hR _ _ _ ?_; clear hR R)
      rw [seqX_nil]
      refine hK _ _ _ ?_; clear hK K
      refine hN4 _ _ _ ?_
      refine xc_two fun N5 hN5 => ?_
      refine xc_iftrue (by simp [go_sem, g0, g5, g6, hi, hg, hw1, xindex, hd, h1]) ?_
      refine hN5 _ _ _ ?_
      refine xc_two fun N6 hN6 => ?_
      rw [xc_block]
      refine xc_two fun N7 hN7 => ?_
      refine xc_reg1 2 rfl fun K hK => ?_
      simp only [show (List.range 2).map (·, true) = [(0, true), (1, true)] from rfl, rslv_cons, rslv_nil, List.getElem?_toArray, List.getElem?_cons_zero, List.getElem?_cons_succ, gres]
      iterate 2 (refine seqX_hide2 fun R hR => ?_; simp [go_sem, g0, g5, g6, hi, hg, hw1, xindex, hd, h1]; refine hR _ _ _ ?_; clear hR R)
      rw [seqX_nil]
      refine hK _ _ _ ?_; clear hK K
      refine hN7 _ _ _ ?_
      refine xc_two fun N8 hN8 => ?_
      refine xc_reg1 4 rfl fun K hK => ?_
      simp only [show (List.range 4).map (·, true) = [(0, true), (1, true), (2, true), (3, true)] from rfl, rslv_cons, rslv_nil, List.getElem?_toArray, List.getElem?_cons_zero, List.getElem?_cons_succ, gres]
      iterate 4 (refine seqX_hide2 fun R hR => ?_; simp [go_sem, g0, g5, g6, hi, hg, hw1, xindex, hd, h1]; refine hR _ _ _ ?_; clear hR R)
      rw [seqX_nil]
      refine hK _ _ _ ?_; clear hK K
      refine hN8 _ _ _ ?_
      refine xc_iffalse (by simp [go_sem, g0, g5, g6, hi, hg, hw1, xindex, hd, h1]) ?_
      refine hN6 _ _ _ ?_
      refine xc_reg1 2 rfl fun K hK => ?_
      simp only [show (List.range 2).map (·, true) = [(0, true), (1, true)] from rfl, rslv_cons, rslv_nil, List.getElem?_toArray, List.getElem?_cons_zero, List.getElem?_cons_succ, gres]
      iterate 2 (refine seqX_hide2 fun R hR => ?_; simp [go_sem, g0, g5, g6, hi, hg, hw1, xindex, hd, h1]; refine hR _ _ _ ?_; clear hR R)
      rw [seqX_nil]
      refine hK _ _ _ ?_; clear hK K
      refine hJ1 (s.size - (i + 1)) _ _ _ (by omega) ⟨i + 1, rfl, rfl, rfl, hP, by simp [go_sem, g0, g5, g6, hi, hg, hw1, xindex, hd, h1], by simp [go_sem, g0, g5, g6, hi, hg, hw1, xindex, hd, h1], by simp [go_sem, g0, g5, g6, hi, hg, hw1, xindex, hd, h1], by omega, fun j h hj => by rcases Nat.lt_or_eq_of_le (Nat.le_of_lt_succ hj) with h2 | h2; exact hA j h h2; subst h2; omega⟩
  · skip
    refine xc_two fun N4 hN4 => ?_
    refine xc_reg1 1 rfl fun K hK => ?_
    simp only [show (List.range 1).map (·, true) = [(0, true)] from rfl, rslv_cons, rslv_nil, List.getElem?_toArray, List.getElem?_cons_zero, List.getElem?_cons_succ, gres]
    (refine seqX_hide2 fun R hR => ?_; simp [go_sem, g0, g5, g6, hi]; refine hR _ _ _ ?_; clear hR R)
    rw [seqX_nil]
    refine hK _ _ _ ?_; clear hK K
    refine hN4 _ _ _ ?_
    refine xc_two fun N5 hN5 => ?_
    refine xc_iffalse (by simp [go_sem, g0, g5, g6, hi]) ?_
    refine hX1 _ _ _ _ ?_
    refine hN2 _ _ _ ?_
    refine xc_two fun N6 hN6 => ?_
    refine xc_reg1 1 rfl fun K hK => ?_
    simp only [show (List.range 1).map (·, true) = [(0, true)] from rfl, rslv_cons, rslv_nil, List.getElem?_toArray, List.getElem?_cons_zero, List.getElem?_cons_succ, gres]
    (refine seqX_hide2 fun R hR => ?_; simp [go_sem, g0, g5, g6, hi]; refine hR _ _ _ ?_; clear hR R)
    rw [seqX_nil]
    refine hK _ _ _ ?_; clear hK K
    refine hN6 _ _ _ ?_
    simp [go_sem, g0, g5, g6, hi]
    exact ⟨⟨true, rfl, fun _ c hc => by obtain ⟨j, hj, rfl⟩ := mem_nb.1 hc; exact hA j hj (by omega)⟩, rfl⟩
set_option maxRecDepth 20000 in
theorem has6 (A : View) (s : ByteArray) (k : Nat) (hs : s.size ≤ 2147483648) : VCalls Tryd.prog 6 #[.string s, .int .u8 k] A fun r A' => BQ (fun b => b = false → k ∉ nb s) r ∧ A' = A := by
  refine xcalls Tryd.func6 rfl (by simp [Tryd.ntmps6]) ?_
  simp only [Tryd.f6]
  have hP : Priv A (addrs []) := Priv.nil A
  show xc _ _ _ _ _ _ (ov A [])
  refine xc_two fun N1 hN1 => ?_
  refine xc_reg1 1 rfl fun K hK => ?_
  simp only [show (List.range 1).map (·, true) = [(0, true)] from rfl, rslv_cons, rslv_nil, List.getElem?_toArray, List.getElem?_cons_zero, List.getElem?_cons_succ, gres]
  (refine seqX_hide2 fun R hR => ?_; simp [go_sem]; refine hR _ _ _ ?_; clear hR R)
  rw [seqX_nil]
  refine hK _ _ _ ?_; clear hK K
  refine hN1 _ _ _ ?_
  refine xc_two fun N2 hN2 => ?_
  refine xc_two fun N3 hN3 => ?_
  refine xc_reg1 3 rfl fun K hK => ?_
  simp only [show (List.range 3).map (·, true) = [(0, true), (1, true), (2, true)] from rfl, rslv_cons, rslv_nil, List.getElem?_toArray, List.getElem?_cons_zero, List.getElem?_cons_succ, gres]
  iterate 3 (refine seqX_hide2 fun R hR => ?_; simp [go_sem]; refine hR _ _ _ ?_; clear hR R)
  rw [seqX_nil]
  refine hK _ _ _ ?_; clear hK K
  refine hN3 _ _ _ ?_
  rw [xc_block]
  rw [xc_loop]
  refine vloopK (fun k' e ds A' => ∃ (i : Nat), k' = s.size - i ∧ ds = [] ∧ A' = ov A [] ∧ Priv A [] ∧ e 0 = .string s ∧ e 1 = .int .u8 k ∧ e 7 = .int .i64 s.size ∧ e 8 = .int .i64 i ∧ (i ≤ s.size) ∧ (∀ j (h : j < s.size), j < i → s[j].toNat ≠ k)) _ ⟨0, rfl, rfl, rfl, hP, by simp [go_sem], by simp [go_sem], by simp [go_sem], by simp [go_sem], by omega, fun j h hj => by omega⟩ ?_
  clear hP
  rintro k' e ds A' ⟨i, rfl, rfl, hV, hP, g0, g1, g7, g8, hil, hA⟩ J1 X1 hJ1 hX1
  refine xc_sound _ ?_
  replace hV := Eq.symm hV; subst hV; replace hP : Priv A (addrs []) := hP
  have hw1 := wrap_nat (i := i) (by omega)
  by_cases hi : i < s.size
  · have hg : s[i]? = some s[i] := getElem?_pos s i hi
    by_cases hd : s[i].toNat = k
    · skip
      refine xc_two fun N4 hN4 => ?_
      refine xc_reg1 1 rfl fun K hK => ?_
      simp only [show (List.range 1).map (·, true) = [(0, true)] from rfl, rslv_cons, rslv_nil, List.getElem?_toArray, List.getElem?_cons_zero, List.getElem?_cons_succ, gres]
      (refine seqX_hide2 fun R hR => ?_; simp [go_sem, g0, g1, g7, g8, hi, hg, hw1, xindex, hd]; refine hR _ _ _ ?_; clear hR R)
      rw [seqX_nil]
      refine hK _ _ _ ?_; clear hK K
      refine hN4 _ _ _ ?_
      refine xc_two fun N5 hN5 => ?_
      refine xc_iftrue (by simp [go_sem, g0, g1, g7, g8, hi, hg, hw1, xindex, hd]) ?_
      refine hN5 _ _ _ ?_
      refine xc_two fun N6 hN6 => ?_
      rw [xc_block]
      refine xc_two fun N7 hN7 => ?_
      refine xc_reg1 2 rfl fun K hK => ?_
      simp only [show (List.range 2).map (·, true) = [(0, true), (1, true)] from rfl, rslv_cons, rslv_nil, List.getElem?_toArray, List.getElem?_cons_zero, List.getElem?_cons_succ, gres]
      iterate 2 (refine seqX_hide2 fun R hR => ?_; simp [go_sem, g0, g1, g7, g8, hi, hg, hw1, xindex, hd]; refine hR _ _ _ ?_; clear hR R)
      rw [seqX_nil]
      refine hK _ _ _ ?_; clear hK K
      refine hN7 _ _ _ ?_
      refine xc_two fun N8 hN8 => ?_
      refine xc_reg1 5 rfl fun K hK => ?_
      simp only [show (List.range 5).map (·, true) = [(0, true), (1, true), (2, true), (3, true), (4, true)] from rfl, rslv_cons, rslv_nil, List.getElem?_toArray, List.getElem?_cons_zero, List.getElem?_cons_succ, gres]
      iterate 5 (refine seqX_hide2 fun R hR => ?_; simp [go_sem, g0, g1, g7, g8, hi, hg, hw1, xindex, hd]; refine hR _ _ _ ?_; clear hR R)
      rw [seqX_nil]
      refine hK _ _ _ ?_; clear hK K
      refine hN8 _ _ _ ?_
      refine xc_iftrue (by simp [go_sem, g0, g1, g7, g8, hi, hg, hw1, xindex, hd]) ?_
      refine xc_two fun N9 hN9 => ?_
      refine xc_reg1 1 rfl fun K hK => ?_
      simp only [show (List.range 1).map (·, true) = [(0, true)] from rfl, rslv_cons, rslv_nil, List.getElem?_toArray, List.getElem?_cons_zero, List.getElem?_cons_succ, gres]
      (refine seqX_hide2 fun R hR => ?_; simp [go_sem, g0, g1, g7, g8, hi, hg, hw1, xindex, hd]; refine hR _ _ _ ?_; clear hR R)
      rw [seqX_nil]
      refine hK _ _ _ ?_; clear hK K
      refine hN9 _ _ _ ?_
      refine hX1 _ _ _ _ ?_
      simp [go_sem, g0, g1, g7, g8, hi, hg, hw1, xindex, hd]
      exact ⟨⟨true, rfl, fun h => by cases h⟩, rfl⟩
    · have h1 : ((s[i].toNat : Int) == (k : Int)) = false := by simp; omega
      have h2 : ¬ (s[i].toNat : Int) = (k : Int) := by omega
      refine xc_two fun N4 hN4 => ?_
      refine xc_reg1 1 rfl fun K hK => ?_
      simp only [show (List.range 1).map (·, true) = [(0, true)] from rfl, rslv_cons, rslv_nil, List.getElem?_toArray, List.getElem?_cons_zero, List.getElem?_cons_succ, gres]
      (refine seqX_hide2 fun R hR => ?_; simp [go_sem, g0, g1, g7, g8, hi, hg, hw1, xindex, hd, h1, h2]; refine hR _ _ _ ?_; clear hR R)
      rw [seqX_nil]
      refine hK _ _ _ ?_; clear hK K
      refine hN4 _ _ _ ?_
      refine xc_two fun N5 hN5 => ?_
      refine xc_iftrue (by simp [go_sem, g0, g1, g7, g8, hi, hg, hw1, xindex, hd, h1, h2]) ?_
      refine hN5 _ _ _ ?_
      refine xc_two fun N6 hN6 => ?_
      rw [xc_block]
      refine xc_two fun N7 hN7 => ?_
      refine xc_reg1 2 rfl fun K hK => ?_
      simp only [show (List.range 2).map (·, true) = [(0, true), (1, true)] from rfl, rslv_cons, rslv_nil, List.getElem?_toArray, List.getElem?_cons_zero, List.getElem?_cons_succ, gres]
      iterate 2 (refine seqX_hide2 fun R hR => ?_; simp [go_sem, g0, g1, g7, g8, hi, hg, hw1, xindex, hd, h1, h2]; refine hR _ _ _ ?_; clear hR R)
      rw [seqX_nil]
      refine hK _ _ _ ?_; clear hK K
      refine hN7 _ _ _ ?_
      refine xc_two fun N8 hN8 => ?_
      refine xc_reg1 5 rfl fun K hK => ?_
      simp only [show (List.range 5).map (·, true) = [(0, true), (1, true), (2, true), (3, true), (4, true)] from rfl, rslv_cons, rslv_nil, List.getElem?_toArray, List.getElem?_cons_zero, List.getElem?_cons_succ, gres]
      iterate 5 (refine seqX_hide2 fun R hR => ?_; simp [go_sem, g0, g1, g7, g8, hi, hg, hw1, xindex, hd, h1, h2]; refine hR _ _ _ ?_; clear hR R)
      rw [seqX_nil]
      refine hK _ _ _ ?_; clear hK K
      refine hN8 _ _ _ ?_
      refine xc_iffalse (by simp [go_sem, g0, g1, g7, g8, hi, hg, hw1, xindex, hd, h1, h2]) ?_
      refine hN6 _ _ _ ?_
      refine xc_reg1 2 rfl fun K hK => ?_
      simp only [show (List.range 2).map (·, true) = [(0, true), (1, true)] from rfl, rslv_cons, rslv_nil, List.getElem?_toArray, List.getElem?_cons_zero, List.getElem?_cons_succ, gres]
      iterate 2 (refine seqX_hide2 fun R hR => ?_; simp [go_sem, g0, g1, g7, g8, hi, hg, hw1, xindex, hd, h1, h2]; refine hR _ _ _ ?_; clear hR R)
      rw [seqX_nil]
      refine hK _ _ _ ?_; clear hK K
      refine hJ1 (s.size - (i + 1)) _ _ _ (by omega) ⟨i + 1, rfl, rfl, rfl, hP, by simp [go_sem, g0, g1, g7, g8, hi, hg, hw1, xindex, hd, h1, h2], by simp [go_sem, g0, g1, g7, g8, hi, hg, hw1, xindex, hd, h1, h2], by simp [go_sem, g0, g1, g7, g8, hi, hg, hw1, xindex, hd, h1, h2], by simp [go_sem, g0, g1, g7, g8, hi, hg, hw1, xindex, hd, h1, h2], by omega, fun j h hj => by rcases Nat.lt_or_eq_of_le (Nat.le_of_lt_succ hj) with h2 | h2; exact hA j h h2; subst h2; exact hd⟩
  · skip
    refine xc_two fun N4 hN4 => ?_
    refine xc_reg1 1 rfl fun K hK => ?_
    simp only [show (List.range 1).map (·, true) = [(0, true)] from rfl, rslv_cons, rslv_nil, List.getElem?_toArray, List.getElem?_cons_zero, List.getElem?_cons_succ, gres]
    (refine seqX_hide2 fun R hR => ?_; simp [go_sem, g0, g1, g7, g8, hi]; refine hR _ _ _ ?_; clear hR R)
    rw [seqX_nil]
    refine hK _ _ _ ?_; clear hK K
    refine hN4 _ _ _ ?_
    refine xc_two fun N5 hN5 => ?_
    refine xc_iffalse (by simp [go_sem, g0, g1, g7, g8, hi]) ?_
    refine hX1 _ _ _ _ ?_
    refine hN2 _ _ _ ?_
    refine xc_two fun N6 hN6 => ?_
    refine xc_reg1 1 rfl fun K hK => ?_
    simp only [show (List.range 1).map (·, true) = [(0, true)] from rfl, rslv_cons, rslv_nil, List.getElem?_toArray, List.getElem?_cons_zero, List.getElem?_cons_succ, gres]
    (refine seqX_hide2 fun R hR => ?_; simp [go_sem, g0, g1, g7, g8, hi]; refine hR _ _ _ ?_; clear hR R)
    rw [seqX_nil]
    refine hK _ _ _ ?_; clear hK K
    refine hN6 _ _ _ ?_
    simp [go_sem, g0, g1, g7, g8, hi]
    exact ⟨⟨false, rfl, fun _ hc => by obtain ⟨j, hj, e⟩ := mem_nb.1 hc; exact hA j hj (by omega) e⟩, rfl⟩
theorem new61 (A : View) (s : ByteArray) : VCalls Tryd.prog 61 #[.string s] A fun r A' => (∃ t y, r = .iface t y) ∧ A ≤ A' := by
  refine xcalls Tryd.func61 rfl (by simp [Tryd.ntmps61]) ?_
  simp only [Tryd.f61]
  have hP : Priv A (addrs []) := Priv.nil A
  show xc _ _ _ _ _ _ (ov A [])
  refine xc_two fun N1 hN1 => ?_
  refine xc_reg1 1 rfl fun K hK => ?_
  simp only [show (List.range 1).map (·, true) = [(0, true)] from rfl, rslv_cons, rslv_nil, List.getElem?_toArray, List.getElem?_cons_zero, List.getElem?_cons_succ, gres]
  (refine seqX_hide2 fun R hR => ?_; simp [go_sem]; refine hR _ _ _ ?_; clear hR R)
  rw [seqX_nil]
  refine hK _ _ _ ?_; clear hK K
  refine hN1 _ _ _ ?_
  refine xc_two fun N2 hN2 => ?_
  refine xc_reg1 5 rfl fun K hK => ?_
  simp only [show (List.range 5).map (·, true) = [(0, true), (1, true), (2, true), (3, true), (4, true)] from rfl, rslv_cons, rslv_nil, List.getElem?_toArray, List.getElem?_cons_zero, List.getElem?_cons_succ, gres]
  iterate 2 (refine seqX_hide2 fun R hR => ?_; simp [go_sem]; refine hR _ _ _ ?_; clear hR R)
  refine seqX_hide2 fun R hR => ?_
  simp [go_sem]
  intro q5 hq5
  replace hP := hP.cons hq5
  clear hq5
  refine hR _ _ _ ?_; clear hR R
  iterate 2 (refine seqX_hide2 fun R hR => ?_; simp [go_sem]; refine hR _ _ _ ?_; clear hR R)
  rw [seqX_nil]
  refine hK _ _ _ ?_; clear hK K
  refine hN2 _ _ _ ?_
  simp [go_sem]
  exact le_ov hP
theorem bad55 (A : View) : VCalls Tryd.prog 55 #[] A fun r A' => (∃ t y, r = .iface t y) ∧ A ≤ A' := by
  refine xcalls Tryd.func55 rfl (by simp [Tryd.ntmps55]) ?_
  simp only [Tryd.f55]
  have hP : Priv A (addrs []) := Priv.nil A
  show xc _ _ _ _ _ _ (ov A [])
  refine xc_two fun N1 hN1 => ?_
  refine xc_reg1 1 rfl fun K hK => ?_
  simp only [show (List.range 1).map (·, true) = [(0, true)] from rfl, rslv_cons, rslv_nil, List.getElem?_toArray, List.getElem?_cons_zero, List.getElem?_cons_succ, gres]
  (refine seqX_hide2 fun R hR => ?_; simp [go_sem]; refine hR _ _ _ ?_; clear hR R)
  rw [seqX_nil]
  refine hK _ _ _ ?_; clear hK K
  refine hN1 _ _ _ ?_
  refine xc_two fun N2 hN2 => ?_
  refine xc_reg1 2 rfl fun K hK => ?_
  simp only [show (List.range 2).map (·, true) = [(0, true), (1, true)] from rfl, rslv_cons, rslv_nil, List.getElem?_toArray, List.getElem?_cons_zero, List.getElem?_cons_succ, gres]
  refine seqX_hide2 fun R hR => ?_
  simp [go_sem]
  refine call_ov hP (new61 A _) ?_
  clear hP
  rintro _ A1 ⟨⟨t, y, rfl⟩, hA1⟩ hP
  refine hR _ _ _ ?_; clear hR R
  (refine seqX_hide2 fun R hR => ?_; simp [go_sem]; refine hR _ _ _ ?_; clear hR R)
  rw [seqX_nil]
  refine hK _ _ _ ?_; clear hK K
  refine hN2 _ _ _ ?_
  simp [go_sem]
  exact hA1
set_option maxRecDepth 20000 in
theorem rune53 (A : View) (s : ByteArray) (h0 : 0 < s.size) (ha : s[0].toNat < 128) : VCalls Tryd.prog 53 #[.string s] A fun r A' => r = .tuple #[.int .i32 s[0].toNat, .int .i64 1] ∧ A' = A := by
  have hg : s[0]? = some s[0] := getElem?_pos s 0 h0
  have h1 : (s[0].toNat : Int) < 128 := by omega
  have hne : s.toList.isEmpty = false := by
    cases he : s.toList.isEmpty with
    | false => rfl
    | true =>
      exfalso
      have h2 := (Lib.bytes_beq_iff s ⟨#[]⟩).1 (by rw [List.isEmpty_iff.1 he]; kernel_rfl)
      rw [h2] at h0
      exact absurd h0 (by decide)
  have hw : IntKind.i32.wrap (s[0].toNat : Int) = (s[0].toNat : Int) := by
    simp [IntKind.wrap, IntKind.bits, IntKind.signed]
    omega
  refine xcalls Tryd.func53 rfl (by simp [Tryd.ntmps53]) ?_
  simp only [Tryd.f53]
  have hP : Priv A (addrs []) := Priv.nil A
  show xc _ _ _ _ _ _ (ov A [])
  refine xc_two fun N1 hN1 => ?_
  refine xc_reg1 2 rfl fun K hK => ?_
  simp only [show (List.range 2).map (·, true) = [(0, true), (1, true)] from rfl, rslv_cons, rslv_nil, List.getElem?_toArray, List.getElem?_cons_zero, List.getElem?_cons_succ, gres]
  iterate 2 (refine seqX_hide2 fun R hR => ?_; simp [go_sem, hg, h1, ha, hne, hw, xindex, h0]; refine hR _ _ _ ?_; clear hR R)
  rw [seqX_nil]
  refine hK _ _ _ ?_; clear hK K
  refine hN1 _ _ _ ?_
  refine xc_two fun N2 hN2 => ?_
  refine xc_two fun N3 hN3 => ?_
  refine xc_reg1 7 rfl fun K hK => ?_
  simp only [show (List.range 7).map (·, true) = [(0, true), (1, true), (2, true), (3, true), (4, true), (5, true), (6, true)] from rfl, rslv_cons, rslv_nil, List.getElem?_toArray, List.getElem?_cons_zero, List.getElem?_cons_succ, gres]
  iterate 7 (refine seqX_hide2 fun R hR => ?_; simp [go_sem, hg, h1, ha, hne, hw, xindex, h0]; refine hR _ _ _ ?_; clear hR R)
  rw [seqX_nil]
  refine hK _ _ _ ?_; clear hK K
  refine hN3 _ _ _ ?_
  refine xc_iftrue (by simp [go_sem, hg, h1, ha, hne, hw, xindex, h0]) ?_
  refine xc_two fun N4 hN4 => ?_
  refine xc_reg1 5 rfl fun K hK => ?_
  simp only [show (List.range 5).map (·, true) = [(0, true), (1, true), (2, true), (3, true), (4, true)] from rfl, rslv_cons, rslv_nil, List.getElem?_toArray, List.getElem?_cons_zero, List.getElem?_cons_succ, gres]
  iterate 2 (refine seqX_hide2 fun R hR => ?_; simp [go_sem, hg, h1, ha, hne, hw, xindex, h0]; refine hR _ _ _ ?_; clear hR R)
  refine seqX_hide2 fun R hR => ?_
  simp [go_sem, hg, h1, ha, hne, hw, xindex, h0]
  refine hR _ _ _ ?_; clear hR R
  iterate 2 (refine seqX_hide2 fun R hR => ?_; simp [go_sem, hg, h1, ha, hne, hw, xindex, h0]; refine hR _ _ _ ?_; clear hR R)
  rw [seqX_nil]
  refine hK _ _ _ ?_; clear hK K
  refine hN4 _ _ _ ?_
  simp [go_sem, hg, h1, ha, hne, hw, xindex, h0]
  rfl
end Go.Proofs.YthjbgpmcfcijgaaDoorV

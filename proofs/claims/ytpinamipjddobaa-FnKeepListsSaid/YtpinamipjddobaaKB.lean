/- Trees: words, digits. -/
import Derived.Test.YtpinamipjddobaaKA
import Derived.Lib.IndexBytes
namespace Go.Proofs.YtpinamipjddobaaV
open Go.RowKit
set_option linter.unusedSimpArgs false
set_option linter.unusedVariables false
theorem emp_eq {s : ByteArray} (h : s.toList.isEmpty = true) : s = ⟨#[]⟩ := by
  apply (Lib.bytes_beq_iff s ⟨#[]⟩).1
  rw [List.isEmpty_iff.1 h]
  kernel_rfl
theorem emp_size {s : ByteArray} (h : s.size = 0) : s = ⟨#[]⟩ := ByteArray.ext (Array.eq_empty_of_size_eq_zero (show s.data.size = 0 from h))
theorem emp_ne {s : ByteArray} (h : s.toList.isEmpty = false) : s.size ≠ 0 := fun hz => by
  rw [emp_size hz, show (⟨#[]⟩ : ByteArray).toList = [] by kernel_rfl] at h
  cases h
theorem emp_app {a b : ByteArray} (h : (a ++ b).toList.isEmpty = true) : a = ⟨#[]⟩ ∧ b = ⟨#[]⟩ := by
  have h1 := emp_eq h
  have h2 : (a ++ b).size = 0 := by rw [h1]; rfl
  rw [ByteArray.size_append] at h2
  exact ⟨emp_size (by omega), emp_size (by omega)⟩
/-- A truth, of which something follows if it is one. -/
def FB (Q : Prop) (r : Value) : Prop := ∃ q, r = .bool q ∧ (q = true → Q)
theorem FB.no (Q : Prop) : FB Q (.bool false) := ⟨false, rfl, fun h => by cases h⟩
theorem FB.yes {Q : Prop} (h : Q) : FB Q (.bool true) := ⟨true, rfl, fun _ => h⟩
/-- 1 to 20 small letters. -/
def Wd (s : ByteArray) : Prop := s.size ≠ 0 ∧ s.size ≤ 20 ∧ ∀ i (h : i < s.size), 97 ≤ s[i].toNat ∧ s[i].toNat ≤ 122
/-- 1 to 9 digits. -/
def Dg (s : ByteArray) : Prop := s.size ≠ 0 ∧ s.size ≤ 9 ∧ ∀ i (h : i < s.size), 48 ≤ s[i].toNat ∧ s[i].toNat ≤ 57
set_option maxRecDepth 20000 in
set_option maxHeartbeats 4000000 in
theorem word (A : View) (s : ByteArray) (hs : s.size ≤ 1125899906842624) : VCalls Try.prog 53 #[.string s] A fun r A' => FB (Wd s) r ∧ A' = A := by
  refine xcalls Try.func53 rfl (by simp [Try.ntmps53]) ?_
  simp only [Try.f53]
  have hP : Priv A (addrs []) := Priv.nil A
  show xc _ _ _ _ _ _ (ov A [])
  refine xc_two fun N1 hN1 => ?_
  refine xc_reg2 fun K hK => ?_
  simp only [rall, rsl, gres]
  (refine seqX_hide2 fun R hR => ?_; simp [go_sem]; refine hR _ _ _ ?_; clear hR R)
  rw [seqX_nil]
  refine hK _ _ _ ?_; clear hK K
  refine hN1 _ _ _ ?_
  refine xc_two fun N2 hN2 => ?_
  refine xc_two fun N3 hN3 => ?_
  refine xc_reg2 fun K hK => ?_
  simp only [rall, rsl, gres]
  iterate 3 (refine seqX_hide2 fun R hR => ?_; simp [go_sem]; refine hR _ _ _ ?_; clear hR R)
  rw [seqX_nil]
  refine hK _ _ _ ?_; clear hK K
  refine hN3 _ _ _ ?_
  rw [xc_block]
  rw [xc_loop]
  refine vloopK (fun k' e ds A' => ∃ (i : Nat), k' = s.size - i ∧ ds = [] ∧ A' = ov A [] ∧ Priv A [] ∧ e 0 = .string s ∧ e 5 = .int .i64 s.size ∧ e 6 = .int .i64 i ∧ (i ≤ s.size) ∧ (∀ j (h : j < s.size), j < i → 97 ≤ s[j].toNat ∧ s[j].toNat ≤ 122)) _ ⟨0, rfl, rfl, rfl, hP, by simp [go_sem], by simp [go_sem], by simp [go_sem], by omega, fun j h hj => by omega⟩ ?_
  clear hP
  rintro k' e ds A' ⟨i, rfl, rfl, hV, hP, g0, g5, g6, hil, hA⟩ J1 X1 hJ1 hX1
  refine xc_sound _ ?_
  replace hV := Eq.symm hV; subst hV; replace hP : Priv A (addrs []) := hP
  have hw1 := wrap_nat (i := i) (by omega)
  by_cases hi : i < s.size
  · have hg : s[i]? = some s[i] := getElem?_pos s i hi
    by_cases h1 : s[i].toNat < 97
    · have h1i : (s[i].toNat : Int) < 97 := by omega
      refine xc_two fun N4 hN4 => ?_
      refine xc_reg2 fun K hK => ?_
      simp only [rall, rsl, gres]
      (refine seqX_hide2 fun R hR => ?_; simp [go_sem, g0, g5, g6, hi, hg, hw1, xindex, h1, h1i]; refine hR _ _ _ ?_; clear hR R)
      rw [seqX_nil]
      refine hK _ _ _ ?_; clear hK K
      refine hN4 _ _ _ ?_
      refine xc_two fun N5 hN5 => ?_
      refine xc_iftrue (by simp [go_sem, g0, g5, g6, hi, hg, hw1, xindex, h1, h1i]) ?_
      refine hN5 _ _ _ ?_
      refine xc_two fun N6 hN6 => ?_
      rw [xc_block]
      refine xc_two fun N7 hN7 => ?_
      refine xc_reg2 fun K hK => ?_
      simp only [rall, rsl, gres]
      iterate 2 (refine seqX_hide2 fun R hR => ?_; simp [go_sem, g0, g5, g6, hi, hg, hw1, xindex, h1, h1i]; refine hR _ _ _ ?_; clear hR R)
      rw [seqX_nil]
      refine hK _ _ _ ?_; clear hK K
      refine hN7 _ _ _ ?_
      refine xc_two fun N8 hN8 => ?_
      refine xc_reg2 fun K hK => ?_
      simp only [rall, rsl, gres]
      iterate 10 (refine seqX_hide2 fun R hR => ?_; simp [go_sem, g0, g5, g6, hi, hg, hw1, xindex, h1, h1i]; refine hR _ _ _ ?_; clear hR R)
      rw [seqX_nil]
      refine hK _ _ _ ?_; clear hK K
      refine hN8 _ _ _ ?_
      refine xc_iftrue (by simp [go_sem, g0, g5, g6, hi, hg, hw1, xindex, h1, h1i]) ?_
      refine xc_two fun N9 hN9 => ?_
      refine xc_reg2 fun K hK => ?_
      simp only [rall, rsl, gres]
      (refine seqX_hide2 fun R hR => ?_; simp [go_sem, g0, g5, g6, hi, hg, hw1, xindex, h1, h1i]; refine hR _ _ _ ?_; clear hR R)
      rw [seqX_nil]
      refine hK _ _ _ ?_; clear hK K
      refine hN9 _ _ _ ?_
      refine hX1 _ _ _ _ ?_
      simp [go_sem, g0, g5, g6, hi, hg, hw1, xindex, h1, h1i]
      exact ⟨FB.no _, rfl⟩
    have h1i : ¬ (s[i].toNat : Int) < 97 := by omega
    by_cases h2 : 122 < s[i].toNat
    · have h2i : (122 : Int) < s[i].toNat := by omega
      refine xc_two fun N4 hN4 => ?_
      refine xc_reg2 fun K hK => ?_
      simp only [rall, rsl, gres]
      (refine seqX_hide2 fun R hR => ?_; simp [go_sem, g0, g5, g6, hi, hg, hw1, xindex, h1, h1i, h2, h2i]; refine hR _ _ _ ?_; clear hR R)
      rw [seqX_nil]
      refine hK _ _ _ ?_; clear hK K
      refine hN4 _ _ _ ?_
      refine xc_two fun N5 hN5 => ?_
      refine xc_iftrue (by simp [go_sem, g0, g5, g6, hi, hg, hw1, xindex, h1, h1i, h2, h2i]) ?_
      refine hN5 _ _ _ ?_
      refine xc_two fun N6 hN6 => ?_
      rw [xc_block]
      refine xc_two fun N7 hN7 => ?_
      refine xc_reg2 fun K hK => ?_
      simp only [rall, rsl, gres]
      iterate 2 (refine seqX_hide2 fun R hR => ?_; simp [go_sem, g0, g5, g6, hi, hg, hw1, xindex, h1, h1i, h2, h2i]; refine hR _ _ _ ?_; clear hR R)
      rw [seqX_nil]
      refine hK _ _ _ ?_; clear hK K
      refine hN7 _ _ _ ?_
      refine xc_two fun N8 hN8 => ?_
      refine xc_reg2 fun K hK => ?_
      simp only [rall, rsl, gres]
      iterate 10 (refine seqX_hide2 fun R hR => ?_; simp [go_sem, g0, g5, g6, hi, hg, hw1, xindex, h1, h1i, h2, h2i]; refine hR _ _ _ ?_; clear hR R)
      rw [seqX_nil]
      refine hK _ _ _ ?_; clear hK K
      refine hN8 _ _ _ ?_
      refine xc_iftrue (by simp [go_sem, g0, g5, g6, hi, hg, hw1, xindex, h1, h1i, h2, h2i]) ?_
      refine xc_two fun N9 hN9 => ?_
      refine xc_reg2 fun K hK => ?_
      simp only [rall, rsl, gres]
      (refine seqX_hide2 fun R hR => ?_; simp [go_sem, g0, g5, g6, hi, hg, hw1, xindex, h1, h1i, h2, h2i]; refine hR _ _ _ ?_; clear hR R)
      rw [seqX_nil]
      refine hK _ _ _ ?_; clear hK K
      refine hN9 _ _ _ ?_
      refine hX1 _ _ _ _ ?_
      simp [go_sem, g0, g5, g6, hi, hg, hw1, xindex, h1, h1i, h2, h2i]
      exact ⟨FB.no _, rfl⟩
    have h2i : ¬ (122 : Int) < s[i].toNat := by omega
    refine xc_two fun N4 hN4 => ?_
    refine xc_reg2 fun K hK => ?_
    simp only [rall, rsl, gres]
    (refine seqX_hide2 fun R hR => ?_; simp [go_sem, g0, g5, g6, hi, hg, hw1, xindex, h1, h1i, h2, h2i]; refine hR _ _ _ ?_; clear hR R)
    rw [seqX_nil]
    refine hK _ _ _ ?_; clear hK K
    refine hN4 _ _ _ ?_
    refine xc_two fun N5 hN5 => ?_
    refine xc_iftrue (by simp [go_sem, g0, g5, g6, hi, hg, hw1, xindex, h1, h1i, h2, h2i]) ?_
    refine hN5 _ _ _ ?_
    refine xc_two fun N6 hN6 => ?_
    rw [xc_block]
    refine xc_two fun N7 hN7 => ?_
    refine xc_reg2 fun K hK => ?_
    simp only [rall, rsl, gres]
    iterate 2 (refine seqX_hide2 fun R hR => ?_; simp [go_sem, g0, g5, g6, hi, hg, hw1, xindex, h1, h1i, h2, h2i]; refine hR _ _ _ ?_; clear hR R)
    rw [seqX_nil]
    refine hK _ _ _ ?_; clear hK K
    refine hN7 _ _ _ ?_
    refine xc_two fun N8 hN8 => ?_
    refine xc_reg2 fun K hK => ?_
    simp only [rall, rsl, gres]
    iterate 10 (refine seqX_hide2 fun R hR => ?_; simp [go_sem, g0, g5, g6, hi, hg, hw1, xindex, h1, h1i, h2, h2i]; refine hR _ _ _ ?_; clear hR R)
    rw [seqX_nil]
    refine hK _ _ _ ?_; clear hK K
    refine hN8 _ _ _ ?_
    refine xc_iffalse (by simp [go_sem, g0, g5, g6, hi, hg, hw1, xindex, h1, h1i, h2, h2i]) ?_
    refine hN6 _ _ _ ?_
    refine xc_reg2 fun K hK => ?_
    simp only [rall, rsl, gres]
    iterate 2 (refine seqX_hide2 fun R hR => ?_; simp [go_sem, g0, g5, g6, hi, hg, hw1, xindex, h1, h1i, h2, h2i]; refine hR _ _ _ ?_; clear hR R)
    rw [seqX_nil]
    refine hK _ _ _ ?_; clear hK K
    refine hJ1 (s.size - (i + 1)) _ _ _ (by omega) ⟨i + 1, rfl, rfl, rfl, hP, by simp [go_sem, g0, g5, g6, hi, hg, hw1, xindex, h1, h1i, h2, h2i], by simp [go_sem, g0, g5, g6, hi, hg, hw1, xindex, h1, h1i, h2, h2i], by simp [go_sem, g0, g5, g6, hi, hg, hw1, xindex, h1, h1i, h2, h2i], by omega, fun j h hj => by rcases Nat.lt_or_eq_of_le (Nat.le_of_lt_succ hj) with h3 | h3; exact hA j h h3; subst h3; omega⟩
  · have hall : ∀ j (h : j < s.size), 97 ≤ s[j].toNat ∧ s[j].toNat ≤ 122 := fun j h => hA j h (by omega)
    refine xc_two fun N4 hN4 => ?_
    refine xc_reg2 fun K hK => ?_
    simp only [rall, rsl, gres]
    (refine seqX_hide2 fun R hR => ?_; simp [go_sem, g0, g5, g6, hi]; refine hR _ _ _ ?_; clear hR R)
    rw [seqX_nil]
    refine hK _ _ _ ?_; clear hK K
    refine hN4 _ _ _ ?_
    refine xc_two fun N5 hN5 => ?_
    refine xc_iffalse (by simp [go_sem, g0, g5, g6, hi]) ?_
    refine hX1 _ _ _ _ ?_
    refine hN2 _ _ _ ?_
    refine xc_two fun N6 hN6 => ?_
    refine xc_two fun N7 hN7 => ?_
    refine xc_reg2 fun K hK => ?_
    simp only [rall, rsl, gres]
    (refine seqX_hide2 fun R hR => ?_; simp [go_sem, g0, g5, g6, hi]; refine hR _ _ _ ?_; clear hR R)
    rw [seqX_nil]
    refine hK _ _ _ ?_; clear hK K
    refine hN7 _ _ _ ?_
    rw [xc_block]
    refine xc_two fun N8 hN8 => ?_
    refine xc_two fun N9 hN9 => ?_
    refine xc_reg2 fun K hK => ?_
    simp only [rall, rsl, gres]
    iterate 2 (refine seqX_hide2 fun R hR => ?_; simp [go_sem, g0, g5, g6, hi]; refine hR _ _ _ ?_; clear hR R)
    rw [seqX_nil]
    refine hK _ _ _ ?_; clear hK K
    refine hN9 _ _ _ ?_
    cases e0 : (s.toList == [121]) with
    | true =>
      refine xc_iftrue (by simp [go_sem, g0, g5, g6, hi, e0]) ?_
      refine hN8 _ _ _ ?_
      refine xc_iftrue (by simp [go_sem, g0, g5, g6, hi, e0]) ?_
      refine xc_two fun N10 hN10 => ?_
      refine xc_reg2 fun K hK => ?_
      simp only [rall, rsl, gres]
      (refine seqX_hide2 fun R hR => ?_; simp [go_sem, g0, g5, g6, hi, e0]; refine hR _ _ _ ?_; clear hR R)
      rw [seqX_nil]
      refine hK _ _ _ ?_; clear hK K
      refine hN10 _ _ _ ?_
      simp [go_sem, g0, g5, g6, hi, e0]
      exact ⟨FB.no _, rfl⟩
    | false =>
    cases e1 : (s.toList == [110]) with
    | true =>
      refine xc_iffalse (by simp [go_sem, g0, g5, g6, hi, e0, e1]) ?_
      refine xc_two fun N10 hN10 => ?_
      refine xc_reg2 fun K hK => ?_
      simp only [rall, rsl, gres]
      iterate 2 (refine seqX_hide2 fun R hR => ?_; simp [go_sem, g0, g5, g6, hi, e0, e1]; refine hR _ _ _ ?_; clear hR R)
      rw [seqX_nil]
      refine hK _ _ _ ?_; clear hK K
      refine hN10 _ _ _ ?_
      refine xc_iftrue (by simp [go_sem, g0, g5, g6, hi, e0, e1]) ?_
      refine hN8 _ _ _ ?_
      refine xc_iftrue (by simp [go_sem, g0, g5, g6, hi, e0, e1]) ?_
      refine xc_two fun N11 hN11 => ?_
      refine xc_reg2 fun K hK => ?_
      simp only [rall, rsl, gres]
      (refine seqX_hide2 fun R hR => ?_; simp [go_sem, g0, g5, g6, hi, e0, e1]; refine hR _ _ _ ?_; clear hR R)
      rw [seqX_nil]
      refine hK _ _ _ ?_; clear hK K
      refine hN11 _ _ _ ?_
      simp [go_sem, g0, g5, g6, hi, e0, e1]
      exact ⟨FB.no _, rfl⟩
    | false =>
    cases e2 : (s.toList == [121, 101, 115]) with
    | true =>
      refine xc_iffalse (by simp [go_sem, g0, g5, g6, hi, e0, e1, e2]) ?_
      refine xc_two fun N10 hN10 => ?_
      refine xc_reg2 fun K hK => ?_
      simp only [rall, rsl, gres]
      iterate 2 (refine seqX_hide2 fun R hR => ?_; simp [go_sem, g0, g5, g6, hi, e0, e1, e2]; refine hR _ _ _ ?_; clear hR R)
      rw [seqX_nil]
      refine hK _ _ _ ?_; clear hK K
      refine hN10 _ _ _ ?_
      refine xc_iffalse (by simp [go_sem, g0, g5, g6, hi, e0, e1, e2]) ?_
      refine xc_two fun N11 hN11 => ?_
      refine xc_reg2 fun K hK => ?_
      simp only [rall, rsl, gres]
      iterate 2 (refine seqX_hide2 fun R hR => ?_; simp [go_sem, g0, g5, g6, hi, e0, e1, e2]; refine hR _ _ _ ?_; clear hR R)
      rw [seqX_nil]
      refine hK _ _ _ ?_; clear hK K
      refine hN11 _ _ _ ?_
      refine xc_iftrue (by simp [go_sem, g0, g5, g6, hi, e0, e1, e2]) ?_
      refine hN8 _ _ _ ?_
      refine xc_iftrue (by simp [go_sem, g0, g5, g6, hi, e0, e1, e2]) ?_
      refine xc_two fun N12 hN12 => ?_
      refine xc_reg2 fun K hK => ?_
      simp only [rall, rsl, gres]
      (refine seqX_hide2 fun R hR => ?_; simp [go_sem, g0, g5, g6, hi, e0, e1, e2]; refine hR _ _ _ ?_; clear hR R)
      rw [seqX_nil]
      refine hK _ _ _ ?_; clear hK K
      refine hN12 _ _ _ ?_
      simp [go_sem, g0, g5, g6, hi, e0, e1, e2]
      exact ⟨FB.no _, rfl⟩
    | false =>
    cases e3 : (s.toList == [110, 111]) with
    | true =>
      refine xc_iffalse (by simp [go_sem, g0, g5, g6, hi, e0, e1, e2, e3]) ?_
      refine xc_two fun N10 hN10 => ?_
      refine xc_reg2 fun K hK => ?_
      simp only [rall, rsl, gres]
      iterate 2 (refine seqX_hide2 fun R hR => ?_; simp [go_sem, g0, g5, g6, hi, e0, e1, e2, e3]; refine hR _ _ _ ?_; clear hR R)
      rw [seqX_nil]
      refine hK _ _ _ ?_; clear hK K
      refine hN10 _ _ _ ?_
      refine xc_iffalse (by simp [go_sem, g0, g5, g6, hi, e0, e1, e2, e3]) ?_
      refine xc_two fun N11 hN11 => ?_
      refine xc_reg2 fun K hK => ?_
      simp only [rall, rsl, gres]
      iterate 2 (refine seqX_hide2 fun R hR => ?_; simp [go_sem, g0, g5, g6, hi, e0, e1, e2, e3]; refine hR _ _ _ ?_; clear hR R)
      rw [seqX_nil]
      refine hK _ _ _ ?_; clear hK K
      refine hN11 _ _ _ ?_
      refine xc_iffalse (by simp [go_sem, g0, g5, g6, hi, e0, e1, e2, e3]) ?_
      refine xc_two fun N12 hN12 => ?_
      refine xc_reg2 fun K hK => ?_
      simp only [rall, rsl, gres]
      iterate 2 (refine seqX_hide2 fun R hR => ?_; simp [go_sem, g0, g5, g6, hi, e0, e1, e2, e3]; refine hR _ _ _ ?_; clear hR R)
      rw [seqX_nil]
      refine hK _ _ _ ?_; clear hK K
      refine hN12 _ _ _ ?_
      refine xc_iftrue (by simp [go_sem, g0, g5, g6, hi, e0, e1, e2, e3]) ?_
      refine hN8 _ _ _ ?_
      refine xc_iftrue (by simp [go_sem, g0, g5, g6, hi, e0, e1, e2, e3]) ?_
      refine xc_two fun N13 hN13 => ?_
      refine xc_reg2 fun K hK => ?_
      simp only [rall, rsl, gres]
      (refine seqX_hide2 fun R hR => ?_; simp [go_sem, g0, g5, g6, hi, e0, e1, e2, e3]; refine hR _ _ _ ?_; clear hR R)
      rw [seqX_nil]
      refine hK _ _ _ ?_; clear hK K
      refine hN13 _ _ _ ?_
      simp [go_sem, g0, g5, g6, hi, e0, e1, e2, e3]
      exact ⟨FB.no _, rfl⟩
    | false =>
    cases e4 : (s.toList == [111, 110]) with
    | true =>
      refine xc_iffalse (by simp [go_sem, g0, g5, g6, hi, e0, e1, e2, e3, e4]) ?_
      refine xc_two fun N10 hN10 => ?_
      refine xc_reg2 fun K hK => ?_
      simp only [rall, rsl, gres]
      iterate 2 (refine seqX_hide2 fun R hR => ?_; simp [go_sem, g0, g5, g6, hi, e0, e1, e2, e3, e4]; refine hR _ _ _ ?_; clear hR R)
      rw [seqX_nil]
      refine hK _ _ _ ?_; clear hK K
      refine hN10 _ _ _ ?_
      refine xc_iffalse (by simp [go_sem, g0, g5, g6, hi, e0, e1, e2, e3, e4]) ?_
      refine xc_two fun N11 hN11 => ?_
      refine xc_reg2 fun K hK => ?_
      simp only [rall, rsl, gres]
      iterate 2 (refine seqX_hide2 fun R hR => ?_; simp [go_sem, g0, g5, g6, hi, e0, e1, e2, e3, e4]; refine hR _ _ _ ?_; clear hR R)
      rw [seqX_nil]
      refine hK _ _ _ ?_; clear hK K
      refine hN11 _ _ _ ?_
      refine xc_iffalse (by simp [go_sem, g0, g5, g6, hi, e0, e1, e2, e3, e4]) ?_
      refine xc_two fun N12 hN12 => ?_
      refine xc_reg2 fun K hK => ?_
      simp only [rall, rsl, gres]
      iterate 2 (refine seqX_hide2 fun R hR => ?_; simp [go_sem, g0, g5, g6, hi, e0, e1, e2, e3, e4]; refine hR _ _ _ ?_; clear hR R)
      rw [seqX_nil]
      refine hK _ _ _ ?_; clear hK K
      refine hN12 _ _ _ ?_
      refine xc_iffalse (by simp [go_sem, g0, g5, g6, hi, e0, e1, e2, e3, e4]) ?_
      refine xc_two fun N13 hN13 => ?_
      refine xc_reg2 fun K hK => ?_
      simp only [rall, rsl, gres]
      iterate 2 (refine seqX_hide2 fun R hR => ?_; simp [go_sem, g0, g5, g6, hi, e0, e1, e2, e3, e4]; refine hR _ _ _ ?_; clear hR R)
      rw [seqX_nil]
      refine hK _ _ _ ?_; clear hK K
      refine hN13 _ _ _ ?_
      refine xc_iftrue (by simp [go_sem, g0, g5, g6, hi, e0, e1, e2, e3, e4]) ?_
      refine hN8 _ _ _ ?_
      refine xc_iftrue (by simp [go_sem, g0, g5, g6, hi, e0, e1, e2, e3, e4]) ?_
      refine xc_two fun N14 hN14 => ?_
      refine xc_reg2 fun K hK => ?_
      simp only [rall, rsl, gres]
      (refine seqX_hide2 fun R hR => ?_; simp [go_sem, g0, g5, g6, hi, e0, e1, e2, e3, e4]; refine hR _ _ _ ?_; clear hR R)
      rw [seqX_nil]
      refine hK _ _ _ ?_; clear hK K
      refine hN14 _ _ _ ?_
      simp [go_sem, g0, g5, g6, hi, e0, e1, e2, e3, e4]
      exact ⟨FB.no _, rfl⟩
    | false =>
    cases e5 : (s.toList == [111, 102, 102]) with
    | true =>
      refine xc_iffalse (by simp [go_sem, g0, g5, g6, hi, e0, e1, e2, e3, e4, e5]) ?_
      refine xc_two fun N10 hN10 => ?_
      refine xc_reg2 fun K hK => ?_
      simp only [rall, rsl, gres]
      iterate 2 (refine seqX_hide2 fun R hR => ?_; simp [go_sem, g0, g5, g6, hi, e0, e1, e2, e3, e4, e5]; refine hR _ _ _ ?_; clear hR R)
      rw [seqX_nil]
      refine hK _ _ _ ?_; clear hK K
      refine hN10 _ _ _ ?_
      refine xc_iffalse (by simp [go_sem, g0, g5, g6, hi, e0, e1, e2, e3, e4, e5]) ?_
      refine xc_two fun N11 hN11 => ?_
      refine xc_reg2 fun K hK => ?_
      simp only [rall, rsl, gres]
      iterate 2 (refine seqX_hide2 fun R hR => ?_; simp [go_sem, g0, g5, g6, hi, e0, e1, e2, e3, e4, e5]; refine hR _ _ _ ?_; clear hR R)
      rw [seqX_nil]
      refine hK _ _ _ ?_; clear hK K
      refine hN11 _ _ _ ?_
      refine xc_iffalse (by simp [go_sem, g0, g5, g6, hi, e0, e1, e2, e3, e4, e5]) ?_
      refine xc_two fun N12 hN12 => ?_
      refine xc_reg2 fun K hK => ?_
      simp only [rall, rsl, gres]
      iterate 2 (refine seqX_hide2 fun R hR => ?_; simp [go_sem, g0, g5, g6, hi, e0, e1, e2, e3, e4, e5]; refine hR _ _ _ ?_; clear hR R)
      rw [seqX_nil]
      refine hK _ _ _ ?_; clear hK K
      refine hN12 _ _ _ ?_
      refine xc_iffalse (by simp [go_sem, g0, g5, g6, hi, e0, e1, e2, e3, e4, e5]) ?_
      refine xc_two fun N13 hN13 => ?_
      refine xc_reg2 fun K hK => ?_
      simp only [rall, rsl, gres]
      iterate 2 (refine seqX_hide2 fun R hR => ?_; simp [go_sem, g0, g5, g6, hi, e0, e1, e2, e3, e4, e5]; refine hR _ _ _ ?_; clear hR R)
      rw [seqX_nil]
      refine hK _ _ _ ?_; clear hK K
      refine hN13 _ _ _ ?_
      refine xc_iffalse (by simp [go_sem, g0, g5, g6, hi, e0, e1, e2, e3, e4, e5]) ?_
      refine xc_two fun N14 hN14 => ?_
      refine xc_reg2 fun K hK => ?_
      simp only [rall, rsl, gres]
      iterate 2 (refine seqX_hide2 fun R hR => ?_; simp [go_sem, g0, g5, g6, hi, e0, e1, e2, e3, e4, e5]; refine hR _ _ _ ?_; clear hR R)
      rw [seqX_nil]
      refine hK _ _ _ ?_; clear hK K
      refine hN14 _ _ _ ?_
      refine xc_iftrue (by simp [go_sem, g0, g5, g6, hi, e0, e1, e2, e3, e4, e5]) ?_
      refine hN8 _ _ _ ?_
      refine xc_iftrue (by simp [go_sem, g0, g5, g6, hi, e0, e1, e2, e3, e4, e5]) ?_
      refine xc_two fun N15 hN15 => ?_
      refine xc_reg2 fun K hK => ?_
      simp only [rall, rsl, gres]
      (refine seqX_hide2 fun R hR => ?_; simp [go_sem, g0, g5, g6, hi, e0, e1, e2, e3, e4, e5]; refine hR _ _ _ ?_; clear hR R)
      rw [seqX_nil]
      refine hK _ _ _ ?_; clear hK K
      refine hN15 _ _ _ ?_
      simp [go_sem, g0, g5, g6, hi, e0, e1, e2, e3, e4, e5]
      exact ⟨FB.no _, rfl⟩
    | false =>
    cases e6 : (s.toList == [116, 114, 117, 101]) with
    | true =>
      refine xc_iffalse (by simp [go_sem, g0, g5, g6, hi, e0, e1, e2, e3, e4, e5, e6]) ?_
      refine xc_two fun N10 hN10 => ?_
      refine xc_reg2 fun K hK => ?_
      simp only [rall, rsl, gres]
      iterate 2 (refine seqX_hide2 fun R hR => ?_; simp [go_sem, g0, g5, g6, hi, e0, e1, e2, e3, e4, e5, e6]; refine hR _ _ _ ?_; clear hR R)
      rw [seqX_nil]
      refine hK _ _ _ ?_; clear hK K
      refine hN10 _ _ _ ?_
      refine xc_iffalse (by simp [go_sem, g0, g5, g6, hi, e0, e1, e2, e3, e4, e5, e6]) ?_
      refine xc_two fun N11 hN11 => ?_
      refine xc_reg2 fun K hK => ?_
      simp only [rall, rsl, gres]
      iterate 2 (refine seqX_hide2 fun R hR => ?_; simp [go_sem, g0, g5, g6, hi, e0, e1, e2, e3, e4, e5, e6]; refine hR _ _ _ ?_; clear hR R)
      rw [seqX_nil]
      refine hK _ _ _ ?_; clear hK K
      refine hN11 _ _ _ ?_
      refine xc_iffalse (by simp [go_sem, g0, g5, g6, hi, e0, e1, e2, e3, e4, e5, e6]) ?_
      refine xc_two fun N12 hN12 => ?_
      refine xc_reg2 fun K hK => ?_
      simp only [rall, rsl, gres]
      iterate 2 (refine seqX_hide2 fun R hR => ?_; simp [go_sem, g0, g5, g6, hi, e0, e1, e2, e3, e4, e5, e6]; refine hR _ _ _ ?_; clear hR R)
      rw [seqX_nil]
      refine hK _ _ _ ?_; clear hK K
      refine hN12 _ _ _ ?_
      refine xc_iffalse (by simp [go_sem, g0, g5, g6, hi, e0, e1, e2, e3, e4, e5, e6]) ?_
      refine xc_two fun N13 hN13 => ?_
      refine xc_reg2 fun K hK => ?_
      simp only [rall, rsl, gres]
      iterate 2 (refine seqX_hide2 fun R hR => ?_; simp [go_sem, g0, g5, g6, hi, e0, e1, e2, e3, e4, e5, e6]; refine hR _ _ _ ?_; clear hR R)
      rw [seqX_nil]
      refine hK _ _ _ ?_; clear hK K
      refine hN13 _ _ _ ?_
      refine xc_iffalse (by simp [go_sem, g0, g5, g6, hi, e0, e1, e2, e3, e4, e5, e6]) ?_
      refine xc_two fun N14 hN14 => ?_
      refine xc_reg2 fun K hK => ?_
      simp only [rall, rsl, gres]
      iterate 2 (refine seqX_hide2 fun R hR => ?_; simp [go_sem, g0, g5, g6, hi, e0, e1, e2, e3, e4, e5, e6]; refine hR _ _ _ ?_; clear hR R)
      rw [seqX_nil]
      refine hK _ _ _ ?_; clear hK K
      refine hN14 _ _ _ ?_
      refine xc_iffalse (by simp [go_sem, g0, g5, g6, hi, e0, e1, e2, e3, e4, e5, e6]) ?_
      refine xc_two fun N15 hN15 => ?_
      refine xc_reg2 fun K hK => ?_
      simp only [rall, rsl, gres]
      iterate 2 (refine seqX_hide2 fun R hR => ?_; simp [go_sem, g0, g5, g6, hi, e0, e1, e2, e3, e4, e5, e6]; refine hR _ _ _ ?_; clear hR R)
      rw [seqX_nil]
      refine hK _ _ _ ?_; clear hK K
      refine hN15 _ _ _ ?_
      refine xc_iftrue (by simp [go_sem, g0, g5, g6, hi, e0, e1, e2, e3, e4, e5, e6]) ?_
      refine hN8 _ _ _ ?_
      refine xc_iftrue (by simp [go_sem, g0, g5, g6, hi, e0, e1, e2, e3, e4, e5, e6]) ?_
      refine xc_two fun N16 hN16 => ?_
      refine xc_reg2 fun K hK => ?_
      simp only [rall, rsl, gres]
      (refine seqX_hide2 fun R hR => ?_; simp [go_sem, g0, g5, g6, hi, e0, e1, e2, e3, e4, e5, e6]; refine hR _ _ _ ?_; clear hR R)
      rw [seqX_nil]
      refine hK _ _ _ ?_; clear hK K
      refine hN16 _ _ _ ?_
      simp [go_sem, g0, g5, g6, hi, e0, e1, e2, e3, e4, e5, e6]
      exact ⟨FB.no _, rfl⟩
    | false =>
    cases e7 : (s.toList == [102, 97, 108, 115, 101]) with
    | true =>
      refine xc_iffalse (by simp [go_sem, g0, g5, g6, hi, e0, e1, e2, e3, e4, e5, e6, e7]) ?_
      refine xc_two fun N10 hN10 => ?_
      refine xc_reg2 fun K hK => ?_
      simp only [rall, rsl, gres]
      iterate 2 (refine seqX_hide2 fun R hR => ?_; simp [go_sem, g0, g5, g6, hi, e0, e1, e2, e3, e4, e5, e6, e7]; refine hR _ _ _ ?_; clear hR R)
      rw [seqX_nil]
      refine hK _ _ _ ?_; clear hK K
      refine hN10 _ _ _ ?_
      refine xc_iffalse (by simp [go_sem, g0, g5, g6, hi, e0, e1, e2, e3, e4, e5, e6, e7]) ?_
      refine xc_two fun N11 hN11 => ?_
      refine xc_reg2 fun K hK => ?_
      simp only [rall, rsl, gres]
      iterate 2 (refine seqX_hide2 fun R hR => ?_; simp [go_sem, g0, g5, g6, hi, e0, e1, e2, e3, e4, e5, e6, e7]; refine hR _ _ _ ?_; clear hR R)
      rw [seqX_nil]
      refine hK _ _ _ ?_; clear hK K
      refine hN11 _ _ _ ?_
      refine xc_iffalse (by simp [go_sem, g0, g5, g6, hi, e0, e1, e2, e3, e4, e5, e6, e7]) ?_
      refine xc_two fun N12 hN12 => ?_
      refine xc_reg2 fun K hK => ?_
      simp only [rall, rsl, gres]
      iterate 2 (refine seqX_hide2 fun R hR => ?_; simp [go_sem, g0, g5, g6, hi, e0, e1, e2, e3, e4, e5, e6, e7]; refine hR _ _ _ ?_; clear hR R)
      rw [seqX_nil]
      refine hK _ _ _ ?_; clear hK K
      refine hN12 _ _ _ ?_
      refine xc_iffalse (by simp [go_sem, g0, g5, g6, hi, e0, e1, e2, e3, e4, e5, e6, e7]) ?_
      refine xc_two fun N13 hN13 => ?_
      refine xc_reg2 fun K hK => ?_
      simp only [rall, rsl, gres]
      iterate 2 (refine seqX_hide2 fun R hR => ?_; simp [go_sem, g0, g5, g6, hi, e0, e1, e2, e3, e4, e5, e6, e7]; refine hR _ _ _ ?_; clear hR R)
      rw [seqX_nil]
      refine hK _ _ _ ?_; clear hK K
      refine hN13 _ _ _ ?_
      refine xc_iffalse (by simp [go_sem, g0, g5, g6, hi, e0, e1, e2, e3, e4, e5, e6, e7]) ?_
      refine xc_two fun N14 hN14 => ?_
      refine xc_reg2 fun K hK => ?_
      simp only [rall, rsl, gres]
      iterate 2 (refine seqX_hide2 fun R hR => ?_; simp [go_sem, g0, g5, g6, hi, e0, e1, e2, e3, e4, e5, e6, e7]; refine hR _ _ _ ?_; clear hR R)
      rw [seqX_nil]
      refine hK _ _ _ ?_; clear hK K
      refine hN14 _ _ _ ?_
      refine xc_iffalse (by simp [go_sem, g0, g5, g6, hi, e0, e1, e2, e3, e4, e5, e6, e7]) ?_
      refine xc_two fun N15 hN15 => ?_
      refine xc_reg2 fun K hK => ?_
      simp only [rall, rsl, gres]
      iterate 2 (refine seqX_hide2 fun R hR => ?_; simp [go_sem, g0, g5, g6, hi, e0, e1, e2, e3, e4, e5, e6, e7]; refine hR _ _ _ ?_; clear hR R)
      rw [seqX_nil]
      refine hK _ _ _ ?_; clear hK K
      refine hN15 _ _ _ ?_
      refine xc_iffalse (by simp [go_sem, g0, g5, g6, hi, e0, e1, e2, e3, e4, e5, e6, e7]) ?_
      refine xc_two fun N16 hN16 => ?_
      refine xc_reg2 fun K hK => ?_
      simp only [rall, rsl, gres]
      iterate 2 (refine seqX_hide2 fun R hR => ?_; simp [go_sem, g0, g5, g6, hi, e0, e1, e2, e3, e4, e5, e6, e7]; refine hR _ _ _ ?_; clear hR R)
      rw [seqX_nil]
      refine hK _ _ _ ?_; clear hK K
      refine hN16 _ _ _ ?_
      refine xc_iftrue (by simp [go_sem, g0, g5, g6, hi, e0, e1, e2, e3, e4, e5, e6, e7]) ?_
      refine hN8 _ _ _ ?_
      refine xc_iftrue (by simp [go_sem, g0, g5, g6, hi, e0, e1, e2, e3, e4, e5, e6, e7]) ?_
      refine xc_two fun N17 hN17 => ?_
      refine xc_reg2 fun K hK => ?_
      simp only [rall, rsl, gres]
      (refine seqX_hide2 fun R hR => ?_; simp [go_sem, g0, g5, g6, hi, e0, e1, e2, e3, e4, e5, e6, e7]; refine hR _ _ _ ?_; clear hR R)
      rw [seqX_nil]
      refine hK _ _ _ ?_; clear hK K
      refine hN17 _ _ _ ?_
      simp [go_sem, g0, g5, g6, hi, e0, e1, e2, e3, e4, e5, e6, e7]
      exact ⟨FB.no _, rfl⟩
    | false =>
    cases e8 : (s.toList == [110, 117, 108, 108]) with
    | true =>
      refine xc_iffalse (by simp [go_sem, g0, g5, g6, hi, e0, e1, e2, e3, e4, e5, e6, e7, e8]) ?_
      refine xc_two fun N10 hN10 => ?_
      refine xc_reg2 fun K hK => ?_
      simp only [rall, rsl, gres]
      iterate 2 (refine seqX_hide2 fun R hR => ?_; simp [go_sem, g0, g5, g6, hi, e0, e1, e2, e3, e4, e5, e6, e7, e8]; refine hR _ _ _ ?_; clear hR R)
      rw [seqX_nil]
      refine hK _ _ _ ?_; clear hK K
      refine hN10 _ _ _ ?_
      refine xc_iffalse (by simp [go_sem, g0, g5, g6, hi, e0, e1, e2, e3, e4, e5, e6, e7, e8]) ?_
      refine xc_two fun N11 hN11 => ?_
      refine xc_reg2 fun K hK => ?_
      simp only [rall, rsl, gres]
      iterate 2 (refine seqX_hide2 fun R hR => ?_; simp [go_sem, g0, g5, g6, hi, e0, e1, e2, e3, e4, e5, e6, e7, e8]; refine hR _ _ _ ?_; clear hR R)
      rw [seqX_nil]
      refine hK _ _ _ ?_; clear hK K
      refine hN11 _ _ _ ?_
      refine xc_iffalse (by simp [go_sem, g0, g5, g6, hi, e0, e1, e2, e3, e4, e5, e6, e7, e8]) ?_
      refine xc_two fun N12 hN12 => ?_
      refine xc_reg2 fun K hK => ?_
      simp only [rall, rsl, gres]
      iterate 2 (refine seqX_hide2 fun R hR => ?_; simp [go_sem, g0, g5, g6, hi, e0, e1, e2, e3, e4, e5, e6, e7, e8]; refine hR _ _ _ ?_; clear hR R)
      rw [seqX_nil]
      refine hK _ _ _ ?_; clear hK K
      refine hN12 _ _ _ ?_
      refine xc_iffalse (by simp [go_sem, g0, g5, g6, hi, e0, e1, e2, e3, e4, e5, e6, e7, e8]) ?_
      refine xc_two fun N13 hN13 => ?_
      refine xc_reg2 fun K hK => ?_
      simp only [rall, rsl, gres]
      iterate 2 (refine seqX_hide2 fun R hR => ?_; simp [go_sem, g0, g5, g6, hi, e0, e1, e2, e3, e4, e5, e6, e7, e8]; refine hR _ _ _ ?_; clear hR R)
      rw [seqX_nil]
      refine hK _ _ _ ?_; clear hK K
      refine hN13 _ _ _ ?_
      refine xc_iffalse (by simp [go_sem, g0, g5, g6, hi, e0, e1, e2, e3, e4, e5, e6, e7, e8]) ?_
      refine xc_two fun N14 hN14 => ?_
      refine xc_reg2 fun K hK => ?_
      simp only [rall, rsl, gres]
      iterate 2 (refine seqX_hide2 fun R hR => ?_; simp [go_sem, g0, g5, g6, hi, e0, e1, e2, e3, e4, e5, e6, e7, e8]; refine hR _ _ _ ?_; clear hR R)
      rw [seqX_nil]
      refine hK _ _ _ ?_; clear hK K
      refine hN14 _ _ _ ?_
      refine xc_iffalse (by simp [go_sem, g0, g5, g6, hi, e0, e1, e2, e3, e4, e5, e6, e7, e8]) ?_
      refine xc_two fun N15 hN15 => ?_
      refine xc_reg2 fun K hK => ?_
      simp only [rall, rsl, gres]
      iterate 2 (refine seqX_hide2 fun R hR => ?_; simp [go_sem, g0, g5, g6, hi, e0, e1, e2, e3, e4, e5, e6, e7, e8]; refine hR _ _ _ ?_; clear hR R)
      rw [seqX_nil]
      refine hK _ _ _ ?_; clear hK K
      refine hN15 _ _ _ ?_
      refine xc_iffalse (by simp [go_sem, g0, g5, g6, hi, e0, e1, e2, e3, e4, e5, e6, e7, e8]) ?_
      refine xc_two fun N16 hN16 => ?_
      refine xc_reg2 fun K hK => ?_
      simp only [rall, rsl, gres]
      iterate 2 (refine seqX_hide2 fun R hR => ?_; simp [go_sem, g0, g5, g6, hi, e0, e1, e2, e3, e4, e5, e6, e7, e8]; refine hR _ _ _ ?_; clear hR R)
      rw [seqX_nil]
      refine hK _ _ _ ?_; clear hK K
      refine hN16 _ _ _ ?_
      refine xc_iffalse (by simp [go_sem, g0, g5, g6, hi, e0, e1, e2, e3, e4, e5, e6, e7, e8]) ?_
      refine xc_reg2 fun K hK => ?_
      simp only [rall, rsl, gres]
      iterate 2 (refine seqX_hide2 fun R hR => ?_; simp [go_sem, g0, g5, g6, hi, e0, e1, e2, e3, e4, e5, e6, e7, e8]; refine hR _ _ _ ?_; clear hR R)
      rw [seqX_nil]
      refine hK _ _ _ ?_; clear hK K
      refine hN8 _ _ _ ?_
      refine xc_iftrue (by simp [go_sem, g0, g5, g6, hi, e0, e1, e2, e3, e4, e5, e6, e7, e8]) ?_
      refine xc_two fun N17 hN17 => ?_
      refine xc_reg2 fun K hK => ?_
      simp only [rall, rsl, gres]
      (refine seqX_hide2 fun R hR => ?_; simp [go_sem, g0, g5, g6, hi, e0, e1, e2, e3, e4, e5, e6, e7, e8]; refine hR _ _ _ ?_; clear hR R)
      rw [seqX_nil]
      refine hK _ _ _ ?_; clear hK K
      refine hN17 _ _ _ ?_
      simp [go_sem, g0, g5, g6, hi, e0, e1, e2, e3, e4, e5, e6, e7, e8]
      exact ⟨FB.no _, rfl⟩
    | false =>
    cases em : s.toList.isEmpty with
    | true =>
      refine xc_iffalse (by simp [go_sem, g0, g5, g6, hi, e0, e1, e2, e3, e4, e5, e6, e7, e8, em]) ?_
      refine xc_two fun N10 hN10 => ?_
      refine xc_reg2 fun K hK => ?_
      simp only [rall, rsl, gres]
      iterate 2 (refine seqX_hide2 fun R hR => ?_; simp [go_sem, g0, g5, g6, hi, e0, e1, e2, e3, e4, e5, e6, e7, e8, em]; refine hR _ _ _ ?_; clear hR R)
      rw [seqX_nil]
      refine hK _ _ _ ?_; clear hK K
      refine hN10 _ _ _ ?_
      refine xc_iffalse (by simp [go_sem, g0, g5, g6, hi, e0, e1, e2, e3, e4, e5, e6, e7, e8, em]) ?_
      refine xc_two fun N11 hN11 => ?_
      refine xc_reg2 fun K hK => ?_
      simp only [rall, rsl, gres]
      iterate 2 (refine seqX_hide2 fun R hR => ?_; simp [go_sem, g0, g5, g6, hi, e0, e1, e2, e3, e4, e5, e6, e7, e8, em]; refine hR _ _ _ ?_; clear hR R)
      rw [seqX_nil]
      refine hK _ _ _ ?_; clear hK K
      refine hN11 _ _ _ ?_
      refine xc_iffalse (by simp [go_sem, g0, g5, g6, hi, e0, e1, e2, e3, e4, e5, e6, e7, e8, em]) ?_
      refine xc_two fun N12 hN12 => ?_
      refine xc_reg2 fun K hK => ?_
      simp only [rall, rsl, gres]
      iterate 2 (refine seqX_hide2 fun R hR => ?_; simp [go_sem, g0, g5, g6, hi, e0, e1, e2, e3, e4, e5, e6, e7, e8, em]; refine hR _ _ _ ?_; clear hR R)
      rw [seqX_nil]
      refine hK _ _ _ ?_; clear hK K
      refine hN12 _ _ _ ?_
      refine xc_iffalse (by simp [go_sem, g0, g5, g6, hi, e0, e1, e2, e3, e4, e5, e6, e7, e8, em]) ?_
      refine xc_two fun N13 hN13 => ?_
      refine xc_reg2 fun K hK => ?_
      simp only [rall, rsl, gres]
      iterate 2 (refine seqX_hide2 fun R hR => ?_; simp [go_sem, g0, g5, g6, hi, e0, e1, e2, e3, e4, e5, e6, e7, e8, em]; refine hR _ _ _ ?_; clear hR R)
      rw [seqX_nil]
      refine hK _ _ _ ?_; clear hK K
      refine hN13 _ _ _ ?_
      refine xc_iffalse (by simp [go_sem, g0, g5, g6, hi, e0, e1, e2, e3, e4, e5, e6, e7, e8, em]) ?_
      refine xc_two fun N14 hN14 => ?_
      refine xc_reg2 fun K hK => ?_
      simp only [rall, rsl, gres]
      iterate 2 (refine seqX_hide2 fun R hR => ?_; simp [go_sem, g0, g5, g6, hi, e0, e1, e2, e3, e4, e5, e6, e7, e8, em]; refine hR _ _ _ ?_; clear hR R)
      rw [seqX_nil]
      refine hK _ _ _ ?_; clear hK K
      refine hN14 _ _ _ ?_
      refine xc_iffalse (by simp [go_sem, g0, g5, g6, hi, e0, e1, e2, e3, e4, e5, e6, e7, e8, em]) ?_
      refine xc_two fun N15 hN15 => ?_
      refine xc_reg2 fun K hK => ?_
      simp only [rall, rsl, gres]
      iterate 2 (refine seqX_hide2 fun R hR => ?_; simp [go_sem, g0, g5, g6, hi, e0, e1, e2, e3, e4, e5, e6, e7, e8, em]; refine hR _ _ _ ?_; clear hR R)
      rw [seqX_nil]
      refine hK _ _ _ ?_; clear hK K
      refine hN15 _ _ _ ?_
      refine xc_iffalse (by simp [go_sem, g0, g5, g6, hi, e0, e1, e2, e3, e4, e5, e6, e7, e8, em]) ?_
      refine xc_two fun N16 hN16 => ?_
      refine xc_reg2 fun K hK => ?_
      simp only [rall, rsl, gres]
      iterate 2 (refine seqX_hide2 fun R hR => ?_; simp [go_sem, g0, g5, g6, hi, e0, e1, e2, e3, e4, e5, e6, e7, e8, em]; refine hR _ _ _ ?_; clear hR R)
      rw [seqX_nil]
      refine hK _ _ _ ?_; clear hK K
      refine hN16 _ _ _ ?_
      refine xc_iffalse (by simp [go_sem, g0, g5, g6, hi, e0, e1, e2, e3, e4, e5, e6, e7, e8, em]) ?_
      refine xc_reg2 fun K hK => ?_
      simp only [rall, rsl, gres]
      iterate 2 (refine seqX_hide2 fun R hR => ?_; simp [go_sem, g0, g5, g6, hi, e0, e1, e2, e3, e4, e5, e6, e7, e8, em]; refine hR _ _ _ ?_; clear hR R)
      rw [seqX_nil]
      refine hK _ _ _ ?_; clear hK K
      refine hN8 _ _ _ ?_
      refine xc_iffalse (by simp [go_sem, g0, g5, g6, hi, e0, e1, e2, e3, e4, e5, e6, e7, e8, em]) ?_
      refine hN6 _ _ _ ?_
      refine xc_two fun N17 hN17 => ?_
      refine xc_reg2 fun K hK => ?_
      simp only [rall, rsl, gres]
      iterate 8 (refine seqX_hide2 fun R hR => ?_; simp [go_sem, g0, g5, g6, hi, e0, e1, e2, e3, e4, e5, e6, e7, e8, em]; refine hR _ _ _ ?_; clear hR R)
      rw [seqX_nil]
      refine hK _ _ _ ?_; clear hK K
      refine hN17 _ _ _ ?_
      simp [go_sem, g0, g5, g6, hi, e0, e1, e2, e3, e4, e5, e6, e7, e8, em]
      exact ⟨FB.no _, rfl⟩
    | false =>
    by_cases h20 : s.size ≤ 20
    · have h20i : (s.size : Int) ≤ 20 := by omega
      refine xc_iffalse (by simp [go_sem, g0, g5, g6, hi, e0, e1, e2, e3, e4, e5, e6, e7, e8, em, h20, h20i]) ?_
      refine xc_two fun N10 hN10 => ?_
      refine xc_reg2 fun K hK => ?_
      simp only [rall, rsl, gres]
      iterate 2 (refine seqX_hide2 fun R hR => ?_; simp [go_sem, g0, g5, g6, hi, e0, e1, e2, e3, e4, e5, e6, e7, e8, em, h20, h20i]; refine hR _ _ _ ?_; clear hR R)
      rw [seqX_nil]
      refine hK _ _ _ ?_; clear hK K
      refine hN10 _ _ _ ?_
      refine xc_iffalse (by simp [go_sem, g0, g5, g6, hi, e0, e1, e2, e3, e4, e5, e6, e7, e8, em, h20, h20i]) ?_
      refine xc_two fun N11 hN11 => ?_
      refine xc_reg2 fun K hK => ?_
      simp only [rall, rsl, gres]
      iterate 2 (refine seqX_hide2 fun R hR => ?_; simp [go_sem, g0, g5, g6, hi, e0, e1, e2, e3, e4, e5, e6, e7, e8, em, h20, h20i]; refine hR _ _ _ ?_; clear hR R)
      rw [seqX_nil]
      refine hK _ _ _ ?_; clear hK K
      refine hN11 _ _ _ ?_
      refine xc_iffalse (by simp [go_sem, g0, g5, g6, hi, e0, e1, e2, e3, e4, e5, e6, e7, e8, em, h20, h20i]) ?_
      refine xc_two fun N12 hN12 => ?_
      refine xc_reg2 fun K hK => ?_
      simp only [rall, rsl, gres]
      iterate 2 (refine seqX_hide2 fun R hR => ?_; simp [go_sem, g0, g5, g6, hi, e0, e1, e2, e3, e4, e5, e6, e7, e8, em, h20, h20i]; refine hR _ _ _ ?_; clear hR R)
      rw [seqX_nil]
      refine hK _ _ _ ?_; clear hK K
      refine hN12 _ _ _ ?_
      refine xc_iffalse (by simp [go_sem, g0, g5, g6, hi, e0, e1, e2, e3, e4, e5, e6, e7, e8, em, h20, h20i]) ?_
      refine xc_two fun N13 hN13 => ?_
      refine xc_reg2 fun K hK => ?_
      simp only [rall, rsl, gres]
      iterate 2 (refine seqX_hide2 fun R hR => ?_; simp [go_sem, g0, g5, g6, hi, e0, e1, e2, e3, e4, e5, e6, e7, e8, em, h20, h20i]; refine hR _ _ _ ?_; clear hR R)
      rw [seqX_nil]
      refine hK _ _ _ ?_; clear hK K
      refine hN13 _ _ _ ?_
      refine xc_iffalse (by simp [go_sem, g0, g5, g6, hi, e0, e1, e2, e3, e4, e5, e6, e7, e8, em, h20, h20i]) ?_
      refine xc_two fun N14 hN14 => ?_
      refine xc_reg2 fun K hK => ?_
      simp only [rall, rsl, gres]
      iterate 2 (refine seqX_hide2 fun R hR => ?_; simp [go_sem, g0, g5, g6, hi, e0, e1, e2, e3, e4, e5, e6, e7, e8, em, h20, h20i]; refine hR _ _ _ ?_; clear hR R)
      rw [seqX_nil]
      refine hK _ _ _ ?_; clear hK K
      refine hN14 _ _ _ ?_
      refine xc_iffalse (by simp [go_sem, g0, g5, g6, hi, e0, e1, e2, e3, e4, e5, e6, e7, e8, em, h20, h20i]) ?_
      refine xc_two fun N15 hN15 => ?_
      refine xc_reg2 fun K hK => ?_
      simp only [rall, rsl, gres]
      iterate 2 (refine seqX_hide2 fun R hR => ?_; simp [go_sem, g0, g5, g6, hi, e0, e1, e2, e3, e4, e5, e6, e7, e8, em, h20, h20i]; refine hR _ _ _ ?_; clear hR R)
      rw [seqX_nil]
      refine hK _ _ _ ?_; clear hK K
      refine hN15 _ _ _ ?_
      refine xc_iffalse (by simp [go_sem, g0, g5, g6, hi, e0, e1, e2, e3, e4, e5, e6, e7, e8, em, h20, h20i]) ?_
      refine xc_two fun N16 hN16 => ?_
      refine xc_reg2 fun K hK => ?_
      simp only [rall, rsl, gres]
      iterate 2 (refine seqX_hide2 fun R hR => ?_; simp [go_sem, g0, g5, g6, hi, e0, e1, e2, e3, e4, e5, e6, e7, e8, em, h20, h20i]; refine hR _ _ _ ?_; clear hR R)
      rw [seqX_nil]
      refine hK _ _ _ ?_; clear hK K
      refine hN16 _ _ _ ?_
      refine xc_iffalse (by simp [go_sem, g0, g5, g6, hi, e0, e1, e2, e3, e4, e5, e6, e7, e8, em, h20, h20i]) ?_
      refine xc_reg2 fun K hK => ?_
      simp only [rall, rsl, gres]
      iterate 2 (refine seqX_hide2 fun R hR => ?_; simp [go_sem, g0, g5, g6, hi, e0, e1, e2, e3, e4, e5, e6, e7, e8, em, h20, h20i]; refine hR _ _ _ ?_; clear hR R)
      rw [seqX_nil]
      refine hK _ _ _ ?_; clear hK K
      refine hN8 _ _ _ ?_
      refine xc_iffalse (by simp [go_sem, g0, g5, g6, hi, e0, e1, e2, e3, e4, e5, e6, e7, e8, em, h20, h20i]) ?_
      refine hN6 _ _ _ ?_
      refine xc_two fun N17 hN17 => ?_
      refine xc_reg2 fun K hK => ?_
      simp only [rall, rsl, gres]
      iterate 8 (refine seqX_hide2 fun R hR => ?_; simp [go_sem, g0, g5, g6, hi, e0, e1, e2, e3, e4, e5, e6, e7, e8, em, h20, h20i]; refine hR _ _ _ ?_; clear hR R)
      rw [seqX_nil]
      refine hK _ _ _ ?_; clear hK K
      refine hN17 _ _ _ ?_
      simp [go_sem, g0, g5, g6, hi, e0, e1, e2, e3, e4, e5, e6, e7, e8, em, h20, h20i]
      exact ⟨FB.yes ⟨emp_ne em, h20, hall⟩, rfl⟩
    · have h20i : ¬ (s.size : Int) ≤ 20 := by omega
      refine xc_iffalse (by simp [go_sem, g0, g5, g6, hi, e0, e1, e2, e3, e4, e5, e6, e7, e8, em, h20, h20i]) ?_
      refine xc_two fun N10 hN10 => ?_
      refine xc_reg2 fun K hK => ?_
      simp only [rall, rsl, gres]
      iterate 2 (refine seqX_hide2 fun R hR => ?_; simp [go_sem, g0, g5, g6, hi, e0, e1, e2, e3, e4, e5, e6, e7, e8, em, h20, h20i]; refine hR _ _ _ ?_; clear hR R)
      rw [seqX_nil]
      refine hK _ _ _ ?_; clear hK K
      refine hN10 _ _ _ ?_
      refine xc_iffalse (by simp [go_sem, g0, g5, g6, hi, e0, e1, e2, e3, e4, e5, e6, e7, e8, em, h20, h20i]) ?_
      refine xc_two fun N11 hN11 => ?_
      refine xc_reg2 fun K hK => ?_
      simp only [rall, rsl, gres]
      iterate 2 (refine seqX_hide2 fun R hR => ?_; simp [go_sem, g0, g5, g6, hi, e0, e1, e2, e3, e4, e5, e6, e7, e8, em, h20, h20i]; refine hR _ _ _ ?_; clear hR R)
      rw [seqX_nil]
      refine hK _ _ _ ?_; clear hK K
      refine hN11 _ _ _ ?_
      refine xc_iffalse (by simp [go_sem, g0, g5, g6, hi, e0, e1, e2, e3, e4, e5, e6, e7, e8, em, h20, h20i]) ?_
      refine xc_two fun N12 hN12 => ?_
      refine xc_reg2 fun K hK => ?_
      simp only [rall, rsl, gres]
      iterate 2 (refine seqX_hide2 fun R hR => ?_; simp [go_sem, g0, g5, g6, hi, e0, e1, e2, e3, e4, e5, e6, e7, e8, em, h20, h20i]; refine hR _ _ _ ?_; clear hR R)
      rw [seqX_nil]
      refine hK _ _ _ ?_; clear hK K
      refine hN12 _ _ _ ?_
      refine xc_iffalse (by simp [go_sem, g0, g5, g6, hi, e0, e1, e2, e3, e4, e5, e6, e7, e8, em, h20, h20i]) ?_
      refine xc_two fun N13 hN13 => ?_
      refine xc_reg2 fun K hK => ?_
      simp only [rall, rsl, gres]
      iterate 2 (refine seqX_hide2 fun R hR => ?_; simp [go_sem, g0, g5, g6, hi, e0, e1, e2, e3, e4, e5, e6, e7, e8, em, h20, h20i]; refine hR _ _ _ ?_; clear hR R)
      rw [seqX_nil]
      refine hK _ _ _ ?_; clear hK K
      refine hN13 _ _ _ ?_
      refine xc_iffalse (by simp [go_sem, g0, g5, g6, hi, e0, e1, e2, e3, e4, e5, e6, e7, e8, em, h20, h20i]) ?_
      refine xc_two fun N14 hN14 => ?_
      refine xc_reg2 fun K hK => ?_
      simp only [rall, rsl, gres]
      iterate 2 (refine seqX_hide2 fun R hR => ?_; simp [go_sem, g0, g5, g6, hi, e0, e1, e2, e3, e4, e5, e6, e7, e8, em, h20, h20i]; refine hR _ _ _ ?_; clear hR R)
      rw [seqX_nil]
      refine hK _ _ _ ?_; clear hK K
      refine hN14 _ _ _ ?_
      refine xc_iffalse (by simp [go_sem, g0, g5, g6, hi, e0, e1, e2, e3, e4, e5, e6, e7, e8, em, h20, h20i]) ?_
      refine xc_two fun N15 hN15 => ?_
      refine xc_reg2 fun K hK => ?_
      simp only [rall, rsl, gres]
      iterate 2 (refine seqX_hide2 fun R hR => ?_; simp [go_sem, g0, g5, g6, hi, e0, e1, e2, e3, e4, e5, e6, e7, e8, em, h20, h20i]; refine hR _ _ _ ?_; clear hR R)
      rw [seqX_nil]
      refine hK _ _ _ ?_; clear hK K
      refine hN15 _ _ _ ?_
      refine xc_iffalse (by simp [go_sem, g0, g5, g6, hi, e0, e1, e2, e3, e4, e5, e6, e7, e8, em, h20, h20i]) ?_
      refine xc_two fun N16 hN16 => ?_
      refine xc_reg2 fun K hK => ?_
      simp only [rall, rsl, gres]
      iterate 2 (refine seqX_hide2 fun R hR => ?_; simp [go_sem, g0, g5, g6, hi, e0, e1, e2, e3, e4, e5, e6, e7, e8, em, h20, h20i]; refine hR _ _ _ ?_; clear hR R)
      rw [seqX_nil]
      refine hK _ _ _ ?_; clear hK K
      refine hN16 _ _ _ ?_
      refine xc_iffalse (by simp [go_sem, g0, g5, g6, hi, e0, e1, e2, e3, e4, e5, e6, e7, e8, em, h20, h20i]) ?_
      refine xc_reg2 fun K hK => ?_
      simp only [rall, rsl, gres]
      iterate 2 (refine seqX_hide2 fun R hR => ?_; simp [go_sem, g0, g5, g6, hi, e0, e1, e2, e3, e4, e5, e6, e7, e8, em, h20, h20i]; refine hR _ _ _ ?_; clear hR R)
      rw [seqX_nil]
      refine hK _ _ _ ?_; clear hK K
      refine hN8 _ _ _ ?_
      refine xc_iffalse (by simp [go_sem, g0, g5, g6, hi, e0, e1, e2, e3, e4, e5, e6, e7, e8, em, h20, h20i]) ?_
      refine hN6 _ _ _ ?_
      refine xc_two fun N17 hN17 => ?_
      refine xc_reg2 fun K hK => ?_
      simp only [rall, rsl, gres]
      iterate 8 (refine seqX_hide2 fun R hR => ?_; simp [go_sem, g0, g5, g6, hi, e0, e1, e2, e3, e4, e5, e6, e7, e8, em, h20, h20i]; refine hR _ _ _ ?_; clear hR R)
      rw [seqX_nil]
      refine hK _ _ _ ?_; clear hK K
      refine hN17 _ _ _ ?_
      simp [go_sem, g0, g5, g6, hi, e0, e1, e2, e3, e4, e5, e6, e7, e8, em, h20, h20i]
      exact ⟨FB.no _, rfl⟩
set_option maxRecDepth 20000 in
set_option maxHeartbeats 4000000 in
theorem digits (A : View) (s : ByteArray) (hs : s.size ≤ 1125899906842624) : VCalls Try.prog 71 #[.string s] A fun r A' => FB (Dg s) r ∧ A' = A := by
  refine xcalls Try.func71 rfl (by simp [Try.ntmps71]) ?_
  simp only [Try.f71]
  have hP : Priv A (addrs []) := Priv.nil A
  show xc _ _ _ _ _ _ (ov A [])
  refine xc_two fun N1 hN1 => ?_
  refine xc_reg2 fun K hK => ?_
  simp only [rall, rsl, gres]
  (refine seqX_hide2 fun R hR => ?_; simp [go_sem]; refine hR _ _ _ ?_; clear hR R)
  rw [seqX_nil]
  refine hK _ _ _ ?_; clear hK K
  refine hN1 _ _ _ ?_
  refine xc_two fun N2 hN2 => ?_
  refine xc_two fun N3 hN3 => ?_
  refine xc_reg2 fun K hK => ?_
  simp only [rall, rsl, gres]
  iterate 3 (refine seqX_hide2 fun R hR => ?_; simp [go_sem]; refine hR _ _ _ ?_; clear hR R)
  rw [seqX_nil]
  refine hK _ _ _ ?_; clear hK K
  refine hN3 _ _ _ ?_
  rw [xc_block]
  rw [xc_loop]
  refine vloopK (fun k' e ds A' => ∃ (i : Nat), k' = s.size - i ∧ ds = [] ∧ A' = ov A [] ∧ Priv A [] ∧ e 0 = .string s ∧ e 5 = .int .i64 s.size ∧ e 6 = .int .i64 i ∧ (i ≤ s.size) ∧ (∀ j (h : j < s.size), j < i → 48 ≤ s[j].toNat ∧ s[j].toNat ≤ 57)) _ ⟨0, rfl, rfl, rfl, hP, by simp [go_sem], by simp [go_sem], by simp [go_sem], by omega, fun j h hj => by omega⟩ ?_
  clear hP
  rintro k' e ds A' ⟨i, rfl, rfl, hV, hP, g0, g5, g6, hil, hA⟩ J1 X1 hJ1 hX1
  refine xc_sound _ ?_
  replace hV := Eq.symm hV; subst hV; replace hP : Priv A (addrs []) := hP
  have hw1 := wrap_nat (i := i) (by omega)
  by_cases hi : i < s.size
  · have hg : s[i]? = some s[i] := getElem?_pos s i hi
    by_cases h1 : s[i].toNat < 48
    · have h1i : (s[i].toNat : Int) < 48 := by omega
      refine xc_two fun N4 hN4 => ?_
      refine xc_reg2 fun K hK => ?_
      simp only [rall, rsl, gres]
      (refine seqX_hide2 fun R hR => ?_; simp [go_sem, g0, g5, g6, hi, hg, hw1, xindex, h1, h1i]; refine hR _ _ _ ?_; clear hR R)
      rw [seqX_nil]
      refine hK _ _ _ ?_; clear hK K
      refine hN4 _ _ _ ?_
      refine xc_two fun N5 hN5 => ?_
      refine xc_iftrue (by simp [go_sem, g0, g5, g6, hi, hg, hw1, xindex, h1, h1i]) ?_
      refine hN5 _ _ _ ?_
      refine xc_two fun N6 hN6 => ?_
      rw [xc_block]
      refine xc_two fun N7 hN7 => ?_
      refine xc_reg2 fun K hK => ?_
      simp only [rall, rsl, gres]
      iterate 2 (refine seqX_hide2 fun R hR => ?_; simp [go_sem, g0, g5, g6, hi, hg, hw1, xindex, h1, h1i]; refine hR _ _ _ ?_; clear hR R)
      rw [seqX_nil]
      refine hK _ _ _ ?_; clear hK K
      refine hN7 _ _ _ ?_
      refine xc_two fun N8 hN8 => ?_
      refine xc_reg2 fun K hK => ?_
      simp only [rall, rsl, gres]
      iterate 10 (refine seqX_hide2 fun R hR => ?_; simp [go_sem, g0, g5, g6, hi, hg, hw1, xindex, h1, h1i]; refine hR _ _ _ ?_; clear hR R)
      rw [seqX_nil]
      refine hK _ _ _ ?_; clear hK K
      refine hN8 _ _ _ ?_
      refine xc_iftrue (by simp [go_sem, g0, g5, g6, hi, hg, hw1, xindex, h1, h1i]) ?_
      refine xc_two fun N9 hN9 => ?_
      refine xc_reg2 fun K hK => ?_
      simp only [rall, rsl, gres]
      (refine seqX_hide2 fun R hR => ?_; simp [go_sem, g0, g5, g6, hi, hg, hw1, xindex, h1, h1i]; refine hR _ _ _ ?_; clear hR R)
      rw [seqX_nil]
      refine hK _ _ _ ?_; clear hK K
      refine hN9 _ _ _ ?_
      refine hX1 _ _ _ _ ?_
      simp [go_sem, g0, g5, g6, hi, hg, hw1, xindex, h1, h1i]
      exact ⟨FB.no _, rfl⟩
    have h1i : ¬ (s[i].toNat : Int) < 48 := by omega
    by_cases h2 : 57 < s[i].toNat
    · have h2i : (57 : Int) < s[i].toNat := by omega
      refine xc_two fun N4 hN4 => ?_
      refine xc_reg2 fun K hK => ?_
      simp only [rall, rsl, gres]
      (refine seqX_hide2 fun R hR => ?_; simp [go_sem, g0, g5, g6, hi, hg, hw1, xindex, h1, h1i, h2, h2i]; refine hR _ _ _ ?_; clear hR R)
      rw [seqX_nil]
      refine hK _ _ _ ?_; clear hK K
      refine hN4 _ _ _ ?_
      refine xc_two fun N5 hN5 => ?_
      refine xc_iftrue (by simp [go_sem, g0, g5, g6, hi, hg, hw1, xindex, h1, h1i, h2, h2i]) ?_
      refine hN5 _ _ _ ?_
      refine xc_two fun N6 hN6 => ?_
      rw [xc_block]
      refine xc_two fun N7 hN7 => ?_
      refine xc_reg2 fun K hK => ?_
      simp only [rall, rsl, gres]
      iterate 2 (refine seqX_hide2 fun R hR => ?_; simp [go_sem, g0, g5, g6, hi, hg, hw1, xindex, h1, h1i, h2, h2i]; refine hR _ _ _ ?_; clear hR R)
      rw [seqX_nil]
      refine hK _ _ _ ?_; clear hK K
      refine hN7 _ _ _ ?_
      refine xc_two fun N8 hN8 => ?_
      refine xc_reg2 fun K hK => ?_
      simp only [rall, rsl, gres]
      iterate 10 (refine seqX_hide2 fun R hR => ?_; simp [go_sem, g0, g5, g6, hi, hg, hw1, xindex, h1, h1i, h2, h2i]; refine hR _ _ _ ?_; clear hR R)
      rw [seqX_nil]
      refine hK _ _ _ ?_; clear hK K
      refine hN8 _ _ _ ?_
      refine xc_iftrue (by simp [go_sem, g0, g5, g6, hi, hg, hw1, xindex, h1, h1i, h2, h2i]) ?_
      refine xc_two fun N9 hN9 => ?_
      refine xc_reg2 fun K hK => ?_
      simp only [rall, rsl, gres]
      (refine seqX_hide2 fun R hR => ?_; simp [go_sem, g0, g5, g6, hi, hg, hw1, xindex, h1, h1i, h2, h2i]; refine hR _ _ _ ?_; clear hR R)
      rw [seqX_nil]
      refine hK _ _ _ ?_; clear hK K
      refine hN9 _ _ _ ?_
      refine hX1 _ _ _ _ ?_
      simp [go_sem, g0, g5, g6, hi, hg, hw1, xindex, h1, h1i, h2, h2i]
      exact ⟨FB.no _, rfl⟩
    have h2i : ¬ (57 : Int) < s[i].toNat := by omega
    refine xc_two fun N4 hN4 => ?_
    refine xc_reg2 fun K hK => ?_
    simp only [rall, rsl, gres]
    (refine seqX_hide2 fun R hR => ?_; simp [go_sem, g0, g5, g6, hi, hg, hw1, xindex, h1, h1i, h2, h2i]; refine hR _ _ _ ?_; clear hR R)
    rw [seqX_nil]
    refine hK _ _ _ ?_; clear hK K
    refine hN4 _ _ _ ?_
    refine xc_two fun N5 hN5 => ?_
    refine xc_iftrue (by simp [go_sem, g0, g5, g6, hi, hg, hw1, xindex, h1, h1i, h2, h2i]) ?_
    refine hN5 _ _ _ ?_
    refine xc_two fun N6 hN6 => ?_
    rw [xc_block]
    refine xc_two fun N7 hN7 => ?_
    refine xc_reg2 fun K hK => ?_
    simp only [rall, rsl, gres]
    iterate 2 (refine seqX_hide2 fun R hR => ?_; simp [go_sem, g0, g5, g6, hi, hg, hw1, xindex, h1, h1i, h2, h2i]; refine hR _ _ _ ?_; clear hR R)
    rw [seqX_nil]
    refine hK _ _ _ ?_; clear hK K
    refine hN7 _ _ _ ?_
    refine xc_two fun N8 hN8 => ?_
    refine xc_reg2 fun K hK => ?_
    simp only [rall, rsl, gres]
    iterate 10 (refine seqX_hide2 fun R hR => ?_; simp [go_sem, g0, g5, g6, hi, hg, hw1, xindex, h1, h1i, h2, h2i]; refine hR _ _ _ ?_; clear hR R)
    rw [seqX_nil]
    refine hK _ _ _ ?_; clear hK K
    refine hN8 _ _ _ ?_
    refine xc_iffalse (by simp [go_sem, g0, g5, g6, hi, hg, hw1, xindex, h1, h1i, h2, h2i]) ?_
    refine hN6 _ _ _ ?_
    refine xc_reg2 fun K hK => ?_
    simp only [rall, rsl, gres]
    iterate 2 (refine seqX_hide2 fun R hR => ?_; simp [go_sem, g0, g5, g6, hi, hg, hw1, xindex, h1, h1i, h2, h2i]; refine hR _ _ _ ?_; clear hR R)
    rw [seqX_nil]
    refine hK _ _ _ ?_; clear hK K
    refine hJ1 (s.size - (i + 1)) _ _ _ (by omega) ⟨i + 1, rfl, rfl, rfl, hP, by simp [go_sem, g0, g5, g6, hi, hg, hw1, xindex, h1, h1i, h2, h2i], by simp [go_sem, g0, g5, g6, hi, hg, hw1, xindex, h1, h1i, h2, h2i], by simp [go_sem, g0, g5, g6, hi, hg, hw1, xindex, h1, h1i, h2, h2i], by omega, fun j h hj => by rcases Nat.lt_or_eq_of_le (Nat.le_of_lt_succ hj) with h3 | h3; exact hA j h h3; subst h3; omega⟩
  · have hall : ∀ j (h : j < s.size), 48 ≤ s[j].toNat ∧ s[j].toNat ≤ 57 := fun j h => hA j h (by omega)
    refine xc_two fun N4 hN4 => ?_
    refine xc_reg2 fun K hK => ?_
    simp only [rall, rsl, gres]
    (refine seqX_hide2 fun R hR => ?_; simp [go_sem, g0, g5, g6, hi]; refine hR _ _ _ ?_; clear hR R)
    rw [seqX_nil]
    refine hK _ _ _ ?_; clear hK K
    refine hN4 _ _ _ ?_
    refine xc_two fun N5 hN5 => ?_
    refine xc_iffalse (by simp [go_sem, g0, g5, g6, hi]) ?_
    refine hX1 _ _ _ _ ?_
    refine hN2 _ _ _ ?_
    refine xc_two fun N6 hN6 => ?_
    cases em : s.toList.isEmpty with
    | true =>
      refine xc_reg2 fun K hK => ?_
      simp only [rall, rsl, gres]
      iterate 13 (refine seqX_hide2 fun R hR => ?_; simp [go_sem, g0, g5, g6, hi, em]; refine hR _ _ _ ?_; clear hR R)
      rw [seqX_nil]
      refine hK _ _ _ ?_; clear hK K
      refine hN6 _ _ _ ?_
      simp [go_sem, g0, g5, g6, hi, em]
      exact ⟨FB.no _, rfl⟩
    | false =>
    by_cases h9 : s.size ≤ 9
    rotate_left
    · have h9i : ¬ (s.size : Int) ≤ 9 := by omega
      refine xc_reg2 fun K hK => ?_
      simp only [rall, rsl, gres]
      iterate 13 (refine seqX_hide2 fun R hR => ?_; simp [go_sem, g0, g5, g6, hi, em, h9, h9i]; refine hR _ _ _ ?_; clear hR R)
      rw [seqX_nil]
      refine hK _ _ _ ?_; clear hK K
      refine hN6 _ _ _ ?_
      simp [go_sem, g0, g5, g6, hi, em, h9, h9i]
      exact ⟨FB.no _, rfl⟩
    have h9i : (s.size : Int) ≤ 9 := by omega
    have h0 := emp_ne em
    have hp : 0 < s.size := by omega
    have hg0 : s[0]? = some s[0] := getElem?_pos s 0 hp
    by_cases h48 : s[0].toNat = 48
    · have hb : ((s[0].toNat : Int) != 48) = false := by rw [h48]; rfl
      have hb2 : ((s[0].toNat : Int) == 48) = true := by rw [h48]; rfl
      refine xc_reg2 fun K hK => ?_
      simp only [rall, rsl, gres]
      iterate 13 (refine seqX_hide2 fun R hR => ?_; simp [go_sem, g0, g5, g6, hi, em, h9, h9i, hg0, xindex, hb, hb2]; refine hR _ _ _ ?_; clear hR R)
      rw [seqX_nil]
      refine hK _ _ _ ?_; clear hK K
      refine hN6 _ _ _ ?_
      simp [go_sem, g0, g5, g6, hi, em, h9, h9i, hg0, xindex, hb, hb2]
      exact ⟨FB.no _, rfl⟩
    have hb : ((s[0].toNat : Int) != 48) = true := by rw [bne_iff_ne]; omega
    have hb2 : ((s[0].toNat : Int) == 48) = false := beq_eq_false_iff_ne.2 (by omega)
    refine xc_reg2 fun K hK => ?_
    simp only [rall, rsl, gres]
    iterate 13 (refine seqX_hide2 fun R hR => ?_; simp [go_sem, g0, g5, g6, hi, em, h9, h9i, hg0, xindex, hb, hb2]; refine hR _ _ _ ?_; clear hR R)
    rw [seqX_nil]
    refine hK _ _ _ ?_; clear hK K
    refine hN6 _ _ _ ?_
    simp [go_sem, g0, g5, g6, hi, em, h9, h9i, hg0, xindex, hb, hb2]
    exact ⟨FB.yes ⟨h0, h9, hall⟩, rfl⟩
end Go.Proofs.YtpinamipjddobaaV

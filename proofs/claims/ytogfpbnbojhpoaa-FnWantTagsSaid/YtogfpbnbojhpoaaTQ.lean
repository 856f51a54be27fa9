/- Tables: paths as the packages split them. -/
import Derived.Test.YtogfpbnbojhpoaaTP
namespace Go.Proofs.YtogfpbnbojhpoaaV
open Go.RowKit
set_option linter.unusedSimpArgs false
set_option linter.unusedVariables false
def Idx (s : ByteArray) (r : Value) : Prop := (∃ (i : Nat) (h : i < s.size), s[i] = 46 ∧ (46 : UInt8) ∉ (bl s).take i ∧ r = .int .i64 i) ∨ ((46 : UInt8) ∉ bl s ∧ r = .int .i64 (-1))
theorem one_byte (s : ByteArray) (i : Nat) (h : i < s.size) : ((s.extract i (i + 1)).toList == [46]) = decide (s[i] = 46) := by
  rw [show (s.extract i (i + 1)).toList = [s[i]] from ?_]
  · by_cases hc : s[i] = 46
    · simp [hc]
    · simp [hc]
  · rw [extract_mkB, show (i + 1 - i) = 1 by omega, List.drop_eq_getElem_cons (by rw [bl_length]; exact h), ByteArray.toList_eq]
    rfl
set_option maxRecDepth 20000 in
set_option maxHeartbeats 4000000 in
theorem index99 (A : View) (s : ByteArray) (hs : s.size ≤ 2147483648) : VCalls Try.prog 99 #[.string s, .string ⟨#[46]⟩] A fun r A' => Idx s r ∧ A' = A := by
  refine xcalls Try.func99 rfl (by simp [Try.ntmps99]) ?_
  simp only [Try.f99]
  refine xc_step fun C hC => ?_
  simp [go_sem]
  subst hC
  refine xc_step fun C hC => ?_
  simp [go_sem]
  refine vloopK (fun k e ds A' => ∃ i : Nat, k + i = s.size ∧ ds = [] ∧ e 0 = .string s ∧ e 1 = .string ⟨#[46]⟩ ∧ e 5 = .int .i64 i ∧ A' = A ∧ (46 : UInt8) ∉ (bl s).take i) s.size
    ⟨0, by omega, rfl, by simp [go_sem], by simp [go_sem], by simp [go_sem], rfl, by simp⟩ ?_
  rintro k e ds B ⟨i, hk, rfl, g0, g1, g5, rfl, hn⟩ J X hJ hX
  refine xc_sound _ ?_
  have hw := wrap_nat (i := i) (by omega)
  have hd : (⟨#[46]⟩ : ByteArray).size = 1 := rfl
  by_cases hi : i < s.size
  · have hi' : (i : Int) + 1 ≤ s.size := by omega
    have hi3 : i + 1 ≤ s.size := hi
    have h46 : (⟨#[46]⟩ : ByteArray).toList = [46] := by rw [ByteArray.toList_eq]
    refine xc_step fun C3 hC3 => ?_
    simp [go_sem, g0, g1, g5, xlen, xbin, eqPlain, hw, hd, hi']
    subst hC3
    refine xc_step fun C3 hC3 => ?_
    have hob := one_byte s i hi
    have h01 : (0 : Int) ≤ (i : Int) + 1 := by omega
    have h02 : (i : Int) ≤ (i : Int) + 1 := by omega
    by_cases hc : s[i] = 46
    · rw [hc] at hob
      simp [go_sem, g0, g1, g5, xlen, xbin, eqPlain, hw, hd, xslice, hi', h46, h01, h02, hob]
      refine hX _ _ _ _ ?_
      simp [go_sem]
      exact .inl ⟨i, hi, hc, hn, rfl⟩
    · rw [decide_eq_false hc] at hob
      simp [go_sem, g0, g1, g5, xlen, xbin, eqPlain, hw, hd, xslice, hi', h46, h01, h02, hob]
      subst hC3
      simp [go_sem, g5, xbin, eqPlain, hw]
      refine hJ (k - 1) _ _ _ (by omega) ⟨i + 1, by omega, rfl, by simp [go_sem, g0], by simp [go_sem, g1], by simp [go_sem], rfl, ?_⟩
      rw [List.take_add_one, bl_get s i hi, List.mem_append]
      rintro (h | h)
      · exact hn h
      · simp only [Option.toList_some, List.mem_singleton] at h
        exact hc h.symm
  · refine xc_step fun C3 hC3 => ?_
    have hi' : ¬ (i : Int) + 1 ≤ s.size := by omega
    simp [go_sem, g0, g1, g5, xlen, xbin, eqPlain, hw, hd, hi']
    refine hX _ _ _ _ ?_
    simp [go_sem]
    subst hC
    simp [go_sem]
    refine .inr ⟨?_, rfl⟩
    rw [List.take_of_length_le (by rw [bl_length]; omega)] at hn
    exact hn
theorem split_idx (s : ByteArray) (i : Nat) (h : i < s.size) (hc : s[i] = 46) (hn : (46 : UInt8) ∉ (bl s).take i) : parts s = s.extract 0 i :: parts (s.extract (i + 1) s.size) := by
  unfold parts
  have h1 := drop_part s 0 i (Nat.zero_le _) h
  rw [List.drop_zero, Nat.sub_zero] at h1
  rw [h1, hc, splitL_at _ _ _ hn, List.map_cons]
  congr 1
  · rw [extract_mkB, List.drop_zero, Nat.sub_zero]
  · rw [extract_mkB, List.take_of_length_le (by rw [List.length_drop, bl_length]; omega)]
    rfl
theorem split_none (s : ByteArray) (hn : (46 : UInt8) ∉ bl s) : parts s = [s] := by
  unfold parts
  rw [splitL_none _ _ hn]
  rfl
set_option maxRecDepth 20000 in
set_option maxHeartbeats 4000000 in
theorem split81 (A : View) (s : ByteArray) (hs : s.size ≤ 2147483648) : VCalls Try.prog 81 #[.string s, .string ⟨#[46]⟩] A fun r A' => Texts A' r (parts s) ∧ A ≤ A' := by
  refine xcalls Try.func81 rfl (by simp [Try.ntmps81]) ?_
  simp only [Try.f81]
  have hd : (⟨#[46]⟩ : ByteArray).size = 1 := rfl
  refine xc_step fun C hC => ?_
  simp [go_sem]
  subst hC
  refine xc_step fun C hC => ?_
  simp [go_sem]
  subst hC
  refine xc_step fun C hC => ?_
  simp [go_sem, xlen, hd, xbin, eqPlain]
  subst hC
  refine vloopK (fun k e ds A' => ∃ (q : ByteArray) (done : List ByteArray) (u : Value), k = q.size ∧ ds = [] ∧ e 0 = .string q ∧ e 1 = .string ⟨#[46]⟩ ∧ e 5 = u ∧ A ≤ A' ∧ Own A A' 9 1 u done.length (done.map Value.string) ∧ done.length + q.size ≤ s.size ∧ parts s = done ++ parts q) s.size
    ⟨s, [], nl, rfl, rfl, by simp [go_sem], by simp [go_sem], by simp [go_sem], View.le_refl _, Own.nil _ _ _ _, by simp, rfl⟩ ?_
  rintro k e ds B ⟨q, done, u, rfl, rfl, g0, g1, g5, hB, hO, hdl, hps⟩ J X hJ hX
  refine xc_sound _ ?_
  have hb16 : (done.length + 1) * 16 ≤ 140737488355328 := Nat.le_trans (Nat.mul_le_mul_right 16 (show done.length + 1 ≤ 2147483650 by omega)) (by decide)
  rw [xc_block]
  refine xc_step fun C3 hC3 => ?_
  simp [go_sem, g0, g1]
  refine (index99 B q (by omega)).mono ?_
  rintro _ _ ⟨hx, rfl⟩
  subst hC3
  rcases hx with ⟨i, hi, hc, hn, rfl⟩ | ⟨hn, rfl⟩
  · have hw := wrap_nat (i := i) (by omega)
    have hi0 : ¬ (i : Int) < 0 := by omega
    have hil : i ≤ q.size := by omega
    have hi1 : (0 : Int) ≤ (i : Int) + 1 ∧ (i : Int) + 1 ≤ q.size := ⟨by omega, by omega⟩
    refine xc_step fun C3 hC3 => ?_
    simp [go_sem, xbin, eqPlain, hi0]
    subst hC3
    refine xc_step fun C3 hC3 => ?_
    simp [go_sem, g0, g5, xslice, hil, xnew, Value.cells, Instr.fill, zerosB]
    intro b3 hb3
    refine xappend_own ti24 ti24 (fun k => by simp) ti9 rfl (by decide) (hO.le (le_set hb3)) (View.le_trans hB (le_set hb3)) appended_one (by simp [isStr]) (by simp [one]) hb16 fun v' A4 h1' h2' _ => ?_
    subst hC3
    simp [go_sem, g0, g1, xlen, hd, xbin, eqPlain, hw, xslice, hi1]
    have hsz : (q.extract (i + 1) q.size).size = q.size - (i + 1) := by rw [ByteArray.size_extract]; omega
    refine hJ (q.extract (i + 1) q.size).size _ _ _ (by omega) ⟨q.extract (i + 1) q.size, done ++ [q.extract 0 i], v', rfl, rfl, by simp [go_sem], by simp [go_sem, g1], by simp [go_sem], h1', ?_, ?_, ?_⟩
    · rw [List.length_append, List.map_append]
      exact h2'
    · rw [List.length_append, hsz, List.length_singleton]; omega
    · rw [hps, split_idx q i hi hc hn, List.append_assoc]
      rfl
  · refine xc_step fun C3 hC3 => ?_
    simp [go_sem, g0, g5, xbin, eqPlain, xnew, Value.cells, Instr.fill, zerosB]
    intro b3 hb3
    refine xappend_own ti24 ti24 (fun k => by simp) ti9 rfl (by decide) (hO.le (le_set hb3)) (View.le_trans hB (le_set hb3)) appended_one (by simp [isStr]) (by simp [one]) hb16 fun v' A4 h1' h2' _ => ?_
    refine hX _ _ _ _ ?_
    simp [go_sem]
    rw [hps, split_none q hn]
    refine ⟨?_, h1'⟩
    have := h2'.row
    unfold Texts
    rw [List.length_append, List.map_append]
    exact this
set_option maxHeartbeats 4000000 in
theorem path69 (A : View) (s : ByteArray) (hs : s.size ≤ 2147483648) : VCalls Try.prog 69 #[.string s] A fun r A' => Texts A' r (parts s) ∧ A ≤ A' := by
  refine xcalls Try.func69 rfl (by simp [Try.ntmps69]) ?_
  simp only [Try.f69]
  refine xc_step fun C hC => ?_
  simp [go_sem]
  subst hC
  refine xc_step fun C hC => ?_
  simp [go_sem]
  refine (split81 A s hs).mono ?_
  rintro r A' h
  subst hC
  simp [go_sem]
  exact h
end Go.Proofs.YtogfpbnbojhpoaaV

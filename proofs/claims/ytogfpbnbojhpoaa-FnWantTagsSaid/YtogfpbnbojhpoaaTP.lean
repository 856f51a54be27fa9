/- Tables: paths and their names. -/
import Derived.Test.YtogfpbnbojhpoaaTW
namespace Go.Proofs.YtogfpbnbojhpoaaV
open Go.RowKit
set_option linter.unusedSimpArgs false
set_option linter.unusedVariables false
def splitL (c : UInt8) : List UInt8 → List (List UInt8)
  | [] => [[]]
  | b :: t => if b = c then [] :: splitL c t else match splitL c t with
    | h :: r => (b :: h) :: r
    | [] => [[b]]
theorem splitL_at (c : UInt8) (pre post : List UInt8) (h : c ∉ pre) : splitL c (pre ++ c :: post) = pre :: splitL c post := by
  induction pre with
  | nil => simp [splitL]
  | cons b t ih =>
    have hb : ¬ b = c := fun e => h (by rw [e]; exact List.mem_cons_self)
    have ht : c ∉ t := fun e => h (List.mem_cons_of_mem _ e)
    rw [List.cons_append, splitL, if_neg hb, ih ht]
theorem splitL_none (c : UInt8) (l : List UInt8) (h : c ∉ l) : splitL c l = [l] := by
  induction l with
  | nil => rfl
  | cons b t ih =>
    have hb : ¬ b = c := fun e => h (by rw [e]; exact List.mem_cons_self)
    have ht : c ∉ t := fun e => h (List.mem_cons_of_mem _ e)
    rw [splitL, if_neg hb, ih ht]
theorem splitL_length (c : UInt8) (l : List UInt8) : (splitL c l).length ≤ l.length + 1 := by
  induction l with
  | nil => simp [splitL]
  | cons b t ih =>
    unfold splitL
    split
    · simp only [List.length_cons]; omega
    · split
      · rename_i h r e
        rw [e] at ih
        simp only [List.length_cons] at ih ⊢
        omega
      · simp
abbrev bl (s : ByteArray) : List UInt8 := s.data.toList
def mkB (l : List UInt8) : ByteArray := ⟨l.toArray⟩
/-- The names of a path. -/
def parts (s : ByteArray) : List ByteArray := (splitL 46 (bl s)).map mkB
theorem parts_length (s : ByteArray) : (parts s).length ≤ s.size + 1 := by
  unfold parts
  rw [List.length_map]
  have := splitL_length 46 (bl s)
  rwa [show (bl s).length = s.size from by rw [Array.length_toList]; rfl] at this
theorem bl_length (s : ByteArray) : (bl s).length = s.size := by rw [Array.length_toList]; rfl
theorem extract_mkB (s : ByteArray) (i j : Nat) : s.extract i j = mkB (((bl s).drop i).take (j - i)) := by
  apply ByteArray.ext
  apply Array.toList_inj.1
  rw [show (mkB (((bl s).drop i).take (j - i))).data.toList = ((bl s).drop i).take (j - i) from rfl]
  exact Lib.extract_data s i j
theorem bl_get (s : ByteArray) (i : Nat) (h : i < s.size) : (bl s)[i]? = some s[i] := by
  rw [List.getElem?_eq_getElem (by rw [bl_length]; exact h)]
  rfl
/-- One byte further. -/
theorem take_next (s : ByteArray) (f i : Nat) (hf : f ≤ i) (h : i < s.size) : ((bl s).drop f).take (i + 1 - f) = ((bl s).drop f).take (i - f) ++ [s[i]] := by
  rw [show i + 1 - f = (i - f) + 1 by omega, List.take_add_one, List.getElem?_drop, show f + (i - f) = i by omega, bl_get s i h]
  rfl
theorem drop_part (s : ByteArray) (f i : Nat) (hf : f ≤ i) (h : i < s.size) : (bl s).drop f = ((bl s).drop f).take (i - f) ++ s[i] :: (bl s).drop (i + 1) := by
  have h1 := List.take_append_drop (i - f) ((bl s).drop f)
  rw [List.drop_drop, show f + (i - f) = i by omega] at h1
  have h2 : (bl s).drop i = s[i] :: (bl s).drop (i + 1) := by
    have := bl_get s i h
    rw [List.getElem?_eq_some_iff] at this
    obtain ⟨h3, h4⟩ := this
    rw [List.drop_eq_getElem_cons h3, h4]
  rw [h2] at h1
  exact h1.symm
/-- What has been split off ahead of a place. -/
def Ahead (s : ByteArray) (done : List ByteArray) (f i : Nat) : Prop := f ≤ i ∧ (46 : UInt8) ∉ ((bl s).drop f).take (i - f) ∧ parts s = done ++ (splitL 46 ((bl s).drop f)).map mkB
theorem Ahead.next {s : ByteArray} {done : List ByteArray} {f i : Nat} (h : Ahead s done f i) (hi : i < s.size) (hc : s[i] ≠ 46) : Ahead s done f (i + 1) := by
  obtain ⟨h1, h2, h3⟩ := h
  refine ⟨by omega, ?_, h3⟩
  rw [take_next s f i h1 hi, List.mem_append]
  rintro (h | h)
  · exact h2 h
  · simp only [List.mem_singleton] at h
    exact hc h.symm
theorem Ahead.cut {s : ByteArray} {done : List ByteArray} {f i : Nat} (h : Ahead s done f i) (hi : i < s.size) (hc : s[i] = 46) : Ahead s (done ++ [s.extract f i]) (i + 1) (i + 1) := by
  obtain ⟨h1, h2, h3⟩ := h
  refine ⟨by omega, by simp, ?_⟩
  rw [h3, drop_part s f i h1 hi, hc, splitL_at _ _ _ h2, List.map_cons, List.append_assoc, extract_mkB]
  rfl
theorem Ahead.last {s : ByteArray} {done : List ByteArray} {f : Nat} (h : Ahead s done f s.size) : done ++ [s.extract f s.size] = parts s := by
  obtain ⟨h1, h2, h3⟩ := h
  have h4 : ((bl s).drop f).take (s.size - f) = (bl s).drop f := by
    rw [List.take_of_length_le]
    rw [List.length_drop, bl_length]; omega
  rw [h4] at h2
  rw [h3, splitL_none _ _ h2, extract_mkB, h4]
  rfl
theorem Ahead.zero (s : ByteArray) : Ahead s [] 0 0 := ⟨Nat.le_refl _, by simp, rfl⟩
set_option maxRecDepth 20000 in
set_option maxHeartbeats 4000000 in
theorem names47 (A : View) (s : ByteArray) (hs : s.size ≤ 2147483648) : VCalls Try.prog 47 #[.string s] A fun r A' => Texts A' r (parts s) ∧ A ≤ A' := by
  refine xcalls Try.func47 rfl (by simp [Try.ntmps47]) ?_
  simp only [Try.f47]
  refine xc_step fun C hC => ?_
  simp [go_sem]
  subst hC
  refine xc_step fun C hC => ?_
  simp [go_sem]
  subst hC
  refine xc_step fun C hC => ?_
  simp [go_sem]
  subst hC
  refine xc_step fun C hC => ?_
  simp [go_sem]
  refine vloopK (fun k e ds A' => ∃ (i f : Nat) (done : List ByteArray) (u : Value), k = s.size + 1 - i ∧ ds = [] ∧ e 0 = .string s ∧ e 3 = u ∧ e 4 = .int .i64 f ∧ e 5 = .int .i64 i ∧ A ≤ A' ∧ Own A A' 9 1 u done.length (done.map Value.string) ∧ done.length ≤ i ∧ ((i ≤ s.size ∧ Ahead s done f i) ∨ (i = s.size + 1 ∧ done = parts s))) (s.size + 1)
    ⟨0, 0, [], nl, rfl, rfl, by simp [go_sem], by simp [go_sem], by simp [go_sem], by simp [go_sem], View.le_refl _, Own.nil _ _ _ _, Nat.le_refl _, .inl ⟨Nat.zero_le _, Ahead.zero s⟩⟩ ?_
  rintro k e ds B ⟨i, f, done, u, rfl, rfl, g0, g3, g4, g5, hB, hO, hdl, hst⟩ J X hJ hX
  refine xc_sound _ ?_
  rcases hst with ⟨hi, hst⟩ | ⟨hi, hst⟩
  · have hi' : (i : Int) ≤ s.size := by omega
    refine xc_step fun C3 hC3 => ?_
    simp [go_sem, g0, g5, xlen, xbin, eqPlain, hi]
    subst hC3
    obtain ⟨hfi, hnm, hps⟩ := id hst
    have hw := wrap_nat (i := i) (by omega)
    refine xc_step fun C3 hC3 => ?_
    rw [xc_seq, xc_block]
    by_cases hz : i = s.size
    · subst hz
      simp [go_sem, g0, g3, g4, g5, xlen, xbin, eqPlain, gval, undef, xindex, xslice, hfi, xnew, Value.cells, Instr.fill, zerosB]
      intro b3 hb3
      have hb16 : (done.length + 1) * 16 ≤ 140737488355328 := Nat.le_trans (Nat.mul_le_mul_right 16 (show done.length + 1 ≤ 2147483650 by omega)) (by decide)
      refine xappend_own ti24 ti24 (fun k => by simp) ti9 rfl (by decide) (hO.le (le_set hb3)) (View.le_trans hB (le_set hb3)) appended_one (by simp [isStr]) (by simp [one]) hb16 fun v' A4 h1' h2' _ => ?_
      simp [go_sem, g5, xbin, eqPlain, hw]
      subst hC3
      simp [go_sem, g5, xbin, eqPlain, hw]
      refine hJ (s.size + 1 - (s.size + 1)) _ _ _ (by omega) ⟨s.size + 1, s.size + 1, done ++ [s.extract f s.size], v', rfl, rfl, by simp [go_sem, g0], by simp [go_sem], by simp [go_sem], by simp [go_sem], h1', ?_, by simp; omega, .inr ⟨rfl, hst.last⟩⟩
      rw [List.length_append, List.map_append]
      exact h2'
    · have hi2 : i < s.size := by omega
      have hg : s[i]? = some s[i] := getElem?_pos s i hi2
      have hze : ((i : Int) == (s.size : Int)) = false := by simp; omega
      by_cases hc : s[i] = 46
      · have hcn : (s[i].toNat : Int) = 46 := by rw [hc]; rfl
        simp [go_sem, g0, g3, g4, g5, xlen, xbin, eqPlain, gval, undef, xindex, xslice, hfi, hi, hze, hg, hcn, xnew, Value.cells, Instr.fill, zerosB]
        intro b3 hb3
        have hb16 : (done.length + 1) * 16 ≤ 140737488355328 := Nat.le_trans (Nat.mul_le_mul_right 16 (show done.length + 1 ≤ 2147483650 by omega)) (by decide)
        refine xappend_own ti24 ti24 (fun k => by simp) ti9 rfl (by decide) (hO.le (le_set hb3)) (View.le_trans hB (le_set hb3)) appended_one (by simp [isStr]) (by simp [one]) hb16 fun v' A4 h1' h2' _ => ?_
        simp [go_sem, g5, xbin, eqPlain, hw]
        subst hC3
        simp [go_sem, g5, xbin, eqPlain, hw]
        refine hJ (s.size + 1 - (i + 1)) _ _ _ (by omega) ⟨i + 1, i + 1, done ++ [s.extract f i], v', rfl, rfl, by simp [go_sem, g0], by simp [go_sem], by simp [go_sem], by simp [go_sem], h1', ?_, by simp; omega, .inl ⟨by omega, hst.cut hi2 hc⟩⟩
        rw [List.length_append, List.map_append]
        exact h2'
      · have hcn : ¬ (s[i].toNat : Int) = 46 := fun h => hc (UInt8.toNat_inj.1 (by have := Int.ofNat.inj h; exact this))
        have hcb : ((s[i].toNat : Int) == 46) = false := beq_eq_false_iff_ne.2 hcn
        simp [go_sem, g0, g3, g4, g5, xlen, xbin, eqPlain, gval, undef, xindex, hze, hg, hcb]
        subst hC3
        simp [go_sem, g5, xbin, eqPlain, hw]
        exact hJ (s.size + 1 - (i + 1)) _ _ _ (by omega) ⟨i + 1, f, done, u, rfl, rfl, by simp [go_sem, g0], by simp [go_sem, g3], by simp [go_sem, g4], by simp [go_sem], hB, hO, by omega, .inl ⟨by omega, hst.next hi2 hc⟩⟩
  · refine xc_step fun C3 hC3 => ?_
    subst hi
    have hi' : decide (((s.size : Int) + 1 ≤ (s.size : Int))) = false := by simp; omega
    simp [go_sem, g0, g5, xlen, xbin, eqPlain, hi']
    refine hX _ _ _ _ ?_
    simp [go_sem]
    subst hC
    subst hst
    simp [go_sem, g3]
    refine ⟨?_, hB⟩
    have := hO.row
    exact this
end Go.Proofs.YtogfpbnbojhpoaaV

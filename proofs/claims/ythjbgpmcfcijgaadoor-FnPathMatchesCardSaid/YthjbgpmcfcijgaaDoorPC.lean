/- Shell patterns: step by step. -/
import Derived.Test.YthjbgpmcfcijgaaDoorPB
namespace Go.Proofs.YthjbgpmcfcijgaaDoorV
set_option linter.unusedSimpArgs false
set_option linter.unusedVariables false
namespace Pm
/-- What matchChunk tells of a piece: none for a fault; else what is left of the name, or none. -/
def out (f : Bool) (l s : List Nat) : Option (Option (List Nat)) := match pat false l with
  | none => none
  | some a => if f = true then some none else some (mcI a s)
theorem out_nil (f : Bool) (s : List Nat) : out f [] s = some (if f = true then none else some s) := by
  unfold out
  rw [pat_nil]
  simp only [mcI]
  cases f <;> rfl
theorem pat_ne {c : Nat} {r : List Nat} {a : List It} (h : pat false (c :: r) = some a) : a ≠ [] := by
  rintro rfl
  have map : ∀ {x : It} {u : Option (List It)}, u.map (x :: ·) ≠ some [] := by
    intro x u h
    cases u <;> simp at h
  rw [pat_cons, if_neg (by simp)] at h
  split at h
  · exact map h
  · split at h
    · split at h
      · cases h
      · exact map h
    · split at h
      · split at h
        · cases h
        · exact map h
      · exact map h
theorem out_empty {l : List Nat} (hl : l ≠ []) : out false l [] = out true l [] := by
  cases l with
  | nil => exact absurd rfl hl
  | cons c r =>
    unfold out
    cases h : pat false (c :: r) with
    | none => rfl
    | some a =>
      cases a with
      | nil => exact absurd rfl (pat_ne h)
      | cons x xs => simp [mcI]
theorem out_item {x : It} {l r : List Nat} (h : pat false l = (pat false r).map (x :: ·)) (f : Bool) (s : List Nat) :
    (f = true → out f l s = out true r s) ∧ ∀ d s', f = false → s = d :: s' → out f l s = out (!takes x d) r s' := by
  unfold out
  rw [h]
  constructor
  · rintro rfl
    cases pat false r <;> rfl
  · rintro d s' rfl rfl
    cases pat false r with
    | none => rfl
    | some a =>
      simp only [Option.map_some, mcI]
      cases takes x d <;> rfl
theorem out_true {l s t : List Nat} : out true l s = out true l t := by
  unfold out
  cases pat false l <;> rfl
theorem out_bad {l s : List Nat} {f : Bool} (h : pat false l = none) : out f l s = none := by
  unfold out; rw [h]
theorem out_some {l s : List Nat} {q : Option (List Nat)} (h : out false l s = some q) : ∃ a, pat false l = some a ∧ mcI a s = q := by
  unfold out at h
  cases hp : pat false l with
  | none => rw [hp] at h; cases h
  | some a => rw [hp] at h; exact ⟨a, rfl, by simpa using h⟩
theorem out_none {l s : List Nat} (h : out false l s = none) : pat false l = none := by
  unfold out at h
  cases hp : pat false l with
  | none => rfl
  | some a => rw [hp] at h; simp at h
/-- The prefixes for which items stand, one item more. -/
theorem Mt_snoc {a : List It} {x : It} {s : List Nat} {i : Nat} (hi : i ≤ s.length) : Mt (a ++ [x]) (s.take i) ↔ ∃ k, k ≤ i ∧ Mt a (s.take k) ∧ ok1 x ((s.take i).drop k) := by
  rw [Mt_append]
  constructor
  · rintro ⟨u, v, e, h1, p, q, rfl, h2, h3⟩
    simp only [Mt] at h3
    subst h3
    rw [List.append_nil] at e
    have hl : (s.take i).length = u.length + p.length := by rw [e, List.length_append]
    rw [List.length_take] at hl
    refine ⟨u.length, by omega, ?_, ?_⟩
    · have : (s.take i).take u.length = u := by rw [e, List.take_left]
      rw [List.take_take, Nat.min_eq_left (by omega)] at this
      rw [this]; exact h1
    · rw [e, List.drop_left]; exact h2
  · rintro ⟨k, hk, h1, h2⟩
    refine ⟨s.take k, (s.take i).drop k, ?_, h1, (s.take i).drop k, [], by simp, h2, rfl⟩
    conv => lhs; rw [← List.take_append_drop k (s.take i)]
    rw [List.take_take, Nat.min_eq_left hk]
theorem drop_take_succ {s : List Nat} {i k : Nat} (hi : i < s.length) (hk : k ≤ i) : (s.take (i + 1)).drop k = (s.take i).drop k ++ [s[i]] := by
  rw [List.take_succ_eq_append_getElem hi, List.drop_append_of_le_length (by rw [List.length_take]; omega)]
theorem Mt_snoc_star {a : List It} {s : List Nat} {i : Nat} (hi : i ≤ s.length) : Mt (a ++ [.star]) (s.take i) ↔ (Mt a (s.take i) ∨ ∃ h : 0 < i, Mt (a ++ [.star]) (s.take (i - 1)) ∧ s[i - 1]'(by omega) ≠ 47) := by
  rw [Mt_snoc hi]
  constructor
  · rintro ⟨k, hk, h1, h2⟩
    by_cases hki : k = i
    · subst hki; exact .inl h1
    · right
      obtain ⟨j, rfl⟩ : ∃ j, i = j + 1 := ⟨i - 1, by omega⟩
      rw [drop_take_succ (by omega) (by omega)] at h2
      refine ⟨by omega, ?_, ?_⟩
      · rw [Nat.add_sub_cancel, Mt_snoc (by omega)]
        exact ⟨k, by omega, h1, fun hx => h2 (by simp [hx])⟩
      · intro hx
        refine h2 ?_
        simp only [Nat.add_sub_cancel] at hx
        simp [hx]
  · rintro (h | ⟨h0, h1, h2⟩)
    · refine ⟨i, Nat.le_refl _, h, ?_⟩
      rw [List.drop_of_length_le (by rw [List.length_take]; omega)]
      intro hx; cases hx
    · obtain ⟨j, rfl⟩ : ∃ j, i = j + 1 := ⟨i - 1, by omega⟩
      simp only [Nat.add_sub_cancel] at h1 h2
      rw [Mt_snoc (by omega)] at h1
      obtain ⟨k, hk, h3, h4⟩ := h1
      refine ⟨k, by omega, h3, ?_⟩
      rw [drop_take_succ (by omega) hk]
      intro hx
      rcases List.mem_append.1 hx with hx | hx
      · exact h4 hx
      · rw [List.mem_singleton] at hx; exact h2 hx.symm
theorem Mt_snoc_one {a : List It} {x : It} (hx : x ≠ .star) {s : List Nat} {i : Nat} (hi : i ≤ s.length) : Mt (a ++ [x]) (s.take i) ↔ ∃ h : 0 < i, Mt a (s.take (i - 1)) ∧ takes x (s[i - 1]'(by omega)) = true := by
  rw [Mt_snoc hi]
  constructor
  · rintro ⟨k, hk, h1, h2⟩
    obtain ⟨c, h3, h4⟩ := (ok1_free hx).1 h2
    have hl : ((s.take i).drop k).length = 1 := by rw [h3]; rfl
    rw [List.length_drop, List.length_take] at hl
    obtain ⟨j, rfl⟩ : ∃ j, i = j + 1 := ⟨i - 1, by omega⟩
    have hkj : k = j := by omega
    subst hkj
    rw [drop_take_succ (by omega) (Nat.le_refl _), List.drop_of_length_le (by rw [List.length_take]; omega), List.nil_append] at h3
    refine ⟨by omega, by simpa using h1, ?_⟩
    simp only [List.cons.injEq] at h3
    simp only [Nat.add_sub_cancel]
    rw [h3.1]; exact h4
  · rintro ⟨h0, h1, h2⟩
    obtain ⟨j, rfl⟩ : ∃ j, i = j + 1 := ⟨i - 1, by omega⟩
    simp only [Nat.add_sub_cancel] at h1 h2
    refine ⟨j, by omega, h1, (ok1_free hx).2 ⟨s[j], ?_, h2⟩⟩
    rw [drop_take_succ (by omega) (Nat.le_refl _), List.drop_of_length_le (by rw [List.length_take]; omega), List.nil_append]
end Pm
end Go.Proofs.YthjbgpmcfcijgaaDoorV

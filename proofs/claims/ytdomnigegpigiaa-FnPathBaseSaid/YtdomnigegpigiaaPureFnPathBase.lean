/- FnPathBase: for every relative clean path the last name that the package tells is the reference's; no condition beside the statement's own. -/
import Derived.Test.YtdomnigegpigiaaPFnPathBasex2
import Derived.Lib.IndexBytes
namespace Go.Proofs.Ytdomnigegpigiaa.Pure
open Go.RowKit Go.Proofs.Ytdomnigegpigiaa.PFnPathBase Go.Proofs.YtdomnigegpigiaaW.PrintWords Go.Proofs.YtdomnigegpigiaaW.PrintLast

theorem pb_toList_nil (s : ByteArray) : s.toList = ([] : List UInt8) ↔ s.size = 0 := by
  rw [Lib.toList_data]
  obtain ⟨⟨l⟩⟩ := s
  simp [ByteArray.size]

/-- The way back from i on: the reference comes to r, and the package's loop (with its end) to the same, or to a slash where r is empty. -/
theorem pb_back (s : ByteArray) (hs : s.size ≤ 2147483647) (h0 : 0 < s.size) (hl : bt s ((s.size : Int) - 1) ≠ 47) (d : Nat) : ∀ (k : Nat) (i : Int), -1 ≤ i → i < s.size → i + 1 = d → d + 1 < k →
    ∃ r, spec_Base.l0 k s i = some r ∧ ignore_zzBase.l1 k s i = some r := by
  induction d with
  | zero =>
    intro k i hi hi2 hd hk
    obtain ⟨k, rfl⟩ : ∃ m, k = m + 2 := ⟨k - 2, by omega⟩
    refine ⟨s, ?_, ?_⟩
    · simp only [spec_Base.l0]
      rw [if_neg (by omega)]
    · simp only [ignore_zzBase.l1, ignore_zzBase.j3]
      rw [if_neg (by omega), if_neg (by omega), if_neg (by rw [pb_toList_nil]; omega)]
  | succ d ih =>
    intro k i hi hi2 hd hk
    obtain ⟨k, rfl⟩ : ∃ m, k = m + 2 := ⟨k - 2, by omega⟩
    have hw1 : wrap64 (i + 1) = i + 1 := by unfold wrap64; omega
    have hw2 : wrap64 (i - 1) = i - 1 := by unfold wrap64; omega
    by_cases e : bt s i = 47
    · have hi3 : i + 1 < s.size := by
        have : i ≠ (s.size : Int) - 1 := fun h => hl (h ▸ e)
        omega
      refine ⟨s.extract (i + 1).toNat s.size, ?_, ?_⟩
      · simp only [spec_Base.l0]
        rw [if_pos (by omega : i ≥ 0), if_pos (by omega : 0 ≤ i), if_pos hi2, if_pos e, hw1, if_pos (by omega), if_pos (by omega)]
      · simp only [ignore_zzBase.l1, ignore_zzBase.j3]
        rw [if_pos (by omega : i ≥ 0), if_pos (by omega : 0 ≤ i), if_pos hi2, if_pos e, hw1, if_pos (by omega : i ≥ 0), if_pos (by omega : 0 ≤ i + 1), if_pos (by omega : i + 1 ≤ s.size), if_neg (by rw [pb_toList_nil, ByteArray.size_extract]; omega)]
    · obtain ⟨r, h1, h2⟩ := ih (k + 1) (i - 1) (by omega) (by omega) (by omega) (by omega)
      refine ⟨r, ?_, ?_⟩
      · simp only [spec_Base.l0]
        rw [if_pos (by omega : i ≥ 0), if_pos (by omega : 0 ≤ i), if_pos hi2, if_neg e, hw2]
        exact h1
      · simp only [ignore_zzBase.l1]
        rw [if_pos (by omega : i ≥ 0), if_pos (by omega : 0 ≤ i), if_pos hi2, if_neg e, hw2]
        exact h2


theorem pb_ascii (s : ByteArray) (hs : s.size ≤ 2147483647) (d : Nat) : ∀ (k : Nat) (i : Int), 0 ≤ i → i ≤ s.size → (s.size : Int) - i = d → d < k → ∃ b, spec_Ascii.l0 k s (s.size : Int) i = some b := by
  induction d with
  | zero =>
    intro k i h0 h1 hd hk
    obtain ⟨k, rfl⟩ : ∃ m, k = m + 1 := ⟨k - 1, by omega⟩
    exact ⟨true, by simp only [spec_Ascii.l0]; rw [if_neg (by omega)]⟩
  | succ d ih =>
    intro k i h0 h1 hd hk
    obtain ⟨k, rfl⟩ : ∃ m, k = m + 1 := ⟨k - 1, by omega⟩
    have hw : wrap64 (i + 1) = i + 1 := by unfold wrap64; omega
    simp only [spec_Ascii.l0]
    rw [if_pos (by omega), if_pos h0, if_pos (by omega), hw]
    by_cases e : bt s i > 127
    · exact ⟨false, by rw [if_pos e]⟩
    · rw [if_neg e]
      exact ih k (i + 1) (by omega) (by omega) (by omega) (by omega)

/-- From place i on, the last part having begun at b: the loop ends; and where it says yes, the path is not empty behind b and does not end with a slash there. -/
theorem pb_clean (s : ByteArray) (hs : s.size ≤ 2147483647) (d : Nat) : ∀ (k : Nat) (b i : Int), 0 ≤ b → b ≤ i → i ≤ s.size → (s.size : Int) - i = d → 2 * d + s.size + 8 < k →
    ∃ r, laws_heClean.l0 k s b i = some r ∧ (r = true → 0 < s.size ∧ (i < s.size → bt s ((s.size : Int) - 1) ≠ 47) ∧ b < s.size) := by
  induction d with
  | zero =>
    intro k b i h0 h1 h2 hd hk
    obtain ⟨k, rfl⟩ : ∃ m, k = m + 3 := ⟨k - 3, by omega⟩
    have hi : i = s.size := by omega
    have hw : wrap64 (i + 1) = i + 1 := by unfold wrap64; omega
    simp only [laws_heClean.l0]
    rw [if_pos h2, if_pos hi]
    simp only [laws_heClean.j1]
    rw [if_pos trivial, if_pos h0, if_pos h1, if_pos h2, hw]
    by_cases e1 : (s.extract b.toNat i.toNat).toList = ([] : List UInt8)
    · exact ⟨false, by rw [if_pos e1], fun h => by cases h⟩
    · have hb : b < s.size := by rw [pb_toList_nil, ByteArray.size_extract] at e1; omega
      rw [if_neg e1]
      by_cases e2 : (s.extract b.toNat i.toNat).toList = ([46] : List UInt8)
      · exact ⟨false, by rw [if_pos e2], fun h => by cases h⟩
      · rw [if_neg e2]
        by_cases e3 : (s.extract b.toNat i.toNat).toList = ([46, 46] : List UInt8)
        · exact ⟨false, by rw [if_pos e3], fun h => by cases h⟩
        · rw [if_neg e3]
          obtain ⟨k, rfl⟩ : ∃ m, k = m + 1 := ⟨k - 1, by omega⟩
          simp only [laws_heClean.l0]
          rw [if_neg (by omega)]
          by_cases e4 : (s.size : Int) ≤ 100
          · rw [if_pos e4]
            obtain ⟨a, ha⟩ := pb_ascii s hs s.size (k + 1) 0 (by omega) (by omega) (by omega) (by omega)
            have ha' : spec_Ascii.f (k + 1) s = some a := ha
            rw [ha']
            exact ⟨a, rfl, fun _ => ⟨by omega, fun h => by omega, hb⟩⟩
          · rw [if_neg e4]
            exact ⟨false, rfl, fun h => by cases h⟩
  | succ d ih =>
    intro k b i h0 h1 h2 hd hk
    obtain ⟨k, rfl⟩ : ∃ m, k = m + 3 := ⟨k - 3, by omega⟩
    have hw : wrap64 (i + 1) = i + 1 := by unfold wrap64; omega
    simp only [laws_heClean.l0]
    rw [if_pos h2, if_neg (by omega), if_pos (by omega), if_pos (by omega)]
    simp only [laws_heClean.j1]
    by_cases e : bt s i = 47
    · rw [if_pos (beq_iff_eq.2 e), if_pos h0, if_pos h1, if_pos h2, hw]
      by_cases e1 : (s.extract b.toNat i.toNat).toList = ([] : List UInt8)
      · exact ⟨false, by rw [if_pos e1], fun h => by cases h⟩
      · rw [if_neg e1]
        by_cases e2 : (s.extract b.toNat i.toNat).toList = ([46] : List UInt8)
        · exact ⟨false, by rw [if_pos e2], fun h => by cases h⟩
        · rw [if_neg e2]
          by_cases e3 : (s.extract b.toNat i.toNat).toList = ([46, 46] : List UInt8)
          · exact ⟨false, by rw [if_pos e3], fun h => by cases h⟩
          · rw [if_neg e3]
            obtain ⟨r, hr, h⟩ := ih (k + 1) (i + 1) (i + 1) (by omega) (by omega) (by omega) (by omega) (by omega)
            refine ⟨r, hr, fun t => ?_⟩
            obtain ⟨g1, g2, g3⟩ := h t
            exact ⟨g1, fun _ => g2 g3, by omega⟩
    · rw [if_neg (by rw [beq_iff_eq]; exact e), hw]
      obtain ⟨r, hr, h⟩ := ih (k + 1) b (i + 1) (by omega) (by omega) (by omega) (by omega) (by omega)
      refine ⟨r, hr, fun t => ?_⟩
      obtain ⟨g1, g2, g3⟩ := h t
      refine ⟨g1, fun _ => ?_, g3⟩
      by_cases c : i + 1 < s.size
      · exact g2 c
      · have hi : (s.size : Int) - 1 = i := by omega
        rw [hi]
        exact e

/-- YOURS: ∀ (a0 : ByteArray), a0.size ≤ 140737488351232 → ∃ k, laws_FnPathBase.f k a0 = some true -/
theorem FnPathBase : laws_FnPathBase.Pure := by
  intro a hn
  by_cases hb : (a.size : Int) > 2147483647
  · exact ⟨0, by unfold laws_FnPathBase.f; rw [if_pos hb]⟩
  · refine ⟨3 * a.size + 9 + 3, ?_⟩
    obtain ⟨c, hc, h⟩ := pb_clean a (by omega) a.size (3 * a.size + 9 + 3) 0 0 (by omega) (by omega) (by omega) (by omega) (by omega)
    have hc' : laws_heClean.f (3 * a.size + 9 + 3) a = some c := hc
    unfold laws_FnPathBase.f
    rw [if_neg hb, hc']
    simp only [Option.bind_some]
    cases c with
    | false => rw [if_neg (by simp)]
    | true =>
      obtain ⟨g1, g2, _⟩ := h rfl
      have g3 := g2 (by omega)
      have e : ¬ a.toList = ([] : List UInt8) := by rw [pb_toList_nil]; omega
      have hw : wrap64 ((a.size : Int) - 1) = (a.size : Int) - 1 := by unfold wrap64; omega
      obtain ⟨r, h1, h2⟩ := pb_back a (by omega) g1 g3 a.size (3 * a.size + 9 + 1) ((a.size : Int) - 1) (by omega) (by omega) (by omega) (by omega)
      have s1 : spec_Base.f (3 * a.size + 9 + 3) a = some r := by
        refine at_rounds (g := fun k => spec_Base.f k a) (fun k => spec_Base.mono a k) (show 3 * a.size + 9 + 1 ≤ 3 * a.size + 9 + 3 by omega) ?_
        show spec_Base.f _ a = some r
        unfold spec_Base.f
        rw [hw]
        exact h1
      have s2 : impl_PathBase.f (3 * a.size + 9 + 3) a = some r := by
        unfold impl_PathBase.f ignore_ZzBase.f ignore_zzBase.f
        rw [if_neg e]
        simp only [ignore_zzBase.l0, ignore_zzBase.j1]
        rw [hw, if_pos (by omega), if_pos (by omega), if_pos (by omega), if_neg g3, h2]
        rfl
      rw [if_pos rfl, s1, s2]
      simp

end Go.Proofs.Ytdomnigegpigiaa.Pure

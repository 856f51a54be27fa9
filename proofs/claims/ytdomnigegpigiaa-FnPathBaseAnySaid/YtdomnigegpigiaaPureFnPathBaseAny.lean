/- FnPathBaseAny: for every path the last name that the package tells is the reference's: both strip the slashes at the end by the same steps and then go back to the last slash; no condition. -/
import Derived.Test.YtdomnigegpigiaaPFnPathBaseAnyx1
import Derived.Lib.IndexBytes
namespace Go.Proofs.Ytdomnigegpigiaa.Pure
open Go.RowKit Go.Proofs.Ytdomnigegpigiaa.PFnPathBaseAny Go.Proofs.YtdomnigegpigiaaW.PrintWords Go.Proofs.YtdomnigegpigiaaW.PrintLast

theorem pba_toList_nil (s : ByteArray) : s.toList = ([] : List UInt8) ↔ s.size = 0 := by
  rw [Lib.toList_data]
  obtain ⟨⟨l⟩⟩ := s
  simp [ByteArray.size]

/-- The way back from i on: the reference comes to r, and the package's loop (with its end) to the same, or to a slash where r is empty. -/
theorem pba_back (s : ByteArray) (hs : s.size ≤ 2147483647) (h0 : 0 < s.size) (hl : bt s ((s.size : Int) - 1) ≠ 47) (d : Nat) : ∀ (k : Nat) (i : Int), -1 ≤ i → i < s.size → i + 1 = d → d + 1 < k →
    ∃ r, spec_Base.l0 k s i = some r ∧ ignore_zzBase.l1 k s i = some r := by
  induction d with
  | zero =>
    intro k i hi hi2 hd hk
    obtain ⟨k, rfl⟩ : ∃ m, k = m + 2 := ⟨k - 2, by omega⟩
    refine ⟨s, ?_, ?_⟩
    · simp only [spec_Base.l0]
      rw [if_neg (by omega)]
    · simp only [ignore_zzBase.l1, ignore_zzBase.j3]
      rw [if_neg (by omega), if_neg (by omega), if_neg (by rw [pba_toList_nil]; omega)]
  | succ d ih =>
    intro k i hi hi2 hd hk
    obtain ⟨k, rfl⟩ : ∃ m, k = m + 2 := ⟨k - 2, by omega⟩
    have hw1 : wrap64 (i + 1) = i + 1 := by unfold wrap64; omega
    have hw2 : wrap64 (i - 1) = i - 1 := by unfold wrap64; omega
    by_cases e : bt s i = 47
    · have hi3 : i + 1 < s.size := by
        have : i ≠ (s.size : Int) - 1 := fun h => hl (h ▸ e)
        omega
      refine ⟨s.extract (i + 1).toNat s.size, ?_, ?_⟩
      · simp only [spec_Base.l0]
        rw [if_pos (by omega : i ≥ 0), if_pos (by omega : 0 ≤ i), if_pos hi2, if_pos e, hw1, if_pos (by omega), if_pos (by omega)]
      · simp only [ignore_zzBase.l1, ignore_zzBase.j3]
        rw [if_pos (by omega : i ≥ 0), if_pos (by omega : 0 ≤ i), if_pos hi2, if_pos e, hw1, if_pos (by omega : i ≥ 0), if_pos (by omega : 0 ≤ i + 1), if_pos (by omega : i + 1 ≤ s.size), if_neg (by rw [pba_toList_nil, ByteArray.size_extract]; omega)]
    · obtain ⟨r, h1, h2⟩ := ih (k + 1) (i - 1) (by omega) (by omega) (by omega) (by omega)
      refine ⟨r, ?_, ?_⟩
      · simp only [spec_Base.l0]
        rw [if_pos (by omega : i ≥ 0), if_pos (by omega : 0 ≤ i), if_pos hi2, if_neg e, hw2]
        exact h1
      · simp only [ignore_zzBase.l1]
        rw [if_pos (by omega : i ≥ 0), if_pos (by omega : 0 ≤ i), if_pos hi2, if_neg e, hw2]
        exact h2

theorem pba_strip (d : Nat) : ∀ (k : Nat) (s : ByteArray), s.size ≤ 2147483647 → s.size = d → 2 * d + 8 < k → ∃ r, spec_BaseAny.l0 k s = some r ∧ ignore_zzBase.l0 k s = some r := by
  induction d with
  | zero =>
    intro k s hs hd hk
    obtain ⟨k, rfl⟩ : ∃ m, k = m + 4 := ⟨k - 4, by omega⟩
    have e : s.toList = ([] : List UInt8) := (pba_toList_nil s).2 hd
    have hw : wrap64 ((s.size : Int) - 1) = -1 := by unfold wrap64; omega
    refine ⟨⟨#[47]⟩, ?_, ?_⟩
    · simp only [spec_BaseAny.l0]
      rw [if_pos e]
    · simp only [ignore_zzBase.l0, ignore_zzBase.j1, ignore_zzBase.l1, ignore_zzBase.j3]
      rw [hw, if_neg (by omega), if_neg (by omega), if_neg (by omega), if_pos e]
  | succ d ih =>
    intro k s hs hd hk
    obtain ⟨k, rfl⟩ : ∃ m, k = m + 4 := ⟨k - 4, by omega⟩
    have e : ¬ s.toList = ([] : List UInt8) := by rw [pba_toList_nil]; omega
    have hw : wrap64 ((s.size : Int) - 1) = (s.size : Int) - 1 := by unfold wrap64; omega
    by_cases c : bt s ((s.size : Int) - 1) = 47
    · obtain ⟨r, h1, h2⟩ := ih (k + 3) (s.extract 0 ((s.size : Int) - 1).toNat) (by rw [ByteArray.size_extract]; omega) (by rw [ByteArray.size_extract]; omega) (by omega)
      refine ⟨r, ?_, ?_⟩
      · simp only [spec_BaseAny.l0]
        rw [if_neg e, hw, if_pos (by omega), if_pos (by omega), if_pos c, if_pos (by omega)]
        exact h1
      · simp only [ignore_zzBase.l0]
        rw [hw, if_pos (by omega), if_pos (by omega), if_pos (by omega), if_pos c, if_pos (by omega)]
        exact h2
    · obtain ⟨r, h1, h2⟩ := pba_back s hs (by omega) c s.size (k + 2) ((s.size : Int) - 1) (by omega) (by omega) (by omega) (by omega)
      refine ⟨r, ?_, ?_⟩
      · simp only [spec_BaseAny.l0]
        rw [if_neg e, hw, if_pos (by omega), if_pos (by omega), if_neg c]
        have h3 : spec_Base.f (k + 3) s = some r := by
          refine spec_Base.mono s (k + 2) r ?_
          unfold spec_Base.f
          rw [hw]
          exact h1
        rw [h3]
        rfl
      · simp only [ignore_zzBase.l0, ignore_zzBase.j1]
        rw [hw, if_pos (by omega), if_pos (by omega), if_pos (by omega), if_neg c]
        exact h2

/-- YOURS: ∀ (a0 : ByteArray), a0.size ≤ 140737488351232 → ∃ k, laws_FnPathBaseAny.f k a0 = some true -/
theorem FnPathBaseAny : laws_FnPathBaseAny.Pure := by
  intro a hn
  by_cases hb : (a.size : Int) > 2147483647
  · exact ⟨0, by unfold laws_FnPathBaseAny.f; rw [if_pos hb]⟩
  · refine ⟨2 * a.size + 9, ?_⟩
    obtain ⟨r, h1, h2⟩ := pba_strip a.size (2 * a.size + 9) a (by omega) rfl (by omega)
    obtain ⟨q, q1, q2⟩ : ∃ q, spec_BaseAny.f (2 * a.size + 9) a = some q ∧ impl_PathBase.f (2 * a.size + 9) a = some q := by
      unfold spec_BaseAny.f impl_PathBase.f ignore_ZzBase.f ignore_zzBase.f
      by_cases e : a.toList = ([] : List UInt8)
      · rw [if_pos e, if_pos e]
        exact ⟨_, rfl, rfl⟩
      · rw [if_neg e, if_neg e, h1, h2]
        exact ⟨_, rfl, rfl⟩
    unfold laws_FnPathBaseAny.f
    rw [if_neg hb, q1, q2]
    simp only [Option.bind_some]
    simp

end Go.Proofs.Ytdomnigegpigiaa.Pure

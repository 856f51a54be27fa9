/- FnGroupVersion: for every api version the parts that the package tells are those that the reference tells, the package's index and the reference's index being the same loop; no condition. -/
import Derived.Test.YtdomnigegpigiaaPFnGroupVersionx1
import Derived.Lib.IndexBytes
namespace Go.Proofs.Ytdomnigegpigiaa.Pure
open Go.RowKit Go.Proofs.Ytdomnigegpigiaa.PFnGroupVersion Go.Proofs.YtdomnigegpigiaaW.PrintWords Go.Proofs.YtdomnigegpigiaaW.PrintLast

theorem gv_idx_eq : ∀ (k : Nat) (s p : ByteArray) (i : Int), resid_zzIndex.l0 k s p i = spec_kyIndex.l0 k s p i := by
  intro k
  induction k with
  | zero => intros; rfl
  | succ k ih => intros; simp only [resid_zzIndex.l0, spec_kyIndex.l0, ih]

theorem gv_idx (s p : ByteArray) (hs : s.size ≤ 1000000) (hp : p.size ≤ 1000000) (d : Nat) : ∀ (k : Nat) (i : Int), 0 ≤ i → i ≤ s.size + 1 → (s.size : Int) + 1 - i = d → d < k →
    ∃ r, spec_kyIndex.l0 k s p i = some r ∧ (r = -1 ∨ 0 ≤ r ∧ r + p.size ≤ s.size) := by
  induction d with
  | zero =>
    intro k i h0 h1 hd hk
    obtain ⟨k, rfl⟩ : ∃ m, k = m + 1 := ⟨k - 1, by omega⟩
    have hw : wrap64 (i + (p.size : Int)) = i + p.size := by unfold wrap64; omega
    exact ⟨-1, by simp only [spec_kyIndex.l0]; rw [hw, if_neg (by omega)], .inl rfl⟩
  | succ d ih =>
    intro k i h0 h1 hd hk
    obtain ⟨k, rfl⟩ : ∃ m, k = m + 1 := ⟨k - 1, by omega⟩
    have hw : wrap64 (i + (p.size : Int)) = i + p.size := by unfold wrap64; omega
    have hw1 : wrap64 (i + 1) = i + 1 := by unfold wrap64; omega
    simp only [spec_kyIndex.l0]
    rw [hw, hw1]
    by_cases c : i + (p.size : Int) ≤ s.size
    · rw [if_pos c, if_pos h0, if_pos (by omega)]
      by_cases e : (s.extract i.toNat (i + (p.size : Int)).toNat).toList = p.toList
      · rw [if_pos e]
        exact ⟨i, rfl, .inr ⟨h0, c⟩⟩
      · rw [if_neg e]
        exact ih k (i + 1) (by omega) (by omega) (by omega) (by omega)
    · rw [if_neg c]
      exact ⟨-1, rfl, .inl rfl⟩

theorem gv_v1 (k : Nat) : resid_zzIndex.f (k + 4) (⟨#[118, 49]⟩ : ByteArray) (⟨#[47]⟩ : ByteArray) = some (-1) :=
  at_rounds (g := fun k => resid_zzIndex.f k (⟨#[118, 49]⟩ : ByteArray) (⟨#[47]⟩ : ByteArray)) (fun k => resid_zzIndex.mono _ _ k) (Nat.le_add_left 4 k) (by decide +kernel)

/-- YOURS: ∀ (a0 : ByteArray), a0.size ≤ 140737488351232 → ∃ k, laws_FnGroupVersion.f k a0 = some true -/
theorem FnGroupVersion : laws_FnGroupVersion.Pure := by
  intro a hn
  by_cases hb : (a.size : Int) > 2147483647
  · exact ⟨0, by unfold laws_FnGroupVersion.f; rw [if_pos hb]⟩
  · obtain ⟨m, hm, m0, m1, m2⟩ : ∃ m : Int, mn (a.size : Int) 80 = m ∧ 0 ≤ m ∧ m ≤ a.size ∧ m ≤ 80 := ⟨_, rfl, by unfold mn; omega, by unfold mn; omega, by unfold mn; omega⟩
    obtain ⟨s, hs⟩ : ∃ s : ByteArray, s = a.extract 0 m.toNat := ⟨_, rfl⟩
    have hsz : s.size ≤ 80 := by rw [hs, ByteArray.size_extract]; omega
    obtain ⟨r, hr, h⟩ := gv_idx s (⟨#[47]⟩ : ByteArray) (by omega) (by decide) (s.size + 1) (s.size + 6) 0 (by omega) (by omega) (by omega) (by omega)
    refine ⟨s.size + 2 + 4, ?_⟩
    have hr1 : spec_kyIndex.f (s.size + 2 + 4) s (⟨#[47]⟩ : ByteArray) = some r := hr
    have hr2 : resid_zzIndex.f (s.size + 2 + 4) s (⟨#[47]⟩ : ByteArray) = some r := (gv_idx_eq _ _ _ _).trans hr
    have hv : impl_GroupVersion.f (s.size + 2 + 4) (⟨#[118, 49]⟩ : ByteArray) = some ((⟨#[]⟩ : ByteArray), (⟨#[118, 49]⟩ : ByteArray)) := by
      unfold impl_GroupVersion.f resid_ParseGroupVersion.f
      rw [gv_v1]
      simp
    obtain ⟨q, hq1, hq2⟩ : ∃ q, impl_GroupVersion.f (s.size + 2 + 4) s = some q ∧ spec_KyGroupVersion.f (s.size + 2 + 4) s = some q := by
      unfold impl_GroupVersion.f resid_ParseGroupVersion.f spec_KyGroupVersion.f
      rw [hr1, hr2]
      simp only [Option.bind_some]
      rcases h with rfl | ⟨h0, h1⟩
      · exact ⟨(⟨#[]⟩, s), by simp, by simp⟩
      · have h1' : r + 1 ≤ s.size := h1
        have hw1 : wrap64 (r + 1) = r + 1 := by unfold wrap64; omega
        rw [hw1, if_pos (by omega : r > -1), if_pos h0, if_pos (by omega : r ≤ s.size), if_pos (by omega : 0 ≤ r + 1), if_pos h1']
        exact ⟨_, rfl, if_pos h0⟩
    unfold laws_FnGroupVersion.f
    rw [if_neg hb, hm, if_pos m0, if_pos m1, ← hs, hq1, hq2, hv]
    simp only [Option.bind_some]
    rw [if_pos trivial, if_pos trivial]
    have e : (⟨#[118, 49]⟩ : ByteArray).toList = ([118, 49] : List UInt8) := by rw [Lib.toList_data]
    rw [e]
    rfl

end Go.Proofs.Ytdomnigegpigiaa.Pure

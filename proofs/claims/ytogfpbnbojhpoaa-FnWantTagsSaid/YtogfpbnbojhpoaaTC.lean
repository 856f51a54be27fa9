/- Tables: keys that are sorted: slices.Sort, in a view. -/
import Derived.Test.YtogfpbnbojhpoaaTN
import Derived.Test.YtogfpbnbojhpoaaShelf
namespace Go.Proofs.YtogfpbnbojhpoaaV
open Go.RowKit
set_option linter.unusedSimpArgs false
set_option linter.unusedVariables false
theorem addr_add (b off j : Nat) : (Addr.mk b off none).add j = ⟨b, off + j, none⟩ := by
  unfold Addr.add
  split
  · rename_i h; subst h; rfl
  · rfl
theorem sorted_eq {ks sk : List ByteArray} (hp : sk.Perm ks) (hs : Rising sk) : (ks.map fun s => s.data.toList).mergeSort (fun (x y : List UInt8) => decide (x ≤ y)) = sk.map fun s => s.data.toList := by
  refine List.Perm.eq_of_pairwise (le := fun (x y : List UInt8) => decide (x ≤ y) = true) (fun a b _ _ h1 h2 => List.le_antisymm (by simpa using h1) (by simpa using h2)) ?_ ?_ ?_
  · refine List.pairwise_mergeSort (fun a b c h1 h2 => by simp only [decide_eq_true_eq] at *; exact List.le_trans h1 h2) (fun a b => ?_) _
    rcases List.le_total a b with h | h
    · simp [h]
    · simp [h]
  · rw [List.pairwise_map, List.pairwise_iff_getElem]
    intro i j hi hj hij
    have := rising_lt hs j i hj hij
    rw [ByteArray.toList_eq, ByteArray.toList_eq] at this
    exact decide_eq_true (List.le_of_lt this)
  · exact (List.mergeSort_perm _ _).trans (hp.symm.map _)
theorem putCells_get {off : Nat} {S : List (List UInt8)} {c : Array Value} (k : Nat) : (Go.Sort.putCells Go.Proofs.encStr off S.toArray c)[k]? = if off ≤ k ∧ k < off + S.length ∧ k < c.size then some (Go.Proofs.encStr S[k - off]!) else c[k]? := by
  unfold Go.Sort.putCells
  rw [Array.getElem?_mapIdx]
  by_cases hk : k < c.size
  · rw [Array.getElem?_eq_getElem hk]
    simp only [Option.map_some, List.size_toArray, hk, and_true]
    split
    · simp
    · rfl
  · rw [Array.getElem?_eq_none (by omega)]
    simp [hk]
theorem sort66 {D A : View} {u : Value} {n : Nat} {ks sk : List ByteArray} (h : Own D A 9 1 u n (ks.map Value.string)) (hD : D ≤ A) (hp : sk.Perm ks) (hs : Rising sk) (hn : n ≤ 1000000) :
    VCalls Try.prog 66 #[u] A fun r A' => r = .tuple #[] ∧ D ≤ A' ∧ Own D A' 9 1 u n (sk.map Value.string) ∧ ∀ k, blockOf u ≠ some k → A' k = A k := by
  intro w hw
  have hlen := hp.length_eq
  obtain ⟨h1, ⟨rfl, rfl⟩ | ⟨a, cap, rfl, hna⟩⟩ := h
  · simp only [sliceIn, Option.some.injEq] at h1
    have hks : ks = [] := by simpa using h1.symm
    subst hks
    have hsk : sk = [] := List.eq_nil_of_length_eq_zero (by simpa using hlen)
    subst hsk
    refine (Try.slices_Sort_string_none none 0 w).mono ?_
    rintro _ w' ⟨rfl, rfl⟩
    exact ⟨_, rfl, A, ⟨rfl, hD, ⟨rfl, .inl ⟨rfl, rfl⟩⟩, fun k _ => rfl⟩, hw, Kept.refl _ _⟩
  · have hol := sliceIn_length h1
    obtain ⟨c, hc, hsp, hnc, hsz, hcs⟩ := sliceIn_block h1
    have hnk : ks.length = n := by simpa using hol
    obtain ⟨blk, off, sp⟩ := a
    simp only at hsp hc hsz hna
    subst hsp
    have hcell : ∀ j, j < n → c[off + j]? = (ks.map Value.string)[j]? := by
      intro j hj
      have := cells?_get _ _ _ hcs j (by omega)
      rw [← this, Nat.zero_add, addr_add]
      simp only [View.cell?, hc, Option.isSome_none, Bool.false_eq_true, if_false]
    have hwc := hw blk _ hc
    have hL : (ks.map fun s => s.data.toList).length = n := by rw [List.length_map]; exact hnk
    have hC := Try.slices_Sort_string blk off cap (ks.map fun s => s.data.toList) w (fun j hj => ?_) (hw.lt (by rw [hc]; simp)) (by rw [hL]; omega)
    · rw [hL] at hC
      refine hC.mono ?_
      rintro _ w' ⟨rfl, m, os, rfl⟩
      rw [sorted_eq hp hs]
      have hne : A blk ≠ none := by rw [hc]; simp
      have hSl : (sk.map fun s => s.data.toList).length = n := by rw [List.length_map, hlen, hnk]
      refine ⟨_, rfl, A.set blk (.cells (Go.Sort.putCells Go.Proofs.encStr off (sk.map fun s => s.data.toList).toArray c) 9 (0, 0)), ⟨rfl, le_set' hD hna, ⟨?_, .inr ⟨_, _, rfl, hna⟩⟩, fun k hk => set_other fun hx => hk (by rw [hx]; rfl)⟩, ?_, ?_⟩
      · simp only [sliceIn, set_at]
        rw [if_pos ⟨trivial, trivial, hnc, by simpa [Go.Sort.putCells] using hsz⟩]
        refine cells?_intro _ _ _ (by rw [List.length_map, hlen, hnk]; omega) fun j hj => ?_
        rw [Nat.zero_add, addr_add]
        simp only [View.cell?, set_at, Option.isSome_none, Bool.false_eq_true, if_false]
        have hj' : j < n := by omega
        rw [putCells_get, if_pos ⟨by omega, by omega, by omega⟩, show off + j - off = j by omega, getElem!_pos _ j (by omega), List.getElem?_eq_getElem (by rw [List.length_map, hlen, hnk]; exact hj')]
        simp [Go.Proofs.encStr]
      · intro b o hb
        unfold View.set at hb
        by_cases hbb : b = blk
        · subst hbb
          simp only [if_true, Option.some.injEq] at hb
          subst hb
          have hlt := hw.lt hne
          simp [Go.Sort.grow, Go.Sort.putRow, Go.Sort.mapBlock, Go.Sort.ahead, Array.getElem?_append, hlt, Array.getElem?_modify, hwc, Go.Sort.onCells]
          have := (Array.getElem?_eq_some_iff.1 hwc).2
          rw [Array.getElem_modify, if_pos rfl, this]
          rfl
        · rw [if_neg hbb] at hb
          have hlt := hw.lt (b := b) (by rw [hb]; simp)
          have := hw b o hb
          simp [Go.Sort.grow, Go.Sort.putRow, Go.Sort.mapBlock, Go.Sort.ahead, Array.getElem?_append, hlt, Array.getElem?_modify, Ne.symm hbb, this]
          rw [Array.getElem_modify, if_neg (Ne.symm hbb)]
          exact (Array.getElem?_eq_some_iff.1 this).2
      · refine ⟨rfl, rfl, rfl, by simp [Go.Sort.grow, Go.Sort.putRow, Go.Sort.mapBlock, Go.Sort.ahead], fun b hb hA => ?_, fun b hb => .inl fun hA => ?_⟩
        · have hbb : blk ≠ b := fun hx => hne (by rw [hx]; exact hA)
          simp [Go.Sort.grow, Go.Sort.putRow, Go.Sort.mapBlock, Go.Sort.ahead, Array.getElem?_append, hb, Array.getElem?_modify, hbb]
          rw [Array.getElem_modify, if_neg hbb]
        · unfold View.set at hb
          by_cases hbb : b = blk
          · subst hbb; exact hne hA
          · rw [if_neg hbb] at hb; exact hb hA
    · have hj' : j < n := by simpa [hnk] using hj
      have h2 := hcell j hj'
      rw [List.getElem?_map, List.getElem?_eq_getElem (by omega), Option.map_some] at h2
      refine ⟨?_, ?_⟩
      · unfold World.cell?
        rw [hwc]
        simp only [Option.isSome_none, Bool.false_eq_true, if_false, h2]
        rw [getElem!_pos _ j hj]
        simp [Go.Proofs.encStr]
      · unfold World.frozen?
        rw [hwc]
        simp
end Go.Proofs.YtogfpbnbojhpoaaV

/- Trees: what plain trees are; where a node's cells lie. -/
import Derived.Test.YtpinamipjddobaaRV0
namespace Go.Proofs.YtpinamipjddobaaV
open Go.RowKit
set_option linter.unusedSimpArgs false
set_option linter.unusedVariables false
theorem PL.kid3 {lv : Nat} {t x : Tr} (h : PL lv t) (hx : x ∈ t.kids) : PL (lv - 1) x := by
  obtain ⟨k, st, tag, val, an, hh, l, f, row, col, al, kids, rfl⟩ := t.ex
  rw [PL] at h
  obtain ⟨j, hj, rfl⟩ := List.getElem_of_mem hx
  exact h.2.2.2 j hj
/-- What a plain tree is. -/
theorem PL.kinds {lv : Nat} {t : Tr} (h : PL lv t) : (t.kind = 8 ∧ t.kids = []) ∨ (t.kind = 2 ∧ t.tag = tSeq ∧ t.value = e0) ∨ (t.kind = 4 ∧ t.tag = tMap ∧ t.value = e0 ∧ t.kids.length % 2 = 0) := by
  obtain ⟨k, st, tag, val, an, hh, l, f, row, col, al, kids, rfl⟩ := t.ex
  rw [PL] at h
  obtain ⟨-, -, h | h | h, -⟩ := h
  · exact .inl ⟨h.1, h.2.1⟩
  · exact .inr (.inl h)
  · exact .inr (.inr ⟨h.1, h.2.1, h.2.2.1, h.2.2.2.1⟩)
theorem PL.nn1 {lv : Nat} {t : Tr} (h : PL lv t) (hn : ¬ (t.kind = 8 ∧ t.tag = tNull)) : t.kind ≠ 1 ∧ t.tag ≠ tNull := by
  rcases h.kinds with ⟨h1, -⟩ | ⟨h1, h2, -⟩ | ⟨h1, h2, -⟩
  · exact ⟨by omega, fun e => hn ⟨h1, e⟩⟩
  · exact ⟨by omega, by rw [h2]; decide⟩
  · exact ⟨by omega, by rw [h2]; decide⟩
theorem nds_kl9 (t : Tr) : t.kids.length ≤ nds t := by
  obtain ⟨k, st, tag, val, an, h, l, f, row, col, al, kids, rfl⟩ := t.ex
  rw [nds_mk]
  have := nds_len kids
  show kids.length ≤ _
  omega
theorem IsTr.at0 {A : View} {t : Tr} {c : Array Value} (hc : IsTr A t c) (h : 0 < c.size) : c[0] = .int .i64 t.kind := by
  obtain ⟨k, st, tag, val, an, hh, l, f, row, col, al, kids, rfl⟩ := t.ex
  obtain ⟨bb, bc0, rfl, g⟩ := hc.open
  rfl
theorem IsTr.at11 {A : View} {t : Tr} {c : Array Value} (hc : IsTr A t c) (h : 11 < c.size) : ∃ bb bc0, c[11] = .slice bb t.kids.length bc0 ∧ Trs A (.slice bb t.kids.length bc0) t.kids := by
  obtain ⟨k, st, tag, val, an, hh, l, f, row, col, al, kids, rfl⟩ := t.ex
  obtain ⟨bb, bc0, rfl, g⟩ := hc.open
  exact ⟨_, _, rfl, g⟩
theorem PL.ev2 {t : Tr} {lv : Nat} (h : PL lv t) (hk : t.kind = 4) : t.tag = tMap ∧ t.kids.length % 2 = 0 ∧ ∀ s i j, PlcAt t.kids s i → PlcAt t.kids s j → i = j := by
  obtain ⟨k, st, tag, val, an, hh, l, f, row, col, al, kids, rfl⟩ := t.ex
  rw [PL] at h
  replace hk : k = 4 := hk
  obtain ⟨-, -, h, -⟩ := h
  rcases h with h | h | h
  · omega
  · omega
  · refine ⟨h.2.1, h.2.2.2.1, fun s i j hi hj => ?_⟩
    obtain ⟨-, ht, -, -, -, hu⟩ := h
    obtain ⟨i1, i2, i3⟩ := hi
    obtain ⟨j1, j2, j3⟩ := hj
    replace i1 : i + 1 < kids.length := i1
    replace j1 : j + 1 < kids.length := j1
    rcases Nat.lt_trichotomy i j with h | h | h
    · exact absurd (i3.trans j3.symm) (hu j i (by omega) h j2 i2)
    · exact h
    · exact absurd (j3.trans i3.symm) (hu i j (by omega) h i2 j2)
end Go.Proofs.YtpinamipjddobaaV

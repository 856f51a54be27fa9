/- Roads: prefixes and suffixes. -/
import Derived.Test.YtpinamipjddobaaKY
namespace Go.Proofs.YtpinamipjddobaaV
open Go.RowKit
set_option linter.unusedSimpArgs false
set_option linter.unusedVariables false
theorem dlen (a : ByteArray) : a.data.toList.length = a.size := Array.length_toList
theorem app_data (a b : ByteArray) : (a ++ b).data.toList = a.data.toList ++ b.data.toList := by simp [ByteArray.data_append]
theorem app_size (a b : ByteArray) : (a ++ b).size = a.size + b.size := by
  rw [← dlen, app_data, List.length_append, dlen, dlen]
theorem app_ex1 (a b : ByteArray) : (a ++ b).extract 0 a.size = a := by
  apply ByteArray.ext
  apply Array.toList_inj.1
  have h := dlen a
  rw [Lib.extract_data, app_data, List.drop_zero, Nat.sub_zero, List.take_append_of_le_length (by omega), List.take_of_length_le (by omega)]
theorem app_ex2 (a b : ByteArray) : (a ++ b).extract ((a ++ b).size - b.size) (a ++ b).size = b := by
  apply ByteArray.ext
  apply Array.toList_inj.1
  have h := dlen a
  have h2 := dlen b
  rw [Lib.extract_data, app_data, app_size, show a.size + b.size - b.size = a.size by omega, List.drop_left' h, List.take_of_length_le (by omega)]
/-- Whether a text begins so; ends so. -/
def Pfx (s p : ByteArray) : Prop := p.size ≤ s.size ∧ s.extract 0 p.size = p
def Sfx (s p : ByteArray) : Prop := p.size ≤ s.size ∧ s.extract (s.size - p.size) s.size = p
instance (s p : ByteArray) : Decidable (Pfx s p) := inferInstanceAs (Decidable (_ ∧ _))
instance (s p : ByteArray) : Decidable (Sfx s p) := inferInstanceAs (Decidable (_ ∧ _))
def prf (s p : ByteArray) : ByteArray := if Pfx s p then s else p ++ s
def suf (s p : ByteArray) : ByteArray := if Sfx s p then s else s ++ p
theorem prf_pfx (s p : ByteArray) : Pfx (prf s p) p := by
  rw [prf]
  split
  · assumption
  · exact ⟨by rw [app_size]; omega, app_ex1 p s⟩
theorem suf_sfx (s p : ByteArray) : Sfx (suf s p) p := by
  rw [suf]
  split
  · assumption
  · exact ⟨by rw [app_size]; omega, app_ex2 s p⟩
theorem prf_twice (s p : ByteArray) : prf (prf s p) p = prf s p := by
  rw [prf, if_pos (prf_pfx s p)]
theorem suf_twice (s p : ByteArray) : suf (suf s p) p = suf s p := by
  rw [suf, if_pos (suf_sfx s p)]
theorem prf_size (s p : ByteArray) : (prf s p).size ≤ s.size + p.size := by
  rw [prf]
  split
  · omega
  · rw [app_size]; omega
theorem suf_size (s p : ByteArray) : (suf s p).size ≤ s.size + p.size := by
  rw [suf]
  split
  · omega
  · rw [app_size]; omega
/-- The topmost node's value and style may be changed. -/
theorem TopY.cell {A A' : View} {k st : Int} {tag val an h l f : ByteArray} {row col al : Int} {kids : List Tr} {p : Nat} (H : TopY A A' (.mk k st tag val an h l f row col al kids) p) :
    ∃ cv, A' p = some (.cells (ync k st tag val an cv h l f row col) 114 (0, 0)) ∧
      ∀ (st2 : Int) (tag2 val2 : ByteArray), TopY A (A'.set p (.cells (ync k st2 tag2 val2 an cv h l f row col) 114 (0, 0))) (.mk k st2 tag2 val2 an h l f row col al kids) p := by
  obtain ⟨B, cv, ps, h1, h2, h3, h4, h5, h6, h7, h8⟩ := H
  refine ⟨cv, h4, fun st2 tag2 val2 => ⟨B, cv, ps, h1, le_set0 h2 h3, h3, set_at _ _ _, own_move h5 fun b o e1 e2 e3 => ⟨e1, ?_⟩, h6, h7, h8⟩⟩
  rw [set_other (fun hx => h6 (by rw [← hx]; exact e2))]
  exact e3
end Go.Proofs.YtpinamipjddobaaV

/- Shell patterns: texts as lists of numbers. -/
import Derived.Test.YthjbgpmcfcijgaaDoorPC
import Derived.Lib.IndexBytes
namespace Go.Proofs.YthjbgpmcfcijgaaDoorV
set_option linter.unusedSimpArgs false
set_option linter.unusedVariables false
namespace Pm
theorem GL.err0 {p s : List Nat} (h : pat true p = none) : GL p s none := ⟨fun items hi => (by rw [h] at hi; cases hi), fun _ => by simp⟩
theorem Pc.bad {p c r : List Nat} {n : Nat} (h : Pc p n c r) (hr : Pm.pat true r = none) : Pm.pat true p = none := by
  rw [h.pat]
  split
  · rfl
  · rw [hr]; rfl
theorem Pc.bad1 {p c r : List Nat} {n : Nat} (h : Pc p n c r) (hc : Pm.pat false c = none) : Pm.pat true p = none := by
  rw [h.pat, hc]
def nb (s : ByteArray) : List Nat := s.data.toList.map (·.toNat)
theorem nb_len (s : ByteArray) : (nb s).length = s.size := by unfold nb; rw [List.length_map, Array.length_toList]; rfl
theorem nb_get {s : ByteArray} {i : Nat} (h : i < s.size) : (nb s)[i]? = some s[i].toNat := by
  unfold nb
  rw [List.getElem?_map, Array.getElem?_toList, Array.getElem?_eq_getElem h]
  rfl
theorem nb_extract (s : ByteArray) (i j : Nat) : nb (s.extract i j) = ((nb s).drop i).take (j - i) := by
  unfold nb
  rw [Lib.extract_data s i j]
  rw [List.map_take, List.map_drop]
theorem nb_drop (s : ByteArray) (i : Nat) : nb (s.extract i s.size) = (nb s).drop i := by
  rw [nb_extract, List.take_of_length_le (by rw [List.length_drop, nb_len]; exact Nat.le_refl _)]
theorem nb_nil {s : ByteArray} : nb s = [] ↔ s.size = 0 := by
  rw [← List.length_eq_zero_iff, nb_len]
theorem nb_cons {s : ByteArray} (h : 0 < s.size) : nb s = s[0].toNat :: nb (s.extract 1 s.size) := by
  rw [nb_drop]
  have h1 := nb_get h
  cases hn : nb s with
  | nil => rw [nb_nil] at hn; omega
  | cons c r =>
    rw [hn] at h1
    simp at h1
    simp [h1]
theorem extract_size' (s : ByteArray) (i : Nat) (h : i ≤ s.size) : (s.extract i s.size).size = s.size - i := by
  have h1 := nb_len (s.extract i s.size)
  rw [nb_drop, List.length_drop, nb_len] at h1
  omega
end Pm
end Go.Proofs.YthjbgpmcfcijgaaDoorV

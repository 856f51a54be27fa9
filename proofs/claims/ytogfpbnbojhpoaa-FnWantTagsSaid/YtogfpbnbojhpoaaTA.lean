/- Tables: values as data, read in a view; what is right. -/
import Derived.Test.YtogfpbnbojhpoaaV9
import Derived.Test.YtogfpbnbojhpoaaVT
namespace Go.Proofs.YtogfpbnbojhpoaaV
open Go.RowKit
set_option linter.unusedSimpArgs false
set_option linter.unusedVariables false
inductive RV where
  | mk (kind : Int) (b : Bool) (i : Int) (f : Nat) (t : ByteArray) (keys : List ByteArray) (list : List RV)
abbrev rvc (k : Int) (b : Bool) (i : Int) (f : Nat) (t : ByteArray) (ks ls : Value) : Array Value := #[.int .i64 k, .bool b, .int .i64 i, .float .f64 f, .string t, ks, ls]
/-- A value of the thin package's, in its seven cells. -/
def IsRV (A : View) : RV → Array Value → Prop
  | .mk k b i f t keys list, c => ∃ ks ls, c = rvc k b i f t ks ls ∧ Texts A ks keys ∧ keys.length ≤ 9223372036854775807 ∧ (∃ base cap, ls = .slice base list.length cap) ∧
      ∀ j (h : j < list.length), ∃ a cap c', ls = .slice (some a) list.length cap ∧ A.cells? (a.add (j * 7)) 0 7 = some c'.toList ∧ IsRV A (list[j]) c'
termination_by v => SizeOf.sizeOf v
decreasing_by
  have := List.sizeOf_lt_of_mem (List.getElem_mem h)
  simp
  omega
theorem IsRV.le {A B : View} (hle : A ≤ B) : ∀ (v : RV) (c : Array Value), IsRV A v c → IsRV B v c
  | .mk k b i f t keys list, c, h => by
    rw [IsRV] at h ⊢
    obtain ⟨ks, ls, h1, h2, h2', h3, h4⟩ := h
    refine ⟨ks, ls, h1, h2.le hle, h2', h3, fun j hj => ?_⟩
    obtain ⟨a, cap, c', h5, h6, h7⟩ := h4 j hj
    exact ⟨a, cap, c', h5, le_cells hle _ _ _ h6, IsRV.le hle _ _ h7⟩
termination_by v => SizeOf.sizeOf v
decreasing_by
  have := List.sizeOf_lt_of_mem (List.getElem_mem hj)
  simp
  omega
theorem IsRV.shape {A : View} {v : RV} {c : Array Value} (h : IsRV A v c) : ∃ k b i f t ks bs n cp, c = rvc k b i f t ks (.slice bs n cp) ∧ ∃ bk nk ck, ks = .slice bk nk ck := by
  obtain ⟨k, b, i, f, t, keys, list⟩ := v
  rw [IsRV] at h
  obtain ⟨ks, ls, rfl, h2, _, ⟨base, cap, rfl⟩, _⟩ := h
  obtain ⟨bk, ck, hk⟩ := h2.slice
  exact ⟨k, b, i, f, t, ks, base, list.length, cap, rfl, bk, _, ck, hk⟩
theorem IsRV.size {A : View} {v : RV} {c : Array Value} (h : IsRV A v c) : c.size = 7 := by
  obtain ⟨k, b, i, f, t, ks, bs, n, cp, rfl, _⟩ := h.shape
  rfl
theorem IsRV.one {A : View} {v : RV} {c : Array Value} (h : IsRV A v c) : ∀ x ∈ c.toList, one x = true := by
  obtain ⟨k, b, i, f, t, ks, bs, n, cp, rfl, bk, nk, ck, rfl⟩ := h.shape
  simp [Go.Proofs.YtogfpbnbojhpoaaV.one]
def nodes : RV → Nat
  | .mk _ _ _ _ _ _ list => 1 + (list.map nodes).sum
def Rising (keys : List ByteArray) : Prop := ∀ i (h : i + 1 < keys.length), Op.bytesLess (keys[i]'(by omega)).toList keys[i + 1].toList = true
def fine (f : Nat) : Prop := (FloatKind.format .f64).order f f = some .eq
def Kinds (k : Int) (f : Nat) (keys : List ByteArray) (n : Nat) : Prop := k = 0 ∨ k = 1 ∨ k = 2 ∨ k = 5 ∨ (k = 4 ∧ fine f) ∨ k = 6 ∨ (k = 7 ∧ Rising keys ∧ keys.length = n)
def Good : RV → Nat → Prop
  | .mk k _ _ f _ keys list, lv => 0 < lv ∧ (k < 6 → list = []) ∧ (k ≠ 7 → keys = []) ∧ Kinds k f keys list.length ∧ ∀ j (h : j < list.length), Good (list[j]) (lv - 1)
termination_by v => SizeOf.sizeOf v
decreasing_by
  have := List.sizeOf_lt_of_mem (List.getElem_mem h)
  simp
  omega
def isB (r : Value) : Prop := ∃ b, r = .bool b
@[go_sem] theorem isB_bool (b : Bool) : isB (.bool b) = True := eq_true ⟨b, rfl⟩
end Go.Proofs.YtogfpbnbojhpoaaV

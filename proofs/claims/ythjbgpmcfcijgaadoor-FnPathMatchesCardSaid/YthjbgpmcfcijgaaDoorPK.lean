/- Shell patterns: slices of structs; texts of runes; spec.heChar, takes. -/
import Derived.Test.YthjbgpmcfcijgaaDoorPJ
namespace Go.Proofs.YthjbgpmcfcijgaaDoorV
open Go.RowKit
open Pm (nb nb_len nb_get nb_drop nb_nil nb_cons nb_extract extract_size' It takes chr1)
set_option linter.unusedSimpArgs false
set_option linter.unusedVariables false
theorem addr_add (b off j : Nat) : (Addr.mk b off none).add j = ⟨b, off + j, none⟩ := by
  unfold Addr.add
  split
  · rename_i h; subst h; rfl
  · rfl
theorem Own.shape {A0 A : View} {e : TypeId} {size n : Nat} {v : Value} {cs : List Value} (h : Own A0 A e size v n cs) : ∃ bs cp, v = .slice bs n cp := by
  rcases h.2 with ⟨rfl, rfl⟩ | ⟨a, cap, rfl, _⟩
  · exact ⟨_, _, rfl⟩
  · exact ⟨_, _, rfl⟩
theorem own_move {D B D' B' : View} {e : TypeId} {size n : Nat} {u : Value} {cs : List Value} (h : Own D B e size u n cs) (hk : ∀ k o, D k = none → blockOf u = some k → B k = some o → D' k = none ∧ B' k = some o) : Own D' B' e size u n cs := by
  obtain ⟨h1, ⟨rfl, rfl⟩ | ⟨a, cap, rfl, hn⟩⟩ := h
  · exact ⟨h1, .inl ⟨rfl, rfl⟩⟩
  · obtain ⟨c, h3, _⟩ := sliceIn_block h1
    obtain ⟨h4, h5⟩ := hk _ _ hn rfl h3
    exact ⟨by rw [← h1]; exact sliceIn_congr (by rw [h5, h3]), .inr ⟨a, cap, rfl, h4⟩⟩
/-- A slice of structs of k cells. -/
def Elems (A : View) (k : Nat) (v : Value) {α : Type} (l : List α) (Q : View → α → Array Value → Prop) : Prop :=
  ∃ bs cap, v = .slice bs l.length cap ∧ ∀ j (h : j < l.length), ∃ a c, bs = some a ∧ A.cells? (a.add (j * k)) 0 k = some c.toList ∧ Q A l[j] c
theorem Elems.le {A B : View} {k : Nat} {v : Value} {α : Type} {l : List α} {Q : View → α → Array Value → Prop} (hQ : ∀ x c, Q A x c → Q B x c) (h : A ≤ B) (e : Elems A k v l Q) : Elems B k v l Q := by
  obtain ⟨bs, cap, h1, h2⟩ := e
  exact ⟨bs, cap, h1, fun j hj => let ⟨a, c, g1, g2, g3⟩ := h2 j hj; ⟨a, c, g1, le_cells h _ _ _ g2, hQ _ _ g3⟩⟩
theorem Elems.slice {A : View} {k : Nat} {v : Value} {α : Type} {l : List α} {Q : View → α → Array Value → Prop} (e : Elems A k v l Q) : ∃ bs cap, v = .slice bs l.length cap := let ⟨bs, cap, h, _⟩ := e; ⟨bs, cap, h⟩
theorem Elems.nil (A : View) (k : Nat) {α : Type} (Q : View → α → Array Value → Prop) : Elems A k (.slice none 0 0) ([] : List α) Q := ⟨none, 0, rfl, fun j h => absurd h (Nat.not_lt_zero _)⟩
def Parts (k : Nat) (cs : List Value) {α : Type} (l : List α) (Q : α → Array Value → Prop) : Prop := ∀ j (h : j < l.length), ∃ c : Array Value, (cs.drop (j * k)).take k = c.toList ∧ c.size = k ∧ Q l[j] c
theorem Parts.nil (k : Nat) {α : Type} (Q : α → Array Value → Prop) : Parts k [] ([] : List α) Q := fun j h => absurd h (Nat.not_lt_zero _)
theorem tdk_left {k : Nat} {vs cs : List Value} {i j : Nat} (h : vs.length = j * k) (hi : i < j) : ((vs ++ cs).drop (i * k)).take k = (vs.drop (i * k)).take k := by
  have : i * k + k ≤ j * k := by rw [← Nat.succ_mul]; exact Nat.mul_le_mul_right _ hi
  rw [List.drop_append_of_le_length (by omega), List.take_append_of_le_length (by rw [List.length_drop]; omega)]
theorem tdk_right {k : Nat} {vs cs : List Value} {j : Nat} (h : vs.length = j * k) (hc : cs.length = k) : ((vs ++ cs).drop (j * k)).take k = cs := by
  rw [← h, List.drop_left, List.take_of_length_le (by omega)]
theorem Parts.push {k : Nat} {cs : List Value} {α : Type} {l : List α} {Q : α → Array Value → Prop} {x : α} {c : Array Value} (h : Parts k cs l Q) (hl : cs.length = l.length * k) (hc : c.size = k) (hx : Q x c) : Parts k (cs ++ c.toList) (l ++ [x]) Q := by
  intro j hj
  by_cases h1 : j < l.length
  · obtain ⟨c', g1, g2, g3⟩ := h j h1
    exact ⟨c', by rw [tdk_left hl h1]; exact g1, g2, by rw [List.getElem_append_left h1]; exact g3⟩
  · have h2 : j = l.length := by simp at hj; omega
    subst h2
    exact ⟨c, tdk_right hl (by rw [Array.length_toList]; exact hc), hc, by simpa using hx⟩
theorem cells_partk {A : View} {k b off N i : Nat} {vs : List Value} (h : A.cells? ⟨b, off, none⟩ 0 N = some vs) (hi : i * k + k ≤ N) : A.cells? ((Addr.mk b off none).add (i * k)) 0 k = some ((vs.drop (i * k)).take k) := by
  have hl := cells?_length _ _ _ h
  refine cells?_intro _ _ _ (by rw [List.length_take, List.length_drop]; omega) fun j hj => ?_
  have := cells?_get _ _ _ h (i * k + j) (by omega)
  rw [Nat.zero_add, addr_add] at this
  rw [addr_add, Nat.zero_add, addr_add, Nat.add_assoc, this, List.getElem?_take_of_lt hj, List.getElem?_drop]
theorem Own.elems {D0 D : View} {t : TypeId} {k : Nat} {v : Value} {α : Type} {l : List α} {cs : List Value} {Q : View → α → Array Value → Prop} (h : Own D0 D t k v l.length cs) (hp : Parts k cs l (Q D)) : Elems D k v l Q := by
  obtain ⟨hs, ⟨rfl, h0⟩ | ⟨a, cap, rfl, hn⟩⟩ := h
  · exact ⟨none, 0, by rw [h0], fun j hj => by omega⟩
  · refine ⟨some a, cap, rfl, fun j hj => ?_⟩
    obtain ⟨c, _, hsp, _, _, hcs⟩ := sliceIn_block hs
    obtain ⟨blk, off, sp⟩ := a
    simp only at hsp
    subst hsp
    obtain ⟨ci, h1, h2, h3⟩ := hp j hj
    refine ⟨_, ci, rfl, ?_, h3⟩
    rw [← h1]
    have : j * k + k ≤ l.length * k := by rw [← Nat.succ_mul]; exact Nat.mul_le_mul_right _ hj
    exact cells_partk hcs this
theorem Parts.le {k : Nat} {cs : List Value} {α : Type} {l : List α} {Q Q' : α → Array Value → Prop} (h : Parts k cs l Q) (hQ : ∀ x c, Q x c → Q' x c) : Parts k cs l Q' := fun j hj => let ⟨c, g1, g2, g3⟩ := h j hj; ⟨c, g1, g2, hQ _ _ g3⟩
theorem Own.clen {A0 A : View} {e : TypeId} {size n : Nat} {v : Value} {cs : List Value} (h : Own A0 A e size v n cs) : cs.length = n * size := by
  obtain ⟨b, c, rfl⟩ := h.shape
  exact sliceIn_length h.1
abbrev QR : View → Nat × Nat → Array Value → Prop := fun _ x c => c = #[.int .i32 (x.1 : Nat), .int .i32 (x.2 : Nat)]
abbrev Rgs (A : View) (v : Value) (l : List (Nat × Nat)) : Prop := Elems A 2 v l QR
theorem Rgs.le {A B : View} (h : A ≤ B) {v : Value} {l : List (Nat × Nat)} (e : Rgs A v l) : Rgs B v l := Elems.le (A := A) (B := B) (fun _ _ h => h) h e
abbrev itc (k : Nat) (n : Bool) (rv : Value) (c : Nat) : Array Value := #[.int .u8 k, .bool n, rv, .int .i32 c]
/-- An item of a pattern as the reference has it. -/
def IsIt (A : View) (x : It) (c : Array Value) : Prop := match x with
  | .star => c = itc 42 false (.slice none 0 0) 0
  | .any => c = itc 63 false (.slice none 0 0) 0
  | .chr k => c = itc 99 false (.slice none 0 0) k
  | .cls n rs => ∃ rv, c = itc 91 n rv 0 ∧ Rgs A rv rs
theorem IsIt.le {A B : View} (h : A ≤ B) {x : It} {c : Array Value} (e : IsIt A x c) : IsIt B x c := by
  cases x with
  | cls n rs => obtain ⟨rv, h1, h2⟩ := e; exact ⟨rv, h1, h2.le h⟩
  | _ => exact e
theorem IsIt.size {A : View} {x : It} {c : Array Value} (e : IsIt A x c) : c.size = 4 := by
  cases x with
  | cls n rs => obtain ⟨rv, h1, h2⟩ := e; rw [h1]; rfl
  | _ => rw [show c = _ from e]; rfl
theorem IsIt.ones {A : View} {x : It} {c : Array Value} (e : IsIt A x c) : ones c = true := by
  cases x with
  | cls n rs => obtain ⟨rv, h1, h2⟩ := e; obtain ⟨b, c', rfl⟩ := h2.slice; rw [h1]; rfl
  | _ => rw [show c = _ from e]; rfl
abbrev Its (A : View) (v : Value) (l : List It) : Prop := Elems A 4 v l IsIt
theorem Its.le {A B : View} (h : A ≤ B) {v : Value} {l : List It} (e : Its A v l) : Its B v l := Elems.le (fun _ _ g => g.le h) h e
/-- A text of runes. -/
def Rn (A : View) (v : Value) (l : List Nat) : Prop := ∃ b o cap, v = .slice (some ⟨b, o, none⟩) l.length cap ∧ l.length ≤ cap ∧ ∀ j (h : j < l.length), A.cell? ⟨b, o + j, none⟩ = some (.int .i32 (l[j] : Nat))
theorem Rn.le {A B : View} (h : A ≤ B) {v : Value} {l : List Nat} (e : Rn A v l) : Rn B v l := let ⟨b, o, cap, h1, h2, h3⟩ := e; ⟨b, o, cap, h1, h2, fun j hj => le_cell h (h3 j hj)⟩
theorem Rn.tail {A : View} {b o cap n c : Nat} {l : List Nat} (h : Rn A (.slice (some ⟨b, o, none⟩) n cap) (c :: l)) : Rn A (.slice (if cap = 1 then some ⟨b, o, none⟩ else some ⟨b, o + 1, none⟩) l.length (cap - 1)) l := by
  obtain ⟨b', o', cap', h1, h2, h3⟩ := h
  simp only [Value.slice.injEq, Option.some.injEq, Addr.mk.injEq, and_true] at h1
  obtain ⟨⟨rfl, rfl⟩, rfl, rfl⟩ := h1
  simp only [List.length_cons] at h2
  by_cases h1 : cap = 1
  · subst h1
    have : l = [] := List.length_eq_zero_iff.1 (by omega)
    subst this
    exact ⟨b, o, 0, rfl, Nat.le_refl _, fun j hj => by cases hj⟩
  · rw [if_neg h1]
    refine ⟨b, o + 1, cap - 1, rfl, by omega, fun j hj => ?_⟩
    have := h3 (j + 1) (by simp; omega)
    rw [show o + 1 + j = o + (j + 1) by omega, this]
    simp
theorem asc_rune {S : ByteArray} (h : Asc S) : ∀ i (hi : i < S.size), S[i].toNat < 128 := fun i hi => h.at' hi
theorem Rn.of {A : View} {b cap : Nat} {S : ByteArray} (hc : S.size ≤ cap) (h : A b = some (.cells (runeCells S cap) 21 (0, 0))) : Rn A (.slice (some ⟨b, 0, none⟩) S.size cap) (nb S) := by
  refine ⟨b, 0, cap, by rw [nb_len], by rw [nb_len]; exact hc, fun j hj => ?_⟩
  rw [nb_len] at hj
  refine cell_of h ?_
  have hg := nb_get hj
  rw [List.getElem?_eq_getElem (by rw [nb_len]; exact hj)] at hg
  rw [Option.some.inj hg, Nat.zero_add]
  unfold runeCells
  have hj2 : j < S.data.size := hj
  rw [Array.getElem?_append_left (by rw [Array.size_map]; exact hj2), Array.getElem?_map, Array.getElem?_eq_getElem hj2]
  rfl
end Go.Proofs.YthjbgpmcfcijgaaDoorV

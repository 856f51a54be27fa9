/- Charts: slices of structs, wants and imports. -/
import Derived.Test.YtogfpbnbojhpoaaTO
import Derived.Test.YtogfpbnbojhpoaaUG
namespace Go.Proofs.YtogfpbnbojhpoaaV
open Go.RowKit
set_option linter.unusedSimpArgs false
set_option linter.unusedVariables false
/-- A slice of structs of k cells. -/
def Elems (A : View) (k : Nat) (v : Value) {α : Type} (l : List α) (Q : View → α → Array Value → Prop) : Prop :=
  ∃ bs cap, v = .slice bs l.length cap ∧ ∀ j (h : j < l.length), ∃ a c, bs = some a ∧ A.cells? (a.add (j * k)) 0 k = some c.toList ∧ Q A l[j] c
theorem Elems.le {A B : View} {k : Nat} {v : Value} {α : Type} {l : List α} {Q : View → α → Array Value → Prop} (hQ : ∀ x c, Q A x c → Q B x c) (h : A ≤ B) (e : Elems A k v l Q) : Elems B k v l Q := by
  obtain ⟨bs, cap, h1, h2⟩ := e
  exact ⟨bs, cap, h1, fun j hj => let ⟨a, c, g1, g2, g3⟩ := h2 j hj; ⟨a, c, g1, le_cells h _ _ _ g2, hQ _ _ g3⟩⟩
theorem Elems.slice {A : View} {k : Nat} {v : Value} {α : Type} {l : List α} {Q : View → α → Array Value → Prop} (e : Elems A k v l Q) : ∃ bs cap, v = .slice bs l.length cap := let ⟨bs, cap, h, _⟩ := e; ⟨bs, cap, h⟩
theorem Elems.nil (A : View) (k : Nat) {α : Type} (Q : View → α → Array Value → Prop) : Elems A k (.slice none 0 0) ([] : List α) Q := ⟨none, 0, rfl, fun j h => absurd h (Nat.not_lt_zero _)⟩
def Parts (k : Nat) (cs : List Value) {α : Type} (l : List α) (Q : α → Array Value → Prop) : Prop := ∀ j (h : j < l.length), ∃ c : Array Value, (cs.drop (j * k)).take k = c.toList ∧ c.size = k ∧ Q l[j] c
theorem Parts.nil (k : Nat) {α : Type} (Q : α → Array Value → Prop) : Parts k [] ([] : List α) Q := fun j h => absurd h (Nat.not_lt_zero _)
theorem tdk_left {k : Nat} {vs cs : List Value} {i j : Nat} (h : vs.length = j * k) (hi : i < j) : ((vs ++ cs).drop (i * k)).take k = (vs.drop (i * k)).take k := by
  have : i * k + k ≤ j * k := by rw [← Nat.succ_mul]; exact Nat.mul_le_mul_right _ hi
  rw [List.drop_append_of_le_length (by omega), List.take_append_of_le_length (by rw [List.length_drop]; omega)]
theorem tdk_right {k : Nat} {vs cs : List Value} {j : Nat} (h : vs.length = j * k) (hc : cs.length = k) : ((vs ++ cs).drop (j * k)).take k = cs := by
  rw [← h, List.drop_left, List.take_of_length_le (by omega)]
theorem Parts.push {k : Nat} {cs : List Value} {α : Type} {l : List α} {Q : α → Array Value → Prop} {x : α} {c : Array Value} (h : Parts k cs l Q) (hl : cs.length = l.length * k) (hc : c.size = k) (hx : Q x c) : Parts k (cs ++ c.toList) (l ++ [x]) Q := by
  intro j hj
  by_cases h1 : j < l.length
  · obtain ⟨c', g1, g2, g3⟩ := h j h1
    exact ⟨c', by rw [tdk_left hl h1]; exact g1, g2, by rw [List.getElem_append_left h1]; exact g3⟩
  · have h2 : j = l.length := by simp at hj; omega
    subst h2
    exact ⟨c, tdk_right hl (by rw [Array.length_toList]; exact hc), hc, by simpa using hx⟩
theorem cells_partk {A : View} {k b off N i : Nat} {vs : List Value} (h : A.cells? ⟨b, off, none⟩ 0 N = some vs) (hi : i * k + k ≤ N) : A.cells? ((Addr.mk b off none).add (i * k)) 0 k = some ((vs.drop (i * k)).take k) := by
  have hl := cells?_length _ _ _ h
  refine cells?_intro _ _ _ (by rw [List.length_take, List.length_drop]; omega) fun j hj => ?_
  have := cells?_get _ _ _ h (i * k + j) (by omega)
  rw [Nat.zero_add, addr_add] at this
  rw [addr_add, Nat.zero_add, addr_add, Nat.add_assoc, this, List.getElem?_take_of_lt hj, List.getElem?_drop]
theorem Own.elems {D0 D : View} {t : TypeId} {k : Nat} {v : Value} {α : Type} {l : List α} {cs : List Value} {Q : View → α → Array Value → Prop} (h : Own D0 D t k v l.length cs) (hp : Parts k cs l (Q D)) : Elems D k v l Q := by
  obtain ⟨hs, ⟨rfl, h0⟩ | ⟨a, cap, rfl, hn⟩⟩ := h
  · exact ⟨none, 0, by rw [h0], fun j hj => by omega⟩
  · refine ⟨some a, cap, rfl, fun j hj => ?_⟩
    obtain ⟨c, _, hsp, _, _, hcs⟩ := sliceIn_block hs
    obtain ⟨blk, off, sp⟩ := a
    simp only at hsp
    subst hsp
    obtain ⟨ci, h1, h2, h3⟩ := hp j hj
    refine ⟨_, ci, rfl, ?_, h3⟩
    rw [← h1]
    have : j * k + k ≤ l.length * k := by rw [← Nat.succ_mul]; exact Nat.mul_le_mul_right _ hj
    exact cells_partk hcs this
structure Imp where
  name : ByteArray
  child : ByteArray
  parent : ByteArray
  pair : Bool
def impc (i : Imp) : Array Value := #[.string i.name, .string i.child, .string i.parent, .bool i.pair]
abbrev QI : View → Imp → Array Value → Prop := fun _ i c => c = impc i
abbrev Imps (A : View) (v : Value) (l : List Imp) : Prop := Elems A 4 v l QI
structure Wt where
  name : ByteArray
  ver : ByteArray
  cond : ByteArray
  alias : ByteArray
  tags : List ByteArray
  en : Bool
  imps : List Imp
abbrev wc (n v c a : ByteArray) (tg : Value) (e : Bool) (im : Value) : Array Value := #[.string n, .string v, .string c, .string a, tg, .bool e, im]
def IsW (A : View) (w : Wt) (c : Array Value) : Prop := ∃ tg im, c = wc w.name w.ver w.cond w.alias tg w.en im ∧ Texts A tg w.tags ∧ Imps A im w.imps
abbrev Wants (A : View) (v : Value) (l : List Wt) : Prop := Elems A 7 v l IsW
theorem Imps.le {A B : View} (h : A ≤ B) {v : Value} {l : List Imp} (e : Imps A v l) : Imps B v l := Elems.le (A := A) (B := B) (fun _ _ h => h) h e
theorem IsW.le {A B : View} (h : A ≤ B) {w : Wt} {c : Array Value} (e : IsW A w c) : IsW B w c := let ⟨tg, im, h1, h2, h3⟩ := e; ⟨tg, im, h1, h2.le h, Imps.le h h3⟩
theorem Wants.le {A B : View} (h : A ≤ B) {v : Value} {l : List Wt} (e : Wants A v l) : Wants B v l := Elems.le (fun _ _ g => g.le h) h e
theorem IsW.size {A : View} {w : Wt} {c : Array Value} (e : IsW A w c) : c.size = 7 := let ⟨_, _, h1, _⟩ := e; by rw [h1]; rfl
theorem IsW.ones {A : View} {w : Wt} {c : Array Value} (e : IsW A w c) : ones c = true := by
  obtain ⟨tg, im, rfl, h2, h3⟩ := e
  obtain ⟨b1, c1, rfl⟩ := h2.slice
  obtain ⟨b2, c2, rfl⟩ := h3.slice
  rfl
section
variable {H : Type} {enc : TypeId × Value → H} {W : World} {base : Nat} {spare : Nat → Bool} {held : Bool}
theorem list4 {α : Type} {l : List α} (h : l.length = 4) : ∃ c0 c1 c2 c3, l = [c0, c1, c2, c3] := by
  match l, h with
  | [c0, c1, c2, c3], _ => exact ⟨c0, c1, c2, c3, rfl⟩
set_option maxRecDepth 20000 in
theorem opn_elems {α : Type} {t e : TypeId} {k : Nat} {Q : View → α → Array Value → Prop} (ht : Try.prog.underlying t = some (.slice e)) (hk : Try.prog.cellsOf e = k) (hel : ∀ fuel cs x, DataW.trod enc Try.prog W base spare held fuel e cs = some x → ∃ y : α, Q (full W) y cs.toArray) :
    Opn enc Try.prog W base spare held t (fun v (l : List α) => Elems (full W) k v l Q ∧ l.length ≤ maxLen) := by
  intro fuel cs x h
  rcases DataW.trod_slice ht h with ⟨rfl, _⟩ | ⟨a, len, cap, elems, rest, m, _, rfl, _, hb, hl, hm, hlen, hel2, _, _⟩
  · exact ⟨_, [], rfl, Elems.nil _ _ _, by simp⟩
  · have each : ∀ i, i < len → ∃ y : Array Value × α, (full W).cells? (a.add (i * k)) 0 k = some y.1.toList ∧ Q (full W) y.2 y.1 := by
      intro i hi
      have h1 := hel2 i hi
      rw [List.getElem?_eq_getElem (by omega), Option.bind_eq_some_iff] at h1
      obtain ⟨cs, hcs, htr⟩ := h1
      rw [hk] at hcs
      obtain ⟨y, hy⟩ := hel _ _ _ htr
      obtain ⟨_, hl1, hcell⟩ := World.cells?_some hcs
      refine ⟨(cs.toArray, y), ?_, hy⟩
      refine cells?_intro _ _ _ hl1 fun j hj => ?_
      rw [Nat.zero_add]
      exact hcell j hj
    obtain ⟨ys, hyl, hys⟩ := choose_list len _ each
    refine ⟨_, ys.map (·.2), rfl, ⟨some a, cap, by rw [List.length_map, hyl], fun j hj => ?_⟩, by simp; omega⟩
    have hj' : j < ys.length := by simpa using hj
    have := hys j _ (List.getElem?_eq_getElem hj')
    exact ⟨a, ys[j].1, rfl, this.1, by rw [List.getElem_map]; exact this.2⟩
theorem opn_imp : ∀ (fuel : Nat) (cs : List Value) (x : DataW H × List MemPlace), DataW.trod enc Try.prog W base spare held fuel 61 cs = some x → ∃ y : Imp, QI (full W) y cs.toArray := by
  intro fuel cs x h
  obtain ⟨xs, n, hf, hxe, hl, hxl, hx⟩ := DataW.trod_struct Try.underlying61 h
  rw [show Try.prog.cellsOf 61 = 4 by kernel_rfl] at hl
  have hxl : xs.length = 4 := hxl
  obtain ⟨c0, c1, c2, c3, rfl⟩ := list4 hl
  have sm : ∀ (i : Nat) (t : TypeId) (c : Value) (hi : i < xs.length), DataW.trod enc Try.prog W base spare held n t [c] = xs[i]? → DataW.trod enc Try.prog W base spare held n t [c] = some xs[i] := fun i t c hi h => h.trans (List.getElem?_eq_getElem hi)
  have h0 := sm 0 9 c0 (by omega) (by have := hx 0 _ rfl; simpa [show Try.prog.cellsOf 9 = 1 by kernel_rfl] using this)
  have h1 := sm 1 9 c1 (by omega) (by have := hx 1 _ rfl; simpa [show Try.prog.cellsOf 9 = 1 by kernel_rfl] using this)
  have h2 := sm 2 9 c2 (by omega) (by have := hx 2 _ rfl; simpa [show Try.prog.cellsOf 9 = 1 by kernel_rfl] using this)
  have h3 := sm 3 4 c3 (by omega) (by have := hx 3 _ rfl; simpa [show Try.prog.cellsOf 9 = 1 by kernel_rfl, show Try.prog.cellsOf 4 = 1 by kernel_rfl] using this)
  obtain ⟨s0, e0, -⟩ := DataW.trod_string Try.underlying9 h0
  obtain ⟨s1, e1, -⟩ := DataW.trod_string Try.underlying9 h1
  obtain ⟨s2, e2, -⟩ := DataW.trod_string Try.underlying9 h2
  obtain ⟨b, e3, -⟩ := DataW.trod_bool Try.underlying4 h3
  obtain rfl := (List.cons.inj e0).1
  obtain rfl := (List.cons.inj e1).1
  obtain rfl := (List.cons.inj e2).1
  obtain rfl := (List.cons.inj e3).1
  exact ⟨⟨s0, s1, s2, b⟩, rfl⟩
theorem opn_want : ∀ (fuel : Nat) (cs : List Value) (x : DataW H × List MemPlace), DataW.trod enc Try.prog W base spare held fuel 34 cs = some x → ∃ y : Wt, IsW (full W) y cs.toArray := by
  intro fuel cs x h
  obtain ⟨xs, n, hf, hxe, hl, hxl, hx⟩ := DataW.trod_struct Try.underlying34 h
  rw [show Try.prog.cellsOf 34 = 7 by kernel_rfl] at hl
  have hxl : xs.length = 7 := hxl
  obtain ⟨c0, c1, c2, c3, c4, c5, c6, rfl⟩ := list7 hl
  have sm : ∀ (i : Nat) (t : TypeId) (c : Value) (hi : i < xs.length), DataW.trod enc Try.prog W base spare held n t [c] = xs[i]? → DataW.trod enc Try.prog W base spare held n t [c] = some xs[i] := fun i t c hi h => h.trans (List.getElem?_eq_getElem hi)
  have z9 : Try.prog.cellsOf 9 = 1 := by kernel_rfl
  have z4 : Try.prog.cellsOf 4 = 1 := by kernel_rfl
  have z24 : Try.prog.cellsOf 24 = 1 := by kernel_rfl
  have z32 : Try.prog.cellsOf 32 = 1 := by kernel_rfl
  have h0 := sm 0 9 c0 (by omega) (by have := hx 0 _ rfl; simpa [z9] using this)
  have h1 := sm 1 9 c1 (by omega) (by have := hx 1 _ rfl; simpa [z9] using this)
  have h2 := sm 2 9 c2 (by omega) (by have := hx 2 _ rfl; simpa [z9] using this)
  have h3 := sm 3 9 c3 (by omega) (by have := hx 3 _ rfl; simpa [z9] using this)
  have h4 := sm 4 24 c4 (by omega) (by have := hx 4 _ rfl; simpa [z9, z24] using this)
  have h5 := sm 5 4 c5 (by omega) (by have := hx 5 _ rfl; simpa [z9, z24, z4] using this)
  have h6 := sm 6 32 c6 (by omega) (by have := hx 6 _ rfl; simpa [z9, z24, z4, z32] using this)
  obtain ⟨s0, e0, -⟩ := DataW.trod_string Try.underlying9 h0
  obtain ⟨s1, e1, -⟩ := DataW.trod_string Try.underlying9 h1
  obtain ⟨s2, e2, -⟩ := DataW.trod_string Try.underlying9 h2
  obtain ⟨s3, e3, -⟩ := DataW.trod_string Try.underlying9 h3
  obtain ⟨tg, tags, e4, ht, -⟩ := opn_texts (P := Try.prog) Try.underlying24 Try.underlying9 z9 n _ _ h4
  obtain ⟨b, e5, -⟩ := DataW.trod_bool Try.underlying4 h5
  obtain ⟨im, imps, e6, hi, -⟩ := opn_elems (Q := QI) Try.underlying32 (k := 4) (by kernel_rfl) opn_imp n _ _ h6
  obtain rfl := (List.cons.inj e0).1
  obtain rfl := (List.cons.inj e1).1
  obtain rfl := (List.cons.inj e2).1
  obtain rfl := (List.cons.inj e3).1
  obtain rfl := (List.cons.inj e4).1
  obtain rfl := (List.cons.inj e5).1
  obtain rfl := (List.cons.inj e6).1
  exact ⟨⟨s0, s1, s2, s3, tags, b, imps⟩, _, _, rfl, ht, hi⟩
theorem opn_wants : Opn enc Try.prog W base spare held 22 (fun v (l : List Wt) => Wants (full W) v l ∧ l.length ≤ maxLen) := opn_elems Try.underlying22 (by kernel_rfl) opn_want
end
end Go.Proofs.YtogfpbnbojhpoaaV

/- The logic of views: what an argument's reading says of the whole heap, as a view. -/
import Derived.Test.YtpinamipjddobaaV6
import Derived.ChangeArms
import Derived.DataReads
import Derived.WideShapes
import Derived.WalkKit
import Derived.OpenShut
namespace Go.Proofs.YtpinamipjddobaaV
open Go.RowKit
set_option linter.unusedSimpArgs false
set_option linter.unusedVariables false
theorem choose_list {α : Type} (n : Nat) (R : Nat → α → Prop) (h : ∀ i, i < n → ∃ y, R i y) : ∃ ys : List α, ys.length = n ∧ ∀ i y, ys[i]? = some y → R i y := by
  induction n with
  | zero => exact ⟨[], rfl, fun i y hy => by simp at hy⟩
  | succ n ih =>
    obtain ⟨ys, hl, hy⟩ := ih (fun i hi => h i (by omega))
    obtain ⟨y, hR⟩ := h n (by omega)
    refine ⟨ys ++ [y], by rw [List.length_append, hl]; rfl, fun i z hz => ?_⟩
    rcases Nat.lt_or_ge i n with hi | hi
    · rw [List.getElem?_append_left (by omega)] at hz
      exact hy i z hz
    · have hlt := (List.getElem?_eq_some_iff.1 hz).1
      rw [List.length_append, hl] at hlt
      have hi' : i = n := by simp at hlt; omega
      subst hi'
      have e : y = z := by rw [← hl] at hz; simpa using hz
      subst e
      exact hR
variable {H : Type} {enc : TypeId × Value → H} {P : Program} {W : World} {base : Nat} {spare : Nat → Bool} {held : Bool}
/-- What a reading at a type of one cell says. -/
def Opn (enc : TypeId × Value → H) (P : Program) (W : World) (base : Nat) (spare : Nat → Bool) (held : Bool) {α : Type} (t : TypeId) (Q : Value → α → Prop) : Prop :=
  ∀ fuel cs x, DataW.trod enc P W base spare held fuel t cs = some x → ∃ v y, cs = [v] ∧ Q v y
theorem opn_string {t : TypeId} (ht : P.underlying t = some .string) : Opn enc P W base spare held t (fun v (s : ByteArray) => v = .string s ∧ s.size ≤ maxLen) := by
  intro fuel cs x h
  obtain ⟨s, rfl, _, hs⟩ := DataW.trod_string ht h
  exact ⟨_, s, rfl, rfl, hs⟩
theorem cells_row {A : View} {a : Addr} (vs : List Value) (h : ∀ i v, vs[i]? = some v → A.cell? (a.add i) = some v) : A.cells? a 0 (vs.length * 1) = some vs := by
  refine cells?_intro _ _ _ (by simp) fun j hj => ?_
  rw [Nat.mul_one] at hj
  rw [Nat.zero_add, List.getElem?_eq_getElem hj]
  exact h j _ (List.getElem?_eq_getElem hj)
theorem opn_slice {α : Type} {t e : TypeId} {Q : Value → α → Prop} (ht : P.underlying t = some (.slice e)) (hc : P.cellsOf e = 1) (hel : Opn enc P W base spare held e Q) :
    Opn enc P W base spare held t (fun v (ys : List α) => ∃ vs, Row (full W) 1 v ys.length vs ∧ vs.length = ys.length ∧ ys.length ≤ maxLen ∧ ∀ i (h : i < ys.length), ∃ u, vs[i]? = some u ∧ Q u ys[i]) := by
  intro fuel cs x h
  rcases DataW.trod_slice ht h with ⟨rfl, _⟩ | ⟨a, len, cap, elems, rest, m, _, rfl, _, hb, hl, hm, hlen, hel2, _, _⟩
  · exact ⟨_, [], rfl, [], .inr ⟨rfl, rfl, rfl⟩, rfl, by simp, fun i h => absurd h (by simp)⟩
  · have each : ∀ i, i < len → ∃ y : Value × α, W.cell? (a.add i) = some y.1 ∧ Q y.1 y.2 := by
      intro i hi
      have h1 := hel2 i hi
      rw [List.getElem?_eq_getElem (by omega), Option.bind_eq_some_iff] at h1
      obtain ⟨cs, hcs, htr⟩ := h1
      obtain ⟨v, y, rfl, hq⟩ := hel _ _ _ htr
      obtain ⟨_, hl1, hcell⟩ := World.cells?_some hcs
      have h2 := hcell 0 (by rw [hc]; omega)
      rw [Addr.add_add, hc, Nat.mul_one, Nat.add_zero] at h2
      exact ⟨(v, y), h2, hq⟩
    obtain ⟨ys, hyl, hys⟩ := choose_list len _ each
    refine ⟨_, ys.map (·.2), rfl, ys.map (·.1), .inl ⟨a, cap, by rw [List.length_map, hyl], ?_⟩, by simp, by simp; omega, fun i h => ?_⟩
    · have := cells_row (A := full W) (a := a) (ys.map (·.1)) fun i v hv => by
        obtain ⟨y, hy, rfl⟩ := Option.map_eq_some_iff.1 (by rw [← List.getElem?_map]; exact hv)
        exact (hys i y hy).1
      simpa using this
    · have h' : i < ys.length := by simpa using h
      refine ⟨ys[i].1, by simp [h'], ?_⟩
      have := (hys i ys[i] (List.getElem?_eq_getElem h')).2
      simpa using this
theorem opn_texts {t e : TypeId} (ht : P.underlying t = some (.slice e)) (he : P.underlying e = some .string) (hc : P.cellsOf e = 1) :
    Opn enc P W base spare held t (fun v (l : List ByteArray) => Texts (full W) v l ∧ l.length ≤ maxLen ∧ ∀ s ∈ l, s.size ≤ maxLen) := by
  intro fuel cs x h
  obtain ⟨v, ys, h1, vs, h2, h3, h4, h5⟩ := opn_slice ht hc (opn_string he) fuel cs x h
  have : vs = ys.map .string := by
    refine List.ext_getElem? fun i => ?_
    by_cases hi : i < ys.length
    · obtain ⟨u, hu, rfl, _⟩ := h5 i hi
      rw [hu]
      simp [hi]
    · rw [List.getElem?_eq_none (by omega), List.getElem?_eq_none (by simp; omega)]
  subst this
  refine ⟨v, ys, h1, h2, h4, fun s hs => ?_⟩
  obtain ⟨j, hj, rfl⟩ := List.getElem_of_mem hs
  obtain ⟨u, _, _, h6⟩ := h5 j hj
  exact h6
theorem opn_rows2 {t e g : TypeId} (ht : P.underlying t = some (.slice e)) (he : P.underlying e = some (.slice g)) (hg : P.underlying g = some .string) (hc : P.cellsOf e = 1) (hcg : P.cellsOf g = 1) :
    Opn enc P W base spare held t (fun v (l : List (List ByteArray)) => Rows2 (full W) v l ∧ l.length ≤ maxLen ∧ ∀ y ∈ l, y.length ≤ maxLen ∧ ∀ s ∈ y, s.size ≤ maxLen) := by
  intro fuel cs x h
  obtain ⟨v, ys, h1, vs, h2, h3, h4, h5⟩ := opn_slice ht hc (opn_texts he hg hcg) fuel cs x h
  refine ⟨v, ys, h1, ⟨vs, h2, h3, fun i hi => ?_⟩, h4, fun y hy => ?_⟩
  · obtain ⟨u, hu, h6, _⟩ := h5 i hi
    exact ⟨u, hu, h6⟩
  · obtain ⟨j, hj, rfl⟩ := List.getElem_of_mem hy
    obtain ⟨u, _, _, h6⟩ := h5 j hj
    exact h6
/-- With what is known of its capacity. -/
theorem opn_cap {α : Type} {t e : TypeId} {Q : Value → α → Prop} (ht : P.underlying t = some (.slice e)) (h : Opn enc P W base spare held t Q) :
    Opn enc P W base spare held t (fun v y => Q v y ∧ ∃ b n c, v = .slice b n c ∧ n ≤ c) := by
  intro fuel cs x hx
  obtain ⟨v, y, hc, hq⟩ := h fuel cs x hx
  refine ⟨v, y, hc, hq, ?_⟩
  rcases DataW.trod_slice ht hx with ⟨h1, _⟩ | ⟨a, len, cap, elems, rest, m, _, h1, _, _, hl, _⟩
  · rw [hc] at h1
    exact ⟨_, _, _, (List.cons.inj h1).1, Nat.le_refl _⟩
  · rw [hc] at h1
    exact ⟨_, _, _, (List.cons.inj h1).1, hl⟩
theorem opn_int {t : TypeId} {k : IntKind} (ht : P.underlying t = some (.int k)) : Opn enc P W base spare held t (fun v (n : Int) => v = .int k n ∧ (Lit.int k n).wf = true) := by
  intro fuel cs x h
  obtain ⟨n, rfl, _, hw⟩ := DataW.trod_int ht h
  exact ⟨_, n, rfl, rfl, hw⟩
theorem opn_trod {α : Type} {t : TypeId} {Q : Value → α → Prop} (h : Opn enc P W base spare held t Q) {v : Value} {d : DataW H} {ps : List MemPlace} (hv : v.cells = #[v]) (hd : DataW.Trod enc P W base spare held t v d ps) : ∃ y, Q v y := by
  obtain ⟨fuel, hf⟩ := hd
  rw [hv] at hf
  obtain ⟨u, y, hu, hq⟩ := h _ _ _ hf
  simp only [List.cons.injEq, and_true] at hu
  subst hu
  exact ⟨y, hq⟩
/-! ### A struct by value: its fields' cells -/
theorem agg_of {t : TypeId} {fs : Array Field} {r : Reach} {b0 : Nat} {v : Value} {d : DataW H} {p : List MemPlace} (hs : P.underlying t = some (.struct fs)) (hv : Value.okWide P W r b0 t v)
    (h : DataW.Trod enc P W base spare held t v d p) : ∃ (cs : Array Value) (n : Nat), v = .agg cs ∧ cs.size = P.cellsOf t ∧ ∀ (i : Nat) (f : Field), fs[i]? = some f → ∃ y, DataW.trod enc P W base spare held n f.type ((cs.toList.drop f.offset).take (P.cellsOf f.type)) = some y := by
  obtain ⟨cs, rfl, hsz⟩ := Go.WideShapes.okWide_struct hs hv
  obtain ⟨fuel, hf⟩ := h
  obtain ⟨xs, n, _, _, _, hlen, hx⟩ := DataW.trod_struct hs hf
  refine ⟨cs, n, rfl, hsz, fun i f hi => ?_⟩
  have h1 := hx i f hi
  have hil : i < fs.size := by
    rcases Nat.lt_or_ge i fs.size with h2 | h2
    · exact h2
    · rw [Array.getElem?_eq_none h2] at hi; cases hi
  rw [List.getElem?_eq_getElem (by omega)] at h1
  exact ⟨_, h1⟩

theorem array1 {α : Type} {cs : Array α} (h : cs.size = 1) : ∃ c0, cs = #[c0] := by
  obtain ⟨l⟩ := cs
  match l, h with
  | [c0], _ => exact ⟨c0, rfl⟩
theorem array2 {α : Type} {cs : Array α} (h : cs.size = 2) : ∃ c0 c1, cs = #[c0, c1] := by
  obtain ⟨l⟩ := cs
  match l, h with
  | [c0, c1], _ => exact ⟨c0, c1, rfl⟩
theorem array3 {α : Type} {cs : Array α} (h : cs.size = 3) : ∃ c0 c1 c2, cs = #[c0, c1, c2] := by
  obtain ⟨l⟩ := cs
  match l, h with
  | [c0, c1, c2], _ => exact ⟨c0, c1, c2, rfl⟩
theorem array4 {α : Type} {cs : Array α} (h : cs.size = 4) : ∃ c0 c1 c2 c3, cs = #[c0, c1, c2, c3] := by
  obtain ⟨l⟩ := cs
  match l, h with
  | [c0, c1, c2, c3], _ => exact ⟨c0, c1, c2, c3, rfl⟩
theorem array5 {α : Type} {cs : Array α} (h : cs.size = 5) : ∃ c0 c1 c2 c3 c4, cs = #[c0, c1, c2, c3, c4] := by
  obtain ⟨l⟩ := cs
  match l, h with
  | [c0, c1, c2, c3, c4], _ => exact ⟨c0, c1, c2, c3, c4, rfl⟩
theorem array6 {α : Type} {cs : Array α} (h : cs.size = 6) : ∃ c0 c1 c2 c3 c4 c5, cs = #[c0, c1, c2, c3, c4, c5] := by
  obtain ⟨l⟩ := cs
  match l, h with
  | [c0, c1, c2, c3, c4, c5], _ => exact ⟨c0, c1, c2, c3, c4, c5, rfl⟩
theorem array7 {α : Type} {cs : Array α} (h : cs.size = 7) : ∃ c0 c1 c2 c3 c4 c5 c6, cs = #[c0, c1, c2, c3, c4, c5, c6] := by
  obtain ⟨l⟩ := cs
  match l, h with
  | [c0, c1, c2, c3, c4, c5, c6], _ => exact ⟨c0, c1, c2, c3, c4, c5, c6, rfl⟩
theorem array8 {α : Type} {cs : Array α} (h : cs.size = 8) : ∃ c0 c1 c2 c3 c4 c5 c6 c7, cs = #[c0, c1, c2, c3, c4, c5, c6, c7] := by
  obtain ⟨l⟩ := cs
  match l, h with
  | [c0, c1, c2, c3, c4, c5, c6, c7], _ => exact ⟨c0, c1, c2, c3, c4, c5, c6, c7, rfl⟩
theorem array9 {α : Type} {cs : Array α} (h : cs.size = 9) : ∃ c0 c1 c2 c3 c4 c5 c6 c7 c8, cs = #[c0, c1, c2, c3, c4, c5, c6, c7, c8] := by
  obtain ⟨l⟩ := cs
  match l, h with
  | [c0, c1, c2, c3, c4, c5, c6, c7, c8], _ => exact ⟨c0, c1, c2, c3, c4, c5, c6, c7, c8, rfl⟩
theorem array10 {α : Type} {cs : Array α} (h : cs.size = 10) : ∃ c0 c1 c2 c3 c4 c5 c6 c7 c8 c9, cs = #[c0, c1, c2, c3, c4, c5, c6, c7, c8, c9] := by
  obtain ⟨l⟩ := cs
  match l, h with
  | [c0, c1, c2, c3, c4, c5, c6, c7, c8, c9], _ => exact ⟨c0, c1, c2, c3, c4, c5, c6, c7, c8, c9, rfl⟩
theorem array11 {α : Type} {cs : Array α} (h : cs.size = 11) : ∃ c0 c1 c2 c3 c4 c5 c6 c7 c8 c9 c10, cs = #[c0, c1, c2, c3, c4, c5, c6, c7, c8, c9, c10] := by
  obtain ⟨l⟩ := cs
  match l, h with
  | [c0, c1, c2, c3, c4, c5, c6, c7, c8, c9, c10], _ => exact ⟨c0, c1, c2, c3, c4, c5, c6, c7, c8, c9, c10, rfl⟩
theorem array12 {α : Type} {cs : Array α} (h : cs.size = 12) : ∃ c0 c1 c2 c3 c4 c5 c6 c7 c8 c9 c10 c11, cs = #[c0, c1, c2, c3, c4, c5, c6, c7, c8, c9, c10, c11] := by
  obtain ⟨l⟩ := cs
  match l, h with
  | [c0, c1, c2, c3, c4, c5, c6, c7, c8, c9, c10, c11], _ => exact ⟨c0, c1, c2, c3, c4, c5, c6, c7, c8, c9, c10, c11, rfl⟩

end Go.Proofs.YtpinamipjddobaaV

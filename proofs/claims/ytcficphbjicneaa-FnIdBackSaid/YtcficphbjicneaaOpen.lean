/- How an argument that reads as data is the list that the printed walks speak of: a row of a slice, from the reading of its elements. -/
import Derived.Test.YtcficphbjicneaaWSized
import Derived.Test.YtcficphbjicneaaWNEv
import Derived.WalkKit
import Derived.ProofKit
import Derived.OpenShut
import Derived.ShutString
import Derived.ChangeOld
import Derived.Below
import Derived.SizedLaws
import Derived.ChangeArms
import Derived.DataReads
namespace Go.Proofs.Ytcficphbjicneaa.Open
open Go.RowKit Go.Proofs.YtcficphbjicneaaW.PrintWords Go.Proofs.YtcficphbjicneaaW.PrintLast

theorem choose_list {α : Type} (n : Nat) (R : Nat → α → Prop) (h : ∀ i, i < n → ∃ y, R i y) : ∃ ys : List α, ys.length = n ∧ ∀ i y, ys[i]? = some y → R i y := by
  induction n with
  | zero => exact ⟨[], rfl, fun i y hy => by simp at hy⟩
  | succ n ih =>
    obtain ⟨ys, hl, hy⟩ := ih (fun i hi => h i (by omega))
    obtain ⟨y, hR⟩ := h n (by omega)
    refine ⟨ys ++ [y], by rw [List.length_append, hl]; rfl, fun i z hz => ?_⟩
    rcases Nat.lt_or_ge i n with hi | hi
    · rw [List.getElem?_append_left (by omega)] at hz
      exact hy i z hz
    · have hlt := (List.getElem?_eq_some_iff.1 hz).1
      rw [List.length_append, hl] at hlt
      have hi' : i = n := by simp at hlt; omega
      subst hi'
      have e : y = z := by rw [← hl] at hz; simpa using hz
      subst e
      exact hR

variable {H : Type} {enc : TypeId × Value → H} {P : Program} {W : World} {base : Nat} {spare : Nat → Bool} {held : Bool}

/-- What a reading at type e says of the cells: kind d's reading, and Q. -/
def El (enc : TypeId × Value → H) (P : Program) (W : World) (base : Nat) (spare : Nat → Bool) (held : Bool) {α : Type} (e : TypeId) (d : Kd α) (Q : α → Prop) : Prop :=
  ∀ fuel cs x, DataW.trod enc P W base spare held fuel e cs = some x → ∃ y, d.K W y cs ∧ Q y

theorem el_string {t : TypeId} (ht : P.underlying t = some .string) : El enc P W base spare held t Kd.string (fun s => s.size ≤ maxLen) := by
  intro fuel cs x h
  obtain ⟨s, rfl, _, hs⟩ := DataW.trod_string ht h
  exact ⟨s, rfl, hs⟩
theorem el_bool {t : TypeId} (ht : P.underlying t = some .bool) : El enc P W base spare held t Kd.bool (fun _ => True) := by
  intro fuel cs x h
  obtain ⟨s, rfl, _⟩ := DataW.trod_bool ht h
  exact ⟨s, rfl, trivial⟩
theorem el_int {t : TypeId} {k : IntKind} (ht : P.underlying t = some (.int k)) : El enc P W base spare held t (Kd.int k) (fun n => (Lit.int k n).wf = true) := by
  intro fuel cs x h
  obtain ⟨n, rfl, _, hw⟩ := DataW.trod_int ht h
  exact ⟨n, rfl, hw⟩

theorem row {α : Type} {t e : TypeId} {d : Kd α} {Q : α → Prop} {A : Option Addr} {n c fuel : Nat} {x : DataW H × List MemPlace} (ht : P.underlying t = some (.slice e)) (hc : P.cellsOf e = d.sz)
    (hel : El enc P W base spare held e d Q) (h : DataW.trod enc P W base spare held fuel t [.slice A n c] = some x) : ∃ xs : List α, xs.length = n ∧ n ≤ c ∧ d.C W A n xs ∧ (∀ y, y ∈ xs → Q y) ∧ c ≤ maxLen := by
  rcases DataW.trod_slice ht h with ⟨h0, _⟩ | ⟨a, len, cap, elems, rest, m, _, h0, _, hb, hl, hm, hlen, hel2, _, _⟩
  · obtain ⟨rfl, rfl, rfl⟩ : A = none ∧ n = 0 ∧ c = 0 := by simpa using h0
    exact ⟨[], rfl, Nat.le_refl _, ⟨rfl, by omega, fun hn => by omega⟩, fun y hy => by simp at hy, by unfold maxLen; omega⟩
  · obtain ⟨rfl, rfl, rfl⟩ : A = some a ∧ n = len ∧ c = cap := by simpa using h0
    have each : ∀ i, i < n → ∃ y, (∃ cs, cs.length = d.sz ∧ d.K W y cs ∧ ∀ j u, cs[j]? = some u → W.cell? (a.add (i * d.sz + j)) = some u) ∧ Q y := by
      intro i hi
      have h1 := hel2 i hi
      rw [List.getElem?_eq_getElem (by omega), Option.bind_eq_some_iff] at h1
      obtain ⟨cs, hcs, htr⟩ := h1
      obtain ⟨y, hy, hq⟩ := hel _ _ _ htr
      obtain ⟨_, hl1, hcell⟩ := World.cells?_some hcs
      refine ⟨y, ⟨cs, by rw [hl1, hc], hy, fun j u hu => ?_⟩, hq⟩
      have hj : j < cs.length := (List.getElem?_eq_some_iff.1 hu).1
      have h2 := hcell j (by omega)
      rw [Addr.add_add, hu, hc] at h2
      exact h2
    obtain ⟨ys, hyl, hys⟩ := choose_list n _ each
    refine ⟨ys, hyl, hl, ⟨hyl, by unfold maxLen at hm; omega, fun _ => ⟨a, rfl, fun j p hj => ?_⟩⟩, fun y hy => ?_, hm⟩
    · obtain ⟨⟨cs, h1, h2, h3⟩, _⟩ := hys j p hj
      exact ⟨cs, h1, h2, h3⟩
    · obtain ⟨j, hj⟩ := List.mem_iff_getElem?.1 hy
      exact (hys j y hj).2

theorem el_slice {α : Type} {t e : TypeId} {d : Kd α} {Q : α → Prop} (ht : P.underlying t = some (.slice e)) (hc : P.cellsOf e = d.sz) (hel : El enc P W base spare held e d Q) :
    El enc P W base spare held t (Kd.slice e d) (fun xs => ∀ y, y ∈ xs → Q y) := by
  intro fuel cs x h
  have hsh : ∃ A n c, cs = [.slice A n c] := by
    rcases DataW.trod_slice ht h with ⟨h0, _⟩ | ⟨a, len, cap, elems, rest, m, _, h0, _⟩
    · exact ⟨_, _, _, h0⟩
    · exact ⟨_, _, _, h0⟩
  obtain ⟨A, n, c, rfl⟩ := hsh
  obtain ⟨xs, hl, hn, hC, hQ, hm⟩ := row ht hc hel h
  subst hl
  exact ⟨xs, ⟨A, c, rfl, hn, hC⟩, hQ⟩

/-! ### A struct by value: its fields' cells -/
theorem agg_of {t : TypeId} {fs : Array Field} {r : Reach} {b0 : Nat} {v : Value} {d : DataW H} {p : List MemPlace} (hs : P.underlying t = some (.struct fs)) (hv : Value.okWide P W r b0 t v)
    (h : DataW.Trod enc P W base spare held t v d p) : ∃ (cs : Array Value) (n : Nat), v = .agg cs ∧ cs.size = P.cellsOf t ∧ ∀ (i : Nat) (f : Field), fs[i]? = some f → ∃ y, DataW.trod enc P W base spare held n f.type ((cs.toList.drop f.offset).take (P.cellsOf f.type)) = some y := by
  obtain ⟨cs, rfl, hsz⟩ := Go.WideShapes.okWide_struct hs hv
  obtain ⟨fuel, hf⟩ := h
  obtain ⟨xs, n, _, _, _, hlen, hx⟩ := DataW.trod_struct hs hf
  refine ⟨cs, n, rfl, hsz, fun i f hi => ?_⟩
  have h1 := hx i f hi
  have hil : i < fs.size := by
    rcases Nat.lt_or_ge i fs.size with h2 | h2
    · exact h2
    · rw [Array.getElem?_eq_none h2] at hi; cases hi
  rw [List.getElem?_eq_getElem (by omega)] at h1
  exact ⟨_, h1⟩

theorem array1 {α : Type} {cs : Array α} (h : cs.size = 1) : ∃ c0, cs = #[c0] := by
  obtain ⟨l⟩ := cs
  match l, h with
  | [c0], _ => exact ⟨c0, rfl⟩
theorem array2 {α : Type} {cs : Array α} (h : cs.size = 2) : ∃ c0 c1, cs = #[c0, c1] := by
  obtain ⟨l⟩ := cs
  match l, h with
  | [c0, c1], _ => exact ⟨c0, c1, rfl⟩
theorem array3 {α : Type} {cs : Array α} (h : cs.size = 3) : ∃ c0 c1 c2, cs = #[c0, c1, c2] := by
  obtain ⟨l⟩ := cs
  match l, h with
  | [c0, c1, c2], _ => exact ⟨c0, c1, c2, rfl⟩
theorem array4 {α : Type} {cs : Array α} (h : cs.size = 4) : ∃ c0 c1 c2 c3, cs = #[c0, c1, c2, c3] := by
  obtain ⟨l⟩ := cs
  match l, h with
  | [c0, c1, c2, c3], _ => exact ⟨c0, c1, c2, c3, rfl⟩
theorem array5 {α : Type} {cs : Array α} (h : cs.size = 5) : ∃ c0 c1 c2 c3 c4, cs = #[c0, c1, c2, c3, c4] := by
  obtain ⟨l⟩ := cs
  match l, h with
  | [c0, c1, c2, c3, c4], _ => exact ⟨c0, c1, c2, c3, c4, rfl⟩
theorem array6 {α : Type} {cs : Array α} (h : cs.size = 6) : ∃ c0 c1 c2 c3 c4 c5, cs = #[c0, c1, c2, c3, c4, c5] := by
  obtain ⟨l⟩ := cs
  match l, h with
  | [c0, c1, c2, c3, c4, c5], _ => exact ⟨c0, c1, c2, c3, c4, c5, rfl⟩
theorem array7 {α : Type} {cs : Array α} (h : cs.size = 7) : ∃ c0 c1 c2 c3 c4 c5 c6, cs = #[c0, c1, c2, c3, c4, c5, c6] := by
  obtain ⟨l⟩ := cs
  match l, h with
  | [c0, c1, c2, c3, c4, c5, c6], _ => exact ⟨c0, c1, c2, c3, c4, c5, c6, rfl⟩
theorem array8 {α : Type} {cs : Array α} (h : cs.size = 8) : ∃ c0 c1 c2 c3 c4 c5 c6 c7, cs = #[c0, c1, c2, c3, c4, c5, c6, c7] := by
  obtain ⟨l⟩ := cs
  match l, h with
  | [c0, c1, c2, c3, c4, c5, c6, c7], _ => exact ⟨c0, c1, c2, c3, c4, c5, c6, c7, rfl⟩
theorem array9 {α : Type} {cs : Array α} (h : cs.size = 9) : ∃ c0 c1 c2 c3 c4 c5 c6 c7 c8, cs = #[c0, c1, c2, c3, c4, c5, c6, c7, c8] := by
  obtain ⟨l⟩ := cs
  match l, h with
  | [c0, c1, c2, c3, c4, c5, c6, c7, c8], _ => exact ⟨c0, c1, c2, c3, c4, c5, c6, c7, c8, rfl⟩
theorem array10 {α : Type} {cs : Array α} (h : cs.size = 10) : ∃ c0 c1 c2 c3 c4 c5 c6 c7 c8 c9, cs = #[c0, c1, c2, c3, c4, c5, c6, c7, c8, c9] := by
  obtain ⟨l⟩ := cs
  match l, h with
  | [c0, c1, c2, c3, c4, c5, c6, c7, c8, c9], _ => exact ⟨c0, c1, c2, c3, c4, c5, c6, c7, c8, c9, rfl⟩
theorem array11 {α : Type} {cs : Array α} (h : cs.size = 11) : ∃ c0 c1 c2 c3 c4 c5 c6 c7 c8 c9 c10, cs = #[c0, c1, c2, c3, c4, c5, c6, c7, c8, c9, c10] := by
  obtain ⟨l⟩ := cs
  match l, h with
  | [c0, c1, c2, c3, c4, c5, c6, c7, c8, c9, c10], _ => exact ⟨c0, c1, c2, c3, c4, c5, c6, c7, c8, c9, c10, rfl⟩
theorem array12 {α : Type} {cs : Array α} (h : cs.size = 12) : ∃ c0 c1 c2 c3 c4 c5 c6 c7 c8 c9 c10 c11, cs = #[c0, c1, c2, c3, c4, c5, c6, c7, c8, c9, c10, c11] := by
  obtain ⟨l⟩ := cs
  match l, h with
  | [c0, c1, c2, c3, c4, c5, c6, c7, c8, c9, c10, c11], _ => exact ⟨c0, c1, c2, c3, c4, c5, c6, c7, c8, c9, c10, c11, rfl⟩

end Go.Proofs.Ytcficphbjicneaa.Open

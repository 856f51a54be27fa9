/- Tables: what an argument's reading says of a value, and of the sizes of its keys. -/
import Derived.Test.YtogfpbnbojhpoaaUI
import Derived.Test.YtogfpbnbojhpoaaTO
import Derived.SizedLaws
namespace Go.Proofs.YtogfpbnbojhpoaaV
open Go.RowKit
set_option linter.unusedSimpArgs false
set_option linter.unusedVariables false
section
variable {H : Type} {enc : TypeId × Value → H} {W : World} {base : Nat} {spare : Nat → Bool} {held : Bool}
theorem weightsAll_mem {P : Program} {e : TypeId} {n : Nat} : ∀ {l : List (DataW H)} {d : DataW H}, d ∈ l → n ∈ d.weights P e → n ∈ DataW.weightsAll P e l
  | [], _, h, _ => by cases h
  | a :: l, d, h, hn => by
    rw [DataW.weightsAll, List.mem_append]
    rcases List.mem_cons.1 h with h | h
    · subst h; exact .inl hn
    · exact .inr (weightsAll_mem h hn)
theorem opn_textsk {P : Program} {t e : TypeId} (ht : P.underlying t = some (.slice e)) (he : P.underlying e = some .string) (hc : P.cellsOf e = 1) {fuel : Nat} {cs : List Value} {x : DataW H × List MemPlace} {N : Nat} (h : DataW.trod enc P W base spare held fuel t cs = some x)
    (hz : ∀ n ∈ x.1.weights P t, n ≤ N) : ∃ v l, cs = [v] ∧ Texts (full W) v l ∧ l.length ≤ maxLen ∧ ∀ s ∈ l, s.size ≤ N := by
  obtain ⟨v, l, h1, h2, h3, _⟩ := opn_texts ht he hc fuel cs x h
  refine ⟨v, l, h1, h2, h3, fun s hs => ?_⟩
  obtain ⟨j, hj, rfl⟩ := List.getElem_of_mem hs
  obtain ⟨a, cap, e1, e2⟩ := h2.at' hj
  rcases DataW.trod_slice ht h with ⟨e6, _⟩ | ⟨a', len, cap', elems, rest, m, hm, e6, ex, hb, hl, hmx, hlen, hel2, _, _⟩
  · rw [h1, e1] at e6; simp at e6
  · rw [h1, e1] at e6
    simp only [List.cons.injEq, Value.slice.injEq, Option.some.injEq, and_true] at e6
    obtain ⟨rfl, rfl, rfl⟩ := e6
    have h4 := hel2 j hj
    rw [List.getElem?_eq_getElem (by omega), Option.bind_eq_some_iff] at h4
    obtain ⟨cs1, hcs, htr⟩ := h4
    obtain ⟨_, hl1, hcell⟩ := World.cells?_some hcs
    obtain ⟨s', e7, e8, _⟩ := DataW.trod_string he htr
    have h5 := hcell 0 (by rw [hc]; omega)
    rw [hc, Nat.mul_one, Addr.add_add, Nat.add_zero, e7] at h5
    have h6 : (full W).cell? (a.add j) = some (.string s') := h5
    rw [e2] at h6
    simp only [Option.some.injEq, Value.string.injEq] at h6
    rw [h6]
    have h7 := hz s'.data.toList.length (by
      rw [ex]
      simp only [DataW.weights, ht]
      refine List.mem_cons_of_mem _ (List.mem_append.2 (.inl ?_))
      refine weightsAll_mem (d := (elems[j]'(by omega)).1) (List.mem_map.2 ⟨_, List.getElem_mem _, rfl⟩) ?_
      rw [e8]
      simp [DataW.weights])
    simpa using h7
theorem opn_rvk : ∀ (fuel : Nat) (cs : List Value) (x : DataW H × List MemPlace), DataW.trod enc Try.prog W base spare held fuel 27 cs = some x → (∀ n ∈ x.1.weights Try.prog 27, n ≤ reachBytes) → ∃ y : RV, IsRV (full W) y cs.toArray ∧ KB y := by
  intro fuel
  induction fuel using Nat.strongRecOn with
  | _ fuel ih =>
  intro cs x h hz
  obtain ⟨xs, n, hf, hxe, hl, hxl, hx⟩ := DataW.trod_struct Try.underlying27 h
  rw [show Try.prog.cellsOf 27 = 7 by kernel_rfl] at hl
  have hxl : xs.length = 7 := hxl
  obtain ⟨c0, c1, c2, c3, c4, c5, c6, rfl⟩ := list7 hl
  have sm : ∀ (i : Nat) (t : TypeId) (c : Value) (hi : i < xs.length), DataW.trod enc Try.prog W base spare held n t [c] = xs[i]? → DataW.trod enc Try.prog W base spare held n t [c] = some xs[i] := fun i t c hi h => h.trans (List.getElem?_eq_getElem hi)
  have h0 := sm 0 3 c0 (by omega) (by have := hx 0 _ rfl; simpa [show Try.prog.cellsOf 3 = 1 by kernel_rfl] using this)
  have h1 := sm 1 4 c1 (by omega) (by have := hx 1 _ rfl; simpa [show Try.prog.cellsOf 4 = 1 by kernel_rfl] using this)
  have h2 := sm 2 2 c2 (by omega) (by have := hx 2 _ rfl; simpa [show Try.prog.cellsOf 2 = 1 by kernel_rfl] using this)
  have h3 := sm 3 23 c3 (by omega) (by have := hx 3 _ rfl; simpa [show Try.prog.cellsOf 23 = 1 by kernel_rfl] using this)
  have h4 := sm 4 9 c4 (by omega) (by have := hx 4 _ rfl; simpa [show Try.prog.cellsOf 9 = 1 by kernel_rfl] using this)
  have h5 := sm 5 24 c5 (by omega) (by have := hx 5 _ rfl; simpa [show Try.prog.cellsOf 24 = 1 by kernel_rfl] using this)
  have h6 := sm 6 25 c6 (by omega) (by have := hx 6 _ rfl; simpa [show Try.prog.cellsOf 25 = 1 by kernel_rfl] using this)
  have wt : ∀ (i : Nat) (t : TypeId) (hi : i < xs.length), ([3, 4, 2, 23, 9, 24, 25] : List TypeId)[i]? = some t → ∀ n ∈ xs[i].1.weights Try.prog t, n ≤ reachBytes := fun i t hi ht n hn => by
    refine hz n ?_
    rw [hxe]
    simp only [DataW.weights, Try.underlying27]
    exact DataW.weights_mem_each (j := i) (t := t) (d := xs[i].1) ht (by rw [List.getElem?_map, List.getElem?_eq_getElem hi]; rfl) n hn
  have w5 := wt 5 24 (by omega) rfl
  have w6 := wt 6 25 (by omega) rfl
  clear hx sm wt
  obtain ⟨k, e0, -⟩ := DataW.trod_int Try.underlying3 h0
  obtain ⟨b, e1, -⟩ := DataW.trod_bool Try.underlying4 h1
  obtain ⟨i, e2, -⟩ := DataW.trod_int Try.underlying2 h2
  obtain ⟨f, e3⟩ := trod_float Try.underlying23 h3
  obtain ⟨t, e4, -⟩ := DataW.trod_string Try.underlying9 h4
  obtain ⟨ks, keys, e5, hk, hkl, hkz⟩ := opn_textsk Try.underlying24 Try.underlying9 (by kernel_rfl) h5 w5
  obtain rfl := (List.cons.inj e0).1
  obtain rfl := (List.cons.inj e1).1
  obtain rfl := (List.cons.inj e2).1
  obtain rfl := (List.cons.inj e3).1
  obtain rfl := (List.cons.inj e4).1
  obtain rfl := (List.cons.inj e5).1
  have hkb : ∀ s ∈ keys, s.size ≤ 1125899906842624 := fun s hs => Nat.le_trans (hkz s hs) (by decide)
  rcases DataW.trod_slice Try.underlying25 h6 with ⟨e6, _⟩ | ⟨a, len, cap, elems, rest, m, hm, e6, ex, hb, hl, hmx, hlen, hel2, _, _⟩
  · obtain rfl := (List.cons.inj e6).1
    refine ⟨.mk k b i f t keys [], ?_, ?_⟩
    · rw [IsRV]
      exact ⟨_, _, rfl, hk, hkl, ⟨_, _, rfl⟩, fun j h => absurd h (Nat.not_lt_zero _)⟩
    · rw [KB]
      exact ⟨hkb, fun j h => absurd h (Nat.not_lt_zero _)⟩
  · obtain rfl := (List.cons.inj e6).1
    have each : ∀ i, i < len → ∃ y : Array Value × RV, (full W).cells? (a.add (i * 7)) 0 7 = some y.1.toList ∧ IsRV (full W) y.2 y.1 ∧ KB y.2 := by
      intro i hi
      have h1 := hel2 i hi
      rw [List.getElem?_eq_getElem (by omega), Option.bind_eq_some_iff] at h1
      obtain ⟨cs, hcs, htr⟩ := h1
      rw [show Try.prog.cellsOf 27 = 7 by kernel_rfl] at hcs
      obtain ⟨y, hy, hky⟩ := ih m (by omega) _ _ htr fun n hn => w6 n (by
        rw [ex]
        simp only [DataW.weights, Try.underlying25]
        refine List.mem_cons_of_mem _ (List.mem_append.2 (.inl ?_))
        exact weightsAll_mem (List.mem_map.2 ⟨_, List.getElem_mem _, rfl⟩) hn)
      obtain ⟨_, hl1, hcell⟩ := World.cells?_some hcs
      refine ⟨(cs.toArray, y), ?_, hy, hky⟩
      refine cells?_intro _ _ _ hl1 fun j hj => ?_
      rw [Nat.zero_add]
      have h3 := hcell j hj
      exact h3
    obtain ⟨ys, hyl, hys⟩ := choose_list len _ each
    refine ⟨.mk k b i f t keys (ys.map (·.2)), ?_, ?_⟩
    · rw [IsRV]
      refine ⟨_, _, rfl, hk, hkl, ⟨_, cap, by rw [List.length_map, hyl]⟩, fun j hj => ?_⟩
      have hj' : j < ys.length := by simpa using hj
      have := hys j _ (List.getElem?_eq_getElem hj')
      exact ⟨a, cap, ys[j].1, by rw [List.length_map, hyl], this.1, by rw [List.getElem_map]; exact this.2.1⟩
    · rw [KB]
      refine ⟨hkb, fun j hj => ?_⟩
      have hj' : j < ys.length := by simpa using hj
      rw [List.getElem_map]
      exact (hys j _ (List.getElem?_eq_getElem hj')).2.2
end
end Go.Proofs.YtogfpbnbojhpoaaV

/- Tables: what an argument's reading says of a value. -/
import Derived.Test.YtogfpbnbojhpoaaTA
import Derived.Test.YtogfpbnbojhpoaaV7
namespace Go.Proofs.YtogfpbnbojhpoaaV
open Go.RowKit
set_option linter.unusedSimpArgs false
set_option linter.unusedVariables false
section
variable {H : Type} {enc : TypeId × Value → H} {W : World} {base : Nat} {spare : Nat → Bool} {held : Bool}
theorem trod_float {P : Program} {fuel : Nat} {t : TypeId} {cs : List Value} {x : DataW H × List MemPlace} {k : FloatKind} (ht : P.underlying t = some (.float k)) (h : DataW.trod enc P W base spare held fuel t cs = some x) : ∃ b, cs = [.float k b] := by
  cases fuel with
  | zero => simp [DataW.trod] at h
  | succ n =>
    unfold DataW.trod at h
    rw [ht] at h
    split at h <;> simp_all
theorem list7 {α : Type} {l : List α} (h : l.length = 7) : ∃ c0 c1 c2 c3 c4 c5 c6, l = [c0, c1, c2, c3, c4, c5, c6] := by
  match l, h with
  | [c0, c1, c2, c3, c4, c5, c6], _ => exact ⟨c0, c1, c2, c3, c4, c5, c6, rfl⟩
theorem opn_rv : ∀ (fuel : Nat) (cs : List Value) (x : DataW H × List MemPlace), DataW.trod enc Try.prog W base spare held fuel 27 cs = some x → ∃ y : RV, IsRV (full W) y cs.toArray := by
  intro fuel
  induction fuel using Nat.strongRecOn with
  | _ fuel ih =>
  intro cs x h
  obtain ⟨xs, n, hf, -, hl, hxl, hx⟩ := DataW.trod_struct Try.underlying27 h
  rw [show Try.prog.cellsOf 27 = 7 by kernel_rfl] at hl
  have hxl : xs.length = 7 := hxl
  obtain ⟨c0, c1, c2, c3, c4, c5, c6, rfl⟩ := list7 hl
  have sm : ∀ (i : Nat) (t : TypeId) (c : Value) (hi : i < xs.length), DataW.trod enc Try.prog W base spare held n t [c] = xs[i]? → ∃ y, DataW.trod enc Try.prog W base spare held n t [c] = some y := fun i t c hi h => ⟨_, h.trans (List.getElem?_eq_getElem hi)⟩
  obtain ⟨y0, h0⟩ := sm 0 3 c0 (by omega) (by have := hx 0 _ rfl; simpa [show Try.prog.cellsOf 3 = 1 by kernel_rfl] using this)
  obtain ⟨y1, h1⟩ := sm 1 4 c1 (by omega) (by have := hx 1 _ rfl; simpa [show Try.prog.cellsOf 4 = 1 by kernel_rfl] using this)
  obtain ⟨y2, h2⟩ := sm 2 2 c2 (by omega) (by have := hx 2 _ rfl; simpa [show Try.prog.cellsOf 2 = 1 by kernel_rfl] using this)
  obtain ⟨y3, h3⟩ := sm 3 23 c3 (by omega) (by have := hx 3 _ rfl; simpa [show Try.prog.cellsOf 23 = 1 by kernel_rfl] using this)
  obtain ⟨y4, h4⟩ := sm 4 9 c4 (by omega) (by have := hx 4 _ rfl; simpa [show Try.prog.cellsOf 9 = 1 by kernel_rfl] using this)
  obtain ⟨y5, h5⟩ := sm 5 24 c5 (by omega) (by have := hx 5 _ rfl; simpa [show Try.prog.cellsOf 24 = 1 by kernel_rfl] using this)
  obtain ⟨y6, h6⟩ := sm 6 25 c6 (by omega) (by have := hx 6 _ rfl; simpa [show Try.prog.cellsOf 25 = 1 by kernel_rfl] using this)
  clear hx sm
  obtain ⟨k, e0, -⟩ := DataW.trod_int Try.underlying3 h0
  obtain ⟨b, e1, -⟩ := DataW.trod_bool Try.underlying4 h1
  obtain ⟨i, e2, -⟩ := DataW.trod_int Try.underlying2 h2
  obtain ⟨f, e3⟩ := trod_float Try.underlying23 h3
  obtain ⟨t, e4, -⟩ := DataW.trod_string Try.underlying9 h4
  obtain ⟨ks, keys, e5, hk, hkl, -⟩ := opn_texts Try.underlying24 Try.underlying9 (by kernel_rfl) n _ _ h5
  obtain rfl := (List.cons.inj e0).1
  obtain rfl := (List.cons.inj e1).1
  obtain rfl := (List.cons.inj e2).1
  obtain rfl := (List.cons.inj e3).1
  obtain rfl := (List.cons.inj e4).1
  obtain rfl := (List.cons.inj e5).1
  rcases DataW.trod_slice Try.underlying25 h6 with ⟨e6, _⟩ | ⟨a, len, cap, elems, rest, m, hm, e6, _, hb, hl, hmx, hlen, hel2, _, _⟩
  · obtain rfl := (List.cons.inj e6).1
    refine ⟨.mk k b i f t keys [], ?_⟩
    rw [IsRV]
    exact ⟨_, _, rfl, hk, hkl, ⟨_, _, rfl⟩, fun j h => absurd h (Nat.not_lt_zero _)⟩
  · obtain rfl := (List.cons.inj e6).1
    have each : ∀ i, i < len → ∃ y : Array Value × RV, (full W).cells? (a.add (i * 7)) 0 7 = some y.1.toList ∧ IsRV (full W) y.2 y.1 := by
      intro i hi
      have h1 := hel2 i hi
      rw [List.getElem?_eq_getElem (by omega), Option.bind_eq_some_iff] at h1
      obtain ⟨cs, hcs, htr⟩ := h1
      rw [show Try.prog.cellsOf 27 = 7 by kernel_rfl] at hcs
      obtain ⟨y, hy⟩ := ih m (by omega) _ _ htr
      obtain ⟨_, hl1, hcell⟩ := World.cells?_some hcs
      refine ⟨(cs.toArray, y), ?_, hy⟩
      refine cells?_intro _ _ _ hl1 fun j hj => ?_
      rw [Nat.zero_add]
      have h3 := hcell j hj
      exact h3
    obtain ⟨ys, hyl, hys⟩ := choose_list len _ each
    refine ⟨.mk k b i f t keys (ys.map (·.2)), ?_⟩
    rw [IsRV]
    refine ⟨_, _, rfl, hk, hkl, ⟨_, cap, by rw [List.length_map, hyl]⟩, fun j hj => ?_⟩
    have hj' : j < ys.length := by simpa using hj
    have := hys j _ (List.getElem?_eq_getElem hj')
    exact ⟨a, cap, ys[j].1, by rw [List.length_map, hyl], this.1, by rw [List.getElem_map]; exact this.2⟩
end
end Go.Proofs.YtogfpbnbojhpoaaV

/- Trees: all cells of a slice of structs. -/
import Derived.Test.YtpinamipjddobaaKL
namespace Go.Proofs.YtpinamipjddobaaV
open Go.RowKit
set_option linter.unusedSimpArgs false
set_option linter.unusedVariables false
theorem addr_add2 (a : Addr) (i j : Nat) : (a.add i).add j = a.add (i + j) := by
  obtain ⟨b, o, s⟩ := a
  unfold Addr.add
  by_cases hi : i = 0
  · subst hi
    rw [if_pos rfl, Nat.zero_add]
  · by_cases hj : j = 0
    · subst hj
      rw [if_neg hi, if_pos rfl, Nat.add_zero, if_neg hi]
    · rw [if_neg hi, if_neg hj, if_neg (by omega), Nat.add_assoc]
theorem cells_partk2 {A : View} {k N i : Nat} {a : Addr} {vs : List Value} (h : A.cells? a 0 N = some vs) (hi : i * k + k ≤ N) : A.cells? (a.add (i * k)) 0 k = some ((vs.drop (i * k)).take k) := by
  have hl := cells?_length _ _ _ h
  refine cells?_intro _ _ _ (by rw [List.length_take, List.length_drop]; omega) fun j hj => ?_
  have := cells?_get _ _ _ h (i * k + j) (by omega)
  rw [Nat.zero_add] at this
  rw [addr_add2, Nat.zero_add, this, List.getElem?_take_of_lt hj, List.getElem?_drop]
/-- All cells of a slice of structs. -/
theorem Elems.all {A : View} {k : Nat} {v : Value} {α : Type} {l : List α} {Q : View → α → Array Value → Prop} (h : Elems A k v l Q) (hk : 0 < k) : ∃ cs, (∀ P : Program, appended P A k v = some (cs, l.length)) ∧ ∀ j (hj : j < l.length), ∃ c : Array Value, (cs.drop (j * k)).take k = c.toList ∧ Q A l[j] c := by
  obtain ⟨bs, cap, rfl, hel⟩ := h
  by_cases h0 : l = []
  · subst h0
    refine ⟨[], fun P => ?_, fun j hj => absurd hj (Nat.not_lt_zero _)⟩
    cases bs with
    | none => rfl
    | some a => simp [appended, View.cells?]
  have hl : 0 < l.length := List.length_pos_iff.2 h0
  obtain ⟨a, c0, rfl, -, -⟩ := hel 0 hl
  have each : ∀ j, j < l.length * k → ∃ u, A.cell? (a.add j) = some u := fun j hj => by
    have h1 : j / k < l.length := (Nat.div_lt_iff_lt_mul hk).2 hj
    obtain ⟨a', c, ha, hc, -⟩ := hel (j / k) h1
    obtain rfl := Option.some.inj ha
    have h2 := cells?_get _ _ _ hc (j % k) (Nat.mod_lt _ hk)
    have h3 : j / k * k + j % k = j := by rw [Nat.mul_comm]; exact Nat.div_add_mod j k
    rw [addr_add2, Nat.zero_add, h3] at h2
    have h4 := cells?_length _ _ _ hc
    rw [h2]
    exact ⟨c.toList[j % k]'(by rw [h4]; exact Nat.mod_lt _ hk), List.getElem?_eq_getElem _⟩
  obtain ⟨us, hul, hus⟩ := choose_list (l.length * k) (fun j u => A.cell? (a.add j) = some u) each
  have hall : A.cells? a 0 (l.length * k) = some us := by
    refine cells?_intro _ _ _ hul fun j hj => ?_
    rw [Nat.zero_add, List.getElem?_eq_getElem (by omega)]
    exact hus j _ (List.getElem?_eq_getElem (by omega))
  refine ⟨us, fun P => appended_row (.inl ⟨a, cap, rfl, hall⟩), fun j hj => ?_⟩
  obtain ⟨a', c, ha, hc, hq⟩ := hel j hj
  obtain rfl := Option.some.inj ha
  have h5 : j * k + k ≤ l.length * k := by rw [← Nat.succ_mul]; exact Nat.mul_le_mul_right _ hj
  have h6 := cells_partk2 hall h5
  rw [hc] at h6
  exact ⟨c, (Option.some.inj h6).symm, hq⟩
theorem own_emptyk {A : View} {q : Nat} (hq : A q = none) (e : TypeId) (k : Nat) : Own A (A.set q (.cells #[] e (0, 0))) e k (.slice (some ⟨q, 0, none⟩) 0 0) 0 [] := by
  refine ⟨?_, .inr ⟨_, _, rfl, hq⟩⟩
  simp [sliceIn, set_at]
  rfl
/-- A list of cells, each of which stands alone. -/
theorem ones_parts {A : View} {l : List Tr} {cs : List Value} (hl : cs.length = l.length * 12) (hp : Parts 12 cs l (IsTr A)) : ∀ v ∈ cs, one v = true := by
  intro v hv
  obtain ⟨i, hi, rfl⟩ := List.getElem_of_mem hv
  have h1 : i / 12 < l.length := by omega
  obtain ⟨c, hc, hz, hq⟩ := hp (i / 12) h1
  have h2 := congrArg (fun x => x[i % 12]?) hc
  replace h2 : ((cs.drop (i / 12 * 12)).take 12)[i % 12]? = c.toList[i % 12]? := h2
  rw [List.getElem?_take_of_lt (Nat.mod_lt _ (by omega)), List.getElem?_drop, show i / 12 * 12 + i % 12 = i by omega, List.getElem?_eq_getElem hi] at h2
  have h3 := hq.ones
  unfold ones at h3
  exact List.all_eq_true.1 h3 _ (List.mem_of_getElem? h2.symm)
theorem appended_le {P : Program} {A B : View} (h : A ≤ B) {k : Nat} {x : Value} {r : List Value × Nat} (e : appended P A k x = some r) : appended P B k x = some r := by
  unfold appended at e ⊢
  split at e
  · obtain ⟨cs, h1, h2⟩ := Option.map_eq_some_iff.1 e
    simp only [le_cells h _ _ _ h1, Option.map_some, h2]
  · exact e
  · exact e
  · cases e
theorem trs_parts {A : View} {v : Value} {l : List Tr} (h : Trs A v l) : ∃ cs, (∀ P : Program, appended P A 12 v = some (cs, l.length)) ∧ cs.length = l.length * 12 ∧ Parts 12 cs l (IsTr A) := by
  obtain ⟨bs, cap, rfl⟩ := h.slice
  obtain ⟨cs, h1, h2⟩ := h.all (by omega)
  refine ⟨cs, h1, ?_, fun j hj => ?_⟩
  · have := appended_length (h1 Try.prog) (fun s hs => by cases hs)
    exact this
  · obtain ⟨c, h3, h4⟩ := h2 j hj
    exact ⟨c, h3, h4.size, h4⟩
theorem Own.elems2 {D0 D : View} {t : TypeId} {k n : Nat} {v : Value} {α : Type} {l : List α} {cs : List Value} {Q : View → α → Array Value → Prop} (h : Own D0 D t k v n cs) (hn : n = l.length) (hp : Parts k cs l (Q D)) : Elems D k v l Q := by
  subst hn
  exact h.elems hp
theorem Parts.app {k : Nat} {cs ds : List Value} {α : Type} {l m : List α} {Q : α → Array Value → Prop} (h : Parts k cs l Q) (h2 : Parts k ds m Q) (hl : cs.length = l.length * k) : Parts k (cs ++ ds) (l ++ m) Q := by
  intro j hj
  by_cases h1 : j < l.length
  · obtain ⟨c, g1, g2, g3⟩ := h j h1
    exact ⟨c, by rw [tdk_left hl h1]; exact g1, g2, by rw [List.getElem_append_left h1]; exact g3⟩
  · have hj2 : j - l.length < m.length := by rw [List.length_append] at hj; omega
    obtain ⟨c, g1, g2, g3⟩ := h2 (j - l.length) hj2
    refine ⟨c, ?_, g2, by rw [List.getElem_append_right (by omega)]; exact g3⟩
    have e : j * k = cs.length + (j - l.length) * k := by rw [hl, ← Nat.add_mul]; congr 1; omega
    rw [e, List.drop_length_add_append]
    exact g1
end Go.Proofs.YtpinamipjddobaaV

/- The logic of views: ranges over maps that stay as they are. -/
import Derived.Test.YtpinamipjddobaaV9
namespace Go.Proofs.YtpinamipjddobaaV
open Go.RowKit
set_option linter.unusedSimpArgs false
set_option linter.unusedVariables false
section
variable {P : Program} {n : Nat} {K : VQ} {e : Env} {ds : List Deferred} {A : View} {d : Option Tmp} {ty : TypeId} {p : String} {af : Array Edge} {g : Option (Nat × Bool)}
theorem vp_choose {q : Question} {Q : Nat → View → Prop} : (choose q).vp P Q A = if q.forced then Q 0 A else ∀ t, Q (q.cut t) A := rfl
theorem xrange_map {t kt et : TypeId} {x : Operand} {r c : Nat} {es : Array MapEntry} (ht : P.underlying t = some (.map kt et)) (hx : ev n e x = .map (some r)) (hA : A r = some (.map es c))
    (h : ∀ b, A b = none → K (putE e d (.pointer (some ⟨b, 0, none⟩))) ds (A.set b (.mapIter (some r) c #[] c))) : vop P n ⟨d, .range t x, ty, p, af, g⟩ (dn K) e ds A := by
  unfold vop
  simp only [execOp, vp_bind, hx]
  unfold Instr.range
  simp only [vp_bind]
  refine vp_underlying ht _ ?_
  simp only [vp_bind]
  refine ⟨_, hA, trivial, ?_⟩
  simp only [vp_pure, vp_pure', vp_bind]
  exact vp_newObj fun b hb => ⟨_, View.le_refl _, h b hb⟩
theorem xnext_map {x : Operand} {it r c since last : Nat} {es : Array MapEntry} {seen : Array Nat} (hx : ev n e x = .pointer (some ⟨it, 0, none⟩)) (hI : A it = some (.mapIter (some r) since seen last)) (hA : A r = some (.map es c))
    (hb : ∀ e ∈ es, e.born < since ∧ e.born < last)
    (hend : (∀ y ∈ es, seen.contains y.born = true) → K (putE e d (.tuple #[.bool false])) ds A)
    (hstep : ∀ y ∈ es, seen.contains y.born = false → K (putE e d (.tuple #[.bool true, y.key, y.val])) ds (A.set it (.mapIter (some r) since (seen.push y.born) c))) :
    vop P n ⟨d, .next x false, ty, p, af, g⟩ (dn K) e ds A := by
  unfold vop
  simp only [execOp, vp_bind, hx]
  unfold Instr.next
  simp only [vp_bind]
  refine ⟨_, hI, trivial, ?_⟩
  simp only [vp_bind, vp_pure, vp_pure']
  refine ⟨_, hA, trivial, ?_⟩
  have hchk : (!seen.isEmpty && !es.isEmpty && es.all fun x => decide (x.born ≥ last)) = false := by
    cases hz : es.isEmpty with
    | true => simp
    | false =>
      have : (es.all fun x => decide (x.born ≥ last)) = false := by
        have hne : 0 < es.size := by
          rcases Nat.eq_zero_or_pos es.size with h | h
          · rw [Array.isEmpty_iff_size_eq_zero.2 h] at hz; cases hz
          · exact h
        cases ha : es.all fun x => decide (x.born ≥ last) with
        | false => rfl
        | true =>
          have h1 := Array.all_eq_true.1 ha 0 hne
          have h2 := (hb es[0] (Array.getElem_mem hne)).2
          simp at h1
          omega
      simp [this]
  have hold : (es.filter fun e => !seen.contains e.born).filter (fun e => decide (e.born < since)) = es.filter fun e => !seen.contains e.born := by
    rw [Array.filter_eq_self]
    intro a ha
    simpa using (hb a (Array.mem_filter.1 ha).1).1
  have hnew : (es.filter fun e => !seen.contains e.born).filter (fun e => decide (e.born ≥ since)) = #[] := by
    rw [Array.filter_eq_empty_iff]
    intro a ha
    have := (hb a (Array.mem_filter.1 ha).1).1
    simp
    omega
  have hmem : ∀ y, y ∈ (es.filter fun e => !seen.contains e.born) → y ∈ es ∧ seen.contains y.born = false := fun y hy => by
    have := Array.mem_filter.1 hy
    exact ⟨this.1, by simpa using this.2⟩
  have hemp : (es.filter fun e => !seen.contains e.born) = #[] → ∀ y ∈ es, seen.contains y.born = true := fun h y hy => by
    rw [Array.filter_eq_empty_iff] at h
    simpa using h y hy
  simp only [vp_pure, vp_pure', hchk, Bool.false_eq_true, if_false, hold, hnew]
  generalize (es.filter fun e => !seen.contains e.born) = L at hmem hemp
  simp only [Array.append_empty]
  have key : ∀ i, (L.isEmpty = true → i = 0) → (L.isEmpty = false → i < L.size) → Sem.vp P (match ((if L.isEmpty = true then #[none] else #[]) ++ L.map some)[i]? with
      | some (some e) => (do setObj it (.mapIter (some r) since (seen.push e.born) c); pure (.tuple #[.bool true, e.key, e.val]) : Sem Value)
      | some none => pure (.tuple #[.bool false])
      | none => stuck "Next: no such candidate") (fun a A' => vnext P d (dn K) e ds (Next.value a) A') A := by
    intro i h0 h1
    cases hz : L.isEmpty with
    | true =>
      have := h0 hz
      subst this
      have hL : L = #[] := Array.isEmpty_iff.1 hz
      subst hL
      simp only [vp_pure, vp_pure', if_true, Array.map_empty, Array.append_empty]
      exact ⟨_, View.le_refl _, hend (hemp rfl)⟩
    | false =>
      have hi := h1 hz
      have hg : ((if false = true then #[none] else #[]) ++ L.map some)[i]? = some (some L[i]) := by simp [hi]
      rw [hg]
      have hy := hmem _ (Array.getElem_mem hi)
      simp only [vp_bind]
      refine ⟨_, hI, trivial, ?_⟩
      simp only [vp_pure, vp_pure']
      exact ⟨_, View.le_refl _, hstep _ hy.1 hy.2⟩
  rw [vp_bind, vp_choose]
  generalize hN : ((if L.isEmpty = true then #[none] else #[]) ++ L.map some).size = N
  have hN' : N = if L.isEmpty then 1 else L.size := by
    subst hN
    cases hz : L.isEmpty with
    | true => rw [Array.isEmpty_iff.1 hz]; simp
    | false => simp
  have hpos : L.isEmpty = false → 0 < L.size := fun hz => by
    rcases Nat.eq_zero_or_pos L.size with h | h
    · rw [Array.isEmpty_iff_size_eq_zero.2 h] at hz; cases hz
    · exact h
  split
  · exact key 0 (fun _ => rfl) hpos
  · intro t
    refine key _ (fun hz => ?_) (fun hz => ?_)
    · simp only [hz, if_true] at hN'
      subst hN'
      exact Nat.mod_one t
    · simp only [hz, Bool.false_eq_true, if_false] at hN'
      subst hN'
      exact Nat.mod_lt _ (hpos hz)
end
end Go.Proofs.YtpinamipjddobaaV

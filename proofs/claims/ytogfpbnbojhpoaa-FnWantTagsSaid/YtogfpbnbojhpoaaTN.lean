/- Tables: ranges over maps that stay as they are. -/
import Derived.Test.YtogfpbnbojhpoaaV10
import Derived.Test.YtogfpbnbojhpoaaT6
namespace Go.Proofs.YtogfpbnbojhpoaaV
open Go.RowKit
set_option linter.unusedSimpArgs false
set_option linter.unusedVariables false
theorem filter_perm (p : MapEntry → Bool) (y : MapEntry) (hp : p y = true) : ∀ (l : List MapEntry), l.Pairwise (fun a b => a.born < b.born) → y ∈ l → (l.filter p).Perm (y :: l.filter fun e => p e && decide (e.born ≠ y.born))
  | [], _, h => by cases h
  | a :: l, hw, h => by
    rw [List.pairwise_cons] at hw
    rcases List.mem_cons.1 h with h | h
    · subst h
      have h1 : l.filter (fun e => p e && decide (e.born ≠ y.born)) = l.filter p := by
        refine List.filter_congr fun x hx => ?_
        have := hw.1 x hx
        have hne : x.born ≠ y.born := by omega
        simp [hne]
      rw [List.filter_cons_of_pos hp, List.filter_cons_of_neg (by simp), h1]
    · have ih := filter_perm p y hp l hw.2 h
      have hne : a.born ≠ y.born := Nat.ne_of_lt (hw.1 y h)
      cases hpa : p a with
      | true =>
        rw [List.filter_cons_of_pos hpa, List.filter_cons_of_pos (by simp [hpa, hne])]
        exact (ih.cons a).trans (List.Perm.swap _ _ _)
      | false =>
        rw [List.filter_cons_of_neg (by simp [hpa]), List.filter_cons_of_neg (by simp [hpa])]
        exact ih
def Iter (A : View) (it r : Nat) (todo : List (ByteArray × Value)) : Prop :=
  ∃ es c seen, A it = some (.mapIter (some r) c seen c) ∧ A r = some (.map es c) ∧ strKeysB es.toList = true ∧ es.toList.Pairwise (fun a b => a.born < b.born) ∧ (∀ e ∈ es.toList, e.born < c) ∧
    ((es.toList.filter fun e => !seen.contains e.born).map ent).Perm todo
theorem Iter.congr {A B : View} {it r : Nat} {todo : List (ByteArray × Value)} (h : Iter A it r todo) (h1 : A it = B it) (h2 : A r = B r) : Iter B it r todo := by
  obtain ⟨es, c, seen, g1, g2, g⟩ := h
  exact ⟨es, c, seen, by rw [← h1]; exact g1, by rw [← h2]; exact g2, g⟩
theorem Iter.ne {A : View} {it r : Nat} {todo : List (ByteArray × Value)} (h : Iter A it r todo) : it ≠ r := by
  obtain ⟨es, c, seen, g1, g2, g⟩ := h
  intro hx
  subst hx
  rw [g1] at g2
  cases g2
/-- What a range over a map has just come to. -/
def At (A : View) (it r : Nat) (q : ByteArray × Value) : Prop :=
  ∃ es c seen y, A it = some (.mapIter (some r) c seen c) ∧ A r = some (.map es c) ∧ seen.back? = some y.born ∧ es.find? (fun e => e.born == y.born) = some y ∧ y.key = .string q.1 ∧ y.val = q.2
theorem At.congr {A B : View} {it r : Nat} {q : ByteArray × Value} (h : At A it r q) (h1 : A it = B it) (h2 : A r = B r) : At B it r q := by
  obtain ⟨es, c, seen, y, g1, g2, g⟩ := h
  exact ⟨es, c, seen, y, by rw [← h1]; exact g1, by rw [← h2]; exact g2, g⟩
theorem find_born {y : MapEntry} : ∀ (l : List MapEntry), l.Pairwise (fun a b => a.born < b.born) → y ∈ l → l.find? (fun e => e.born == y.born) = some y
  | [], _, h => by cases h
  | a :: l, hw, h => by
    rw [List.pairwise_cons] at hw
    rcases List.mem_cons.1 h with h | h
    · subst h
      simp
    · have := hw.1 y h
      have hne : (a.born == y.born) = false := by
        rw [beq_eq_false_iff_ne]; omega
      rw [List.find?_cons, hne]
      exact find_born l hw.2 h
section
variable {P : Program} {n : Nat} {K : VQ} {e : Env} {ds : List Deferred} {A : View} {d : Option Tmp} {ty : TypeId} {p : String} {af : Array Edge} {g : Option (Nat × Bool)}
theorem xrangeP {t kt et : TypeId} {x : Operand} {r : Nat} {kv : List (ByteArray × Value)} (h : MapP A r kv) (ht : P.underlying t = some (.map kt et)) (hx : ev n e x = .map (some r))
    (hk : ∀ b o, A b = none → Iter (A.set b o) b r kv → K (putE e d (.pointer (some ⟨b, 0, none⟩))) ds (A.set b o)) : vop P n ⟨d, .range t x, ty, p, af, g⟩ (dn K) e ds A := by
  obtain ⟨es, c, h1, h2, h3, h4, h5⟩ := h
  refine xrange_map ht hx h1 fun b hb => hk b _ hb ⟨es, c, #[], set_at _ _ _, ?_, h2, h4, h5, ?_⟩
  · rw [set_other (ne_of_none h1 hb)]; exact h1
  · rw [List.filter_eq_self.2 (by simp)]; exact h3
theorem xnextP {x : Operand} {it r : Nat} {todo : List (ByteArray × Value)} (h : Iter A it r todo) (hx : ev n e x = .pointer (some ⟨it, 0, none⟩))
    (hend : todo = [] → K (putE e d (.tuple #[.bool false])) ds A)
    (hstep : ∀ (q : ByteArray × Value) rest o, todo.Perm (q :: rest) → Iter (A.set it o) it r rest → At (A.set it o) it r q → K (putE e d (.tuple #[.bool true, .string q.1, q.2])) ds (A.set it o)) :
    vop P n ⟨d, .next x false, ty, p, af, g⟩ (dn K) e ds A := by
  have hne := h.ne
  obtain ⟨es, c, seen, h1, h2, h3, h4, h5, h6⟩ := h
  refine xnext_map hx h1 h2 (fun y hy => ⟨h5 y (by simpa using hy), h5 y (by simpa using hy)⟩) (fun hall => ?_) fun y hy hs => ?_
  · refine hend (List.Perm.eq_nil ?_)
    have : (es.toList.filter fun e => !seen.contains e.born) = [] := by
      rw [List.filter_eq_nil_iff]
      intro a ha
      have := hall a (by simpa using ha)
      rw [this]
      decide
    rw [this] at h6
    exact h6.symm
  · have hyl : y ∈ es.toList := by simpa using hy
    have hp := filter_perm (fun e => !seen.contains e.born) y (by simpa using hs) es.toList h4 hyl
    have hky : y.key = .string (ent y).1 := by
      have := List.all_eq_true.1 h3 y hyl
      simp only [ent]
      cases hk : y.key <;> simp [isStr, hk] at this
      rfl
    have hv : y.val = (ent y).2 := rfl
    rw [hky, hv]
    refine hstep (ent y) (((es.toList.filter fun x => !seen.contains x.born && decide (x.born ≠ y.born))).map ent) _ (h6.symm.trans (by simpa only [List.map_cons] using hp.map ent)) ⟨es, c, seen.push y.born, set_at _ _ _, ?_, h3, h4, h5, ?_⟩ ⟨es, c, seen.push y.born, y, set_at _ _ _, ?_, by simp, ?_, hky, hv⟩
    · rw [set_other hne.symm]; exact h2
    · have : (es.toList.filter fun e => !(seen.push y.born).contains e.born) = es.toList.filter fun e => !seen.contains e.born && decide (e.born ≠ y.born) := by
        refine List.filter_congr fun x hx => ?_
        simp
      rw [this]
    · rw [set_other hne.symm]; exact h2
    · rw [← Array.find?_toList]
      exact find_born _ h4 hyl
theorem xentryP {x : Operand} {it r : Nat} {q : ByteArray × Value} (h : At A it r q) (hx : ev n e x = .pointer (some ⟨it, 0, none⟩))
    (hk : K (putE e d (.tuple #[.string q.1, q.2])) ds A) : vop P n ⟨d, .entry x, ty, p, af, g⟩ (dn K) e ds A := by
  obtain ⟨es, c, seen, y, h1, h2, h3, h4, h5, h6⟩ := h
  unfold vop
  simp only [execOp, vp_bind, hx]
  unfold Instr.entry
  simp only [vp_bind]
  refine ⟨_, h1, trivial, ?_⟩
  simp only [h3, vp_bind, vp_pure, vp_pure']
  refine ⟨_, h2, trivial, ?_⟩
  simp only [bne_self_eq_false, Bool.false_eq_true, if_false, vp_bind, vp_pure, vp_pure', h4]
  rw [h5, h6]
  exact ⟨_, View.le_refl _, hk⟩
end
end Go.Proofs.YtogfpbnbojhpoaaV

/- A logic of views: what a call does, told of the blocks that are known; draws, orders of allocation and blocks that nobody knows do not show. -/
import Derived.Calls
import Derived.Orders
import Derived.Below
import Derived.Defers
import Derived.Recover
import Derived.KernelRfl
import Derived.Deep.LoopGhost
namespace Go.Proofs.YtpinamipjddobaaV
open Go.RowKit
set_option linter.unusedSimpArgs false
set_option linter.unusedVariables false

/-! ## Views -/
abbrev View := Nat → Option Obj

def View.cell? (A : View) (a : Addr) : Option Value :=
  match A a.block with
  | some (.cells c _ _) => if a.spot.isSome then none else c[a.off]?
  | _ => none
def View.frozen? (A : View) (a : Addr) : Bool :=
  match A a.block with
  | some (.cells _ _ (lo, hi)) => lo ≤ a.off && a.off < hi
  | _ => false
/-- The value of one cell. -/
def one : Value → Bool
  | .agg _ | .tuple _ => false
  | _ => true
def View.set (A : View) (b : Nat) (o : Obj) : View := fun k => if k = b then some o else A k
def View.setCell (A : View) (a : Addr) (v : Value) : View :=
  match A a.block with
  | some (.cells c e f) => A.set a.block (.cells (if a.spot.isSome then c else c.setIfInBounds a.off v) e f)
  | _ => A
def View.le (A B : View) : Prop := ∀ b o, A b = some o → B b = some o
instance : LE View := ⟨View.le⟩
def Holds (A : View) (w : World) : Prop := ∀ b o, A b = some o → w.heap[b]? = some o
/-- What lies outside the view has not turned; what the view has got besides is new. -/
structure Kept (A : View) (w : World) (A' : View) (w' : World) : Prop where
  os : w'.os = w.os
  tape : w'.tape = w.tape
  output : w'.output = w.output
  size : w.heap.size ≤ w'.heap.size
  old : ∀ b, b < w.heap.size → A b = none → w'.heap[b]? = w.heap[b]?
  new : ∀ b, A' b ≠ none → A b ≠ none ∨ w.heap.size ≤ b

theorem View.le_refl (A : View) : A ≤ A := fun _ _ h => h
theorem View.le_trans {A B C : View} (h : A ≤ B) (k : B ≤ C) : A ≤ C := fun b o x => k b o (h b o x)
theorem Holds.mono {A B : View} {w : World} (h : Holds B w) (k : A ≤ B) : Holds A w := fun b o x => h b o (k b o x)
theorem Holds.lt {A : View} {w : World} (h : Holds A w) {b : Nat} (hb : A b ≠ none) : b < w.heap.size := by
  cases ho : A b with
  | none => exact absurd ho hb
  | some o => exact (Array.getElem?_eq_some_iff.1 (h b o ho)).1
theorem Kept.refl (A : View) (w : World) : Kept A w A w := ⟨rfl, rfl, rfl, Nat.le_refl _, fun _ _ _ => rfl, fun _ h => .inl h⟩
theorem Kept.trans {A B C : View} {u v w : World} (h : Kept A u B v) (k : Kept B v C w) : Kept A u C w := by
  refine ⟨k.os.trans h.os, k.tape.trans h.tape, k.output.trans h.output, Nat.le_trans h.size k.size, fun b hb hA => ?_, fun b hC => ?_⟩
  · have hB : B b = none := by
      cases hB : B b with
      | none => rfl
      | some o =>
        rcases h.new b (by simp [hB]) with h1 | h1
        · exact absurd hA h1
        · omega
    exact (k.old b (Nat.lt_of_lt_of_le hb h.size) hB).trans (h.old b hb hA)
  · rcases k.new b hC with h1 | h1
    · exact h.new b h1
    · exact .inr (Nat.le_trans h.size h1)
theorem Kept.sub {A B B' : View} {u v : World} (h : Kept A u B v) (k : B' ≤ B) : Kept A u B' v :=
  ⟨h.os, h.tape, h.output, h.size, h.old, fun b hb => h.new b (by
    cases ho : B' b with
    | none => exact absurd ho hb
    | some o => simp [k b o ho])⟩

def Post (X : View → Prop) (A : View) (w w' : World) : Prop := ∃ A', X A' ∧ Holds A' w' ∧ Kept A w A' w'
theorem Post.mono {X Y : View → Prop} {A : View} {w w' : World} (h : Post X A w w') (k : ∀ A', X A' → Y A') : Post Y A w w' :=
  let ⟨A', x, y, z⟩ := h; ⟨A', k _ x, y, z⟩
theorem Post.bind {X Y : View → Prop} {A : View} {u v w : World} (h : Post X A u v) (k : ∀ A', X A' → Holds A' v → Post Y A' v w) : Post Y A u w :=
  let ⟨A', x, y, z⟩ := h
  let ⟨A'', x', y', z'⟩ := k A' x y
  ⟨A'', x', y', z.trans z'⟩

theorem Holds.cell {A : View} {w : World} (h : Holds A w) {a : Addr} {v : Value} (hv : A.cell? a = some v) : w.cell? a = some v := by
  unfold View.cell? at hv
  unfold World.cell?
  split at hv
  · rename_i hA; rw [h _ _ hA]; exact hv
  · cases hv
theorem Holds.frozen {A : View} {w : World} (h : Holds A w) {a : Addr} (hv : (A a.block).isSome) : w.frozen? a = A.frozen? a := by
  obtain ⟨o, ho⟩ := Option.isSome_iff_exists.1 hv
  unfold View.frozen? World.frozen?
  rw [h _ _ ho, ho]
  cases o <;> rfl
theorem cell_some {A : View} {a : Addr} (h : (A.cell? a).isSome) : (A a.block).isSome := by
  unfold View.cell? at h
  cases hA : A a.block with
  | none => simp [hA] at h
  | some o => rfl

/-! ## What a small step does to a view -/
def _root_.Go.Sem.vp {α : Type} (P : Program) : Sem α → (α → View → Prop) → View → Prop
  | .pure a, Q, A => Q a A
  | .load _ a k, Q, A => ∃ v, A.cell? a = some v ∧ (k v).vp P Q A
  | .store _ a v k, Q, A => one v = true ∧ (A.cell? a).isSome = true ∧ A.frozen? a = false ∧ k.vp P Q (A.setCell a v)
  | .new o k, Q, A => ∀ b, A b = none → (k b).vp P Q (A.set b o)
  | .shape r k, Q, A => ∃ o, A r = some o ∧ (k (match o with | .cells c e _ => some (e, c.size) | _ => none)).vp P Q A
  | .freeze a m k, Q, A => ∃ c e, A a.block = some (.cells c e (0, 0)) ∧ 0 < m ∧ k.vp P Q (A.set a.block (.cells c e (a.off, a.off + m)))
  | .frozen a k, Q, A => (A a.block).isSome = true ∧ (k (A.frozen? a)).vp P Q A
  | .getObj r k, Q, A => ∃ o, A r = some o ∧ (match o with | .cells .. => False | _ => True) ∧ (k o).vp P Q A
  | .setObj r o k, Q, A => ∃ o', A r = some o' ∧ (match o' with | .cells .. => False | _ => True) ∧ k.vp P Q (A.set r o)
  | .choose q k, Q, A => if q.forced then (k 0).vp P Q A else ∀ t, (k (q.cut t)).vp P Q A
  | .sys _ _, _, _ => False
  | .program k, Q, A => (k P).vp P Q A
  | .mark _ k, Q, A => k.vp P Q A
  | .halt _, _, _ => False

theorem holds_set {A : View} {w : World} (h : Holds A w) (r : Nat) (o : Obj) (hr : r < w.heap.size) : Holds (A.set r o) { w with heap := w.heap.setIfInBounds r o } := by
  intro b o' hb
  unfold View.set at hb
  by_cases hbr : b = r
  · subst hbr
    simp only [if_true, Option.some.injEq] at hb
    subst hb
    simp [hr]
  · rw [if_neg hbr] at hb
    simp only
    rw [Array.getElem?_setIfInBounds_ne (fun e => hbr e.symm)]
    exact h b o' hb
theorem kept_set {A : View} {w : World} (r : Nat) (o : Obj) (hA : A r ≠ none) : Kept A w (A.set r o) { w with heap := w.heap.setIfInBounds r o } := by
  refine ⟨rfl, rfl, rfl, by simp, fun b hb hn => ?_, fun b hb => ?_⟩
  · have hne : r ≠ b := fun e => hA (e ▸ hn)
    simp only
    rw [Array.getElem?_setIfInBounds_ne hne]
  · unfold View.set at hb
    by_cases hbr : b = r
    · exact .inl (hbr ▸ hA)
    · rw [if_neg hbr] at hb; exact .inl hb
theorem holds_new {A : View} {w : World} (h : Holds A w) (o : Obj) : Holds (A.set w.heap.size o) { w with heap := w.heap.push o } := by
  intro b o' hb
  unfold View.set at hb
  by_cases hbr : b = w.heap.size
  · subst hbr
    simp only [if_true, Option.some.injEq] at hb
    subst hb
    simp
  · rw [if_neg hbr] at hb
    simp only
    have := (Array.getElem?_eq_some_iff.1 (h b o' hb)).1
    rw [Array.getElem?_push, if_neg (by omega)]
    exact h b o' hb
theorem kept_new {A : View} (w : World) (o : Obj) : Kept A w (A.set w.heap.size o) { w with heap := w.heap.push o } := by
  refine ⟨rfl, rfl, rfl, by simp, fun b hb _ => ?_, fun b hb => ?_⟩
  · simp only
    rw [Array.getElem?_push, if_neg (by omega)]
  · unfold View.set at hb
    by_cases hbr : b = w.heap.size
    · exact .inr (by omega)
    · rw [if_neg hbr] at hb; exact .inl hb
theorem none_at_size {A : View} {w : World} (h : Holds A w) : A w.heap.size = none := by
  cases hA : A w.heap.size with
  | none => rfl
  | some o => have := h.lt (b := w.heap.size) (by simp [hA]); omega
theorem setCell_eq {A : View} {w : World} (h : Holds A w) {a : Addr} (hc : (A.cell? a).isSome) (v : Value) :
    Holds (A.setCell a v) (w.setCell a v) ∧ Kept A w (A.setCell a v) (w.setCell a v) := by
  have hb := cell_some hc
  obtain ⟨o, ho⟩ := Option.isSome_iff_exists.1 hb
  unfold View.cell? at hc
  rw [ho] at hc
  cases o with
  | cells c e f =>
    have hw := h _ _ ho
    have hlt := (Array.getElem?_eq_some_iff.1 hw).1
    have heq : w.setCell a v = { w with heap := w.heap.setIfInBounds a.block (.cells (if a.spot.isSome then c else c.setIfInBounds a.off v) e f) } := by
      unfold World.setCell
      congr 1
      apply Array.ext
      · simp
      · intro i h1 h2
        rw [Array.getElem_modify]
        by_cases hi : a.block = i
        · subst hi
          have hx : w.heap[a.block]'hlt = .cells c e f := (Array.getElem?_eq_some_iff.1 hw).2
          simp [hx]
        · rw [if_neg hi]
          rw [Array.getElem_setIfInBounds_ne _ hi]
    have hA : A.setCell a v = A.set a.block (.cells (if a.spot.isSome then c else c.setIfInBounds a.off v) e f) := by
      unfold View.setCell; rw [ho]
    rw [heq, hA]
    exact ⟨holds_set h _ _ hlt, kept_set _ _ (by simp [ho])⟩
  | _ => simp at hc

theorem vp_sound {α : Type} {P : Program} (s : Sem α) : ∀ (Q : α → View → Prop) (A : View) (w : World), s.vp P Q A → Holds A w →
    ∃ a w', s.run P w = .ok a w' ∧ Post (Q a) A w w' := by
  induction s with
  | pure a => intro Q A w h hw; exact ⟨a, w, rfl, A, h, hw, Kept.refl _ _⟩
  | load m a k ih =>
    intro Q A w h hw
    obtain ⟨v, hv, h⟩ := h
    obtain ⟨x, w', hr, hp⟩ := ih v Q A w h hw
    exact ⟨x, w', by simp only [Sem.run, hw.cell hv]; exact hr, hp⟩
  | store m a v k ih =>
    intro Q A w h hw
    obtain ⟨h1, h2, h3, h⟩ := h
    obtain ⟨e1, e2⟩ := setCell_eq hw h2 v
    obtain ⟨x, w', hr, hp⟩ := ih Q _ _ h e1
    obtain ⟨u, hu⟩ := Option.isSome_iff_exists.1 h2
    have hf : w.frozen? a = false := (hw.frozen (cell_some h2)).trans h3
    refine ⟨x, w', ?_, let ⟨A', p, q, r⟩ := hp; ⟨A', p, q, e2.trans r⟩⟩
    cases v with
    | agg _ => simp [one] at h1
    | tuple _ => simp [one] at h1
    | _ => simp only [Sem.run, hw.cell hu, hf]; exact hr
  | new o k ih =>
    intro Q A w h hw
    obtain ⟨x, w', hr, A', p, q, r⟩ := ih w.heap.size Q _ _ (h _ (none_at_size hw)) (holds_new hw o)
    exact ⟨x, w', hr, A', p, q, (kept_new w o).trans r⟩
  | shape r k ih =>
    intro Q A w h hw
    obtain ⟨o, ho, h⟩ := h
    obtain ⟨x, w', hr, hp⟩ := ih _ Q A w h hw
    refine ⟨x, w', ?_, hp⟩
    simp only [Sem.run, World.shape?, hw _ _ ho]
    cases o <;> exact hr
  | freeze a n k ih =>
    intro Q A w h hw
    obtain ⟨c, e, hA, hn, h⟩ := h
    have hlt := hw.lt (b := a.block) (by simp [hA])
    have hget := hw _ _ hA
    have heq : w.freeze a n = { w with heap := w.heap.setIfInBounds a.block (.cells c e (a.off, a.off + n)) } := by
      unfold World.freeze
      rw [if_neg (by omega)]
      congr 1
      apply Array.ext
      · simp
      · intro i h1 h2
        rw [Array.getElem_modify]
        by_cases hi : a.block = i
        · subst hi
          have hx : w.heap[a.block]'hlt = .cells c e (0, 0) := (Array.getElem?_eq_some_iff.1 hget).2
          simp [hx]
        · rw [if_neg hi]
          rw [Array.getElem_setIfInBounds_ne _ hi]
    obtain ⟨x, w', hr, A', p, q, s⟩ := ih Q _ _ h (holds_set hw a.block _ hlt)
    refine ⟨x, w', ?_, A', p, q, (kept_set _ _ (by simp [hA])).trans s⟩
    simp only [Sem.run, heq]
    exact hr
  | frozen a k ih =>
    intro Q A w h hw
    obtain ⟨h1, h⟩ := h
    obtain ⟨x, w', hr, hp⟩ := ih _ Q A w h hw
    exact ⟨x, w', by simp only [Sem.run, hw.frozen h1]; exact hr, hp⟩
  | getObj r k ih =>
    intro Q A w h hw
    obtain ⟨o, ho, hc, h⟩ := h
    obtain ⟨x, w', hr, hp⟩ := ih o Q A w h hw
    refine ⟨x, w', ?_, hp⟩
    simp only [Sem.run, hw _ _ ho]
    cases o <;> first | exact hc.elim | exact hr
  | setObj r o k ih =>
    intro Q A w h hw
    obtain ⟨o', ho, hc, h⟩ := h
    have hlt : r < w.heap.size := hw.lt (b := r) (by simp [ho])
    obtain ⟨x, w', hr, A', p, q, s⟩ := ih Q _ _ h (holds_set hw r o hlt)
    refine ⟨x, w', ?_, A', p, q, (kept_set r o (by simp [ho])).trans s⟩
    simp only [Sem.run, hw _ _ ho]
    cases o' <;> first | exact hc.elim | exact hr
  | choose q k ih =>
    intro Q A w h hw
    simp only [Sem.vp] at h
    split at h
    · rename_i hq
      obtain ⟨x, w', hr, hp⟩ := ih _ Q A w h hw
      exact ⟨x, w', by simp only [Sem.run, hq, if_true]; exact hr, hp⟩
    · rename_i hq
      obtain ⟨x, w', hr, A', p, q', r⟩ := ih _ Q A { w with drawn := w.drawn + 1 } (h (w.tape w.drawn q)) hw
      refine ⟨x, w', by simp only [Sem.run, hq]; exact hr, A', p, q', r.os, r.tape, r.output, r.size, r.old, r.new⟩
  | sys c k ih => intro Q A w h; exact h.elim
  | program k ih => intro Q A w h hw; exact ih P Q A w h hw
  | mark m k ih => intro Q A w h hw; exact ih Q A w h hw
  | halt h => intro Q A w h; exact h.elim

theorem vp_bind {α β : Type} {P : Program} (s : Sem α) (f : α → Sem β) : ∀ (Q : β → View → Prop) (A : View), (s >>= f).vp P Q A = s.vp P (fun a A' => (f a).vp P Q A') A := by
  show ∀ Q A, (s.bind f).vp P Q A = _
  induction s with
  | pure a => intro Q A; rfl
  | load m a k ih => intro Q A; simp only [Sem.bind, Sem.vp, ih]
  | store m a v k ih => intro Q A; simp only [Sem.bind, Sem.vp, ih]
  | new o k ih => intro Q A; simp only [Sem.bind, Sem.vp, ih]
  | shape r k ih => intro Q A; simp only [Sem.bind, Sem.vp, ih]
  | freeze a n k ih => intro Q A; simp only [Sem.bind, Sem.vp, ih]
  | frozen a k ih => intro Q A; simp only [Sem.bind, Sem.vp, ih]
  | getObj r k ih => intro Q A; simp only [Sem.bind, Sem.vp, ih]
  | setObj r o k ih => intro Q A; simp only [Sem.bind, Sem.vp, ih]
  | choose q k ih => intro Q A; simp only [Sem.bind, Sem.vp, ih]
  | sys c k ih => intro Q A; simp only [Sem.bind, Sem.vp]
  | program k ih => intro Q A; simp only [Sem.bind, Sem.vp, ih]
  | mark m k ih => intro Q A; simp only [Sem.bind, Sem.vp, ih]
  | halt h => intro Q A; rfl

theorem vp_mono {α : Type} {P : Program} (s : Sem α) : ∀ {Q Q' : α → View → Prop} (A : View), (∀ a A', Q a A' → Q' a A') → s.vp P Q A → s.vp P Q' A := by
  induction s with
  | pure a => intro Q Q' A hq h; exact hq _ _ h
  | load m a k ih => intro Q Q' A hq h; exact let ⟨v, hv, h⟩ := h; ⟨v, hv, ih _ _ hq h⟩
  | store m a v k ih => intro Q Q' A hq h; exact ⟨h.1, h.2.1, h.2.2.1, ih _ hq h.2.2.2⟩
  | new o k ih => intro Q Q' A hq h; exact fun b hb => ih _ _ hq (h b hb)
  | shape r k ih => intro Q Q' A hq h; exact let ⟨v, hv, h⟩ := h; ⟨v, hv, ih _ _ hq h⟩
  | freeze a n k ih => intro Q Q' A hq h; exact let ⟨c, e, h1, h2, h⟩ := h; ⟨c, e, h1, h2, ih _ hq h⟩
  | frozen a k ih => intro Q Q' A hq h; exact ⟨h.1, ih _ _ hq h.2⟩
  | getObj r k ih => intro Q Q' A hq h; exact let ⟨v, hv, hc, h⟩ := h; ⟨v, hv, hc, ih _ _ hq h⟩
  | setObj r o k ih => intro Q Q' A hq h; exact let ⟨v, hv, hc, h⟩ := h; ⟨v, hv, hc, ih _ hq h⟩
  | choose q k ih =>
    intro Q Q' A hq h
    simp only [Sem.vp] at h ⊢
    split
    · rename_i hc; rw [if_pos hc] at h; exact ih _ _ hq h
    · rename_i hc; rw [if_neg hc] at h; exact fun t => ih _ _ hq (h t)
  | sys c k ih => intro Q Q' A hq h; exact h
  | program k ih => intro Q Q' A hq h; exact ih _ _ hq h
  | mark m k ih => intro Q Q' A hq h; exact ih _ hq h
  | halt x => intro Q Q' A hq h; exact h

/-! ## Calls -/
def VCalls (P : Program) (f : FuncId) (args : Array Value) (A : View) (R : Value → View → Prop) : Prop :=
  ∀ w, Holds A w → Calls P f args w fun e w' => ∃ v, e = .returned v ∧ Post (R v) A w w'

theorem VCalls.mono {P : Program} {f : FuncId} {args : Array Value} {A : View} {R R' : Value → View → Prop} (h : VCalls P f args A R)
    (k : ∀ v A', R v A' → R' v A') : VCalls P f args A R' :=
  fun w hw => (h w hw).mono fun _ _ ⟨v, he, hp⟩ => ⟨v, he, hp.mono (k v)⟩
/-- What a call leaves behind may be forgotten. -/
theorem VCalls.sub {P : Program} {f : FuncId} {args : Array Value} {A : View} {R R' : Value → View → Prop} (h : VCalls P f args A R)
    (k : ∀ v A', R v A' → ∃ A'', A'' ≤ A' ∧ R' v A'') : VCalls P f args A R' :=
  fun w hw => (h w hw).mono fun _ _ ⟨v, he, A', p, q, r⟩ => let ⟨A'', hle, hR⟩ := k v A' p; ⟨v, he, A'', hR, q.mono hle, r.sub hle⟩
/-- Blocks that a call doesn't know stay as they are. -/
def View.join (A B : View) : View := fun b => match A b with | some o => some o | none => B b
def View.minus (B A : View) : View := fun b => match A b with | some _ => none | none => B b
theorem VCalls.frame {P : Program} {f : FuncId} {args : Array Value} {A B : View} {R : Value → View → Prop} (h : VCalls P f args A R) (hAB : A ≤ B) :
    VCalls P f args B fun v B' => ∃ A', R v A' ∧ (∀ b, B.minus A b ≠ none → A' b = none) ∧ B' = A'.join (B.minus A) := by
  intro w hw
  refine (h w (hw.mono hAB)).mono ?_
  rintro _ w' ⟨v, he, A', p, q, r⟩
  have hnone : ∀ b, B.minus A b ≠ none → A' b = none := by
    intro b hb
    unfold View.minus at hb
    cases hA : A b with
    | some o => simp [hA] at hb
    | none =>
      rw [hA] at hb
      cases hA' : A' b with
      | none => rfl
      | some o =>
        rcases r.new b (by simp [hA']) with h1 | h1
        · exact absurd hA h1
        · have := hw.lt hb; omega
  refine ⟨v, he, A'.join (B.minus A), ⟨A', p, hnone, rfl⟩, ?_, r.os, r.tape, r.output, r.size, fun b hb hB => ?_, fun b hb => ?_⟩
  · intro b o hb
    unfold View.join at hb
    cases hA' : A' b with
    | some o' => rw [hA'] at hb; simp only [Option.some.injEq] at hb; subst hb; exact q b _ hA'
    | none =>
      rw [hA'] at hb
      unfold View.minus at hb
      cases hA : A b with
      | some o' => simp [hA] at hb
      | none =>
        rw [hA] at hb
        have hwb := hw b o hb
        rw [r.old b (hw.lt (by simp [hb])) hA]
        exact hwb
  · refine r.old b hb ?_
    cases hA : A b with
    | none => rfl
    | some o => have := hAB b o hA; rw [this] at hB; cases hB
  · unfold View.join at hb
    cases hA' : A' b with
    | some o' =>
      rcases r.new b (by simp [hA']) with h1 | h1
      · refine .inl fun hB => ?_
        cases hA : A b with
        | none => exact h1 hA
        | some o => have := hAB b o hA; rw [this] at hB; cases hB
      · exact .inr h1
    | none =>
      rw [hA'] at hb
      unfold View.minus at hb
      cases hA : A b with
      | some o => simp [hA] at hb
      | none => rw [hA] at hb; exact .inl hb

/-! ## Frames -/
abbrev Env := Nat → Value
def upd (e : Env) (d : Nat) (v : Value) : Env := fun t => if t = d then v else e t
def frame (n : Nat) (e : Env) (ds : List Deferred) : Act := ⟨Array.ofFn (n := n) fun i => e i, ds⟩
def ev (n : Nat) (e : Env) : Operand → Value
  | .tmp t => if t < n then e t else undef
  | .const v => v
  | .global g => .pointer (some ⟨g, 0, none⟩)
  | .func f => .func (.func f) #[] #[]
def putE (e : Env) : Option Tmp → Value → Env
  | some d, v => upd e d v
  | none, _ => e

theorem frame_eval (n : Nat) (e : Env) (ds : List Deferred) : (frame n e ds).eval = ev n e := by
  funext x
  cases x with
  | tmp t =>
    simp only [Act.eval, frame, ev, Array.getD_eq_getD_getElem?]
    by_cases h : t < n
    · simp [h]
    · simp [h]
  | _ => rfl
theorem frame_put (n : Nat) (e : Env) (ds : List Deferred) (d : Option Tmp) (v : Value) : (frame n e ds).put d v = frame n (putE e d v) ds := by
  cases d with
  | none => rfl
  | some d =>
    simp only [Act.put, frame, putE, Act.mk.injEq, and_true]
    apply Array.ext
    · simp
    · intro i h1 h2
      simp only [Array.getElem_setIfInBounds, Array.getElem_ofFn, upd]
      by_cases h : d = i
      · subst h; simp
      · have h' : ¬ i = d := fun x => h x.symm
        rw [if_neg h', Array.getElem_setIfInBounds_ne (by simpa using h1) h, Array.getElem_ofFn]
def initE (args : Array Value) : Env := fun t => args.getD t undef
theorem frame_init (n : Nat) (args : Array Value) (h : args.size ≤ n) :
    (⟨args ++ Array.replicate (n - args.size) undef, []⟩ : Act) = frame n (initE args) [] := by
  simp only [frame, Act.mk.injEq, and_true]
  apply Array.ext
  · simp; omega
  · intro i h1 h2
    simp only [Array.getElem_ofFn, initE, Array.getD_eq_getD_getElem?]
    by_cases hi : i < args.size
    · simp [hi, Array.getElem_append]
    · simp [hi, Array.getElem_append]

/-! ## Code -/
abbrev VQ := Env → List Deferred → View → Prop
def VCode (P : Program) (n : Nat) (c : Code) (Q : Exit → VQ) (e : Env) (ds : List Deferred) (A : View) : Prop :=
  ∀ w, Holds A w → c.wp P (fun x a' w' => ∃ e' ds', a' = frame n e' ds' ∧ Post (Q x e' ds') A w w') (frame n e ds) w

def thenQ (next : VQ) (Q : Exit → VQ) : Exit → VQ
  | .normal => next
  | x => Q x
def inB (id : Nat) (Q : Exit → VQ) : Exit → VQ
  | .exit id' => if id' = id then Q .normal else Q (.exit id')
  | x => Q x

theorem VCode.mono {P : Program} {n : Nat} {c : Code} {Q Q' : Exit → VQ} {e : Env} {ds : List Deferred} {A : View} (h : VCode P n c Q e ds A)
    (k : ∀ x e ds A, Q x e ds A → Q' x e ds A) : VCode P n c Q' e ds A :=
  fun w hw => wp_mono (h w hw) fun _ _ _ ⟨e', ds', he, hp⟩ => ⟨e', ds', he, hp.mono (k _ _ _)⟩

section
variable {P : Program} {n : Nat} {Q : Exit → VQ} {e : Env} {ds : List Deferred} {A : View}
theorem vskip (h : Q .normal e ds A) : VCode P n .skip Q e ds A := fun w hw => wp_skip ⟨e, ds, rfl, A, h, hw, Kept.refl _ _⟩
theorem vlabel {l : Nat} (h : Q .normal e ds A) : VCode P n (.label l) Q e ds A := fun w hw => wp_label ⟨e, ds, rfl, A, h, hw, Kept.refl _ _⟩
theorem vexit {id : Nat} (h : Q (.exit id) e ds A) : VCode P n (.exit id) Q e ds A := fun w hw => wp_exit ⟨e, ds, rfl, A, h, hw, Kept.refl _ _⟩
theorem vgoto {l : Nat} (h : Q (.goto l) e ds A) : VCode P n (.goto l) Q e ds A := fun w hw => wp_goto ⟨e, ds, rfl, A, h, hw, Kept.refl _ _⟩
theorem vret (h : Q .ret e ds A) : VCode P n .ret Q e ds A := fun w hw => wp_ret ⟨e, ds, rfl, A, h, hw, Kept.refl _ _⟩
theorem vseq {x y : Code} (h : VCode P n x (thenQ (VCode P n y Q) Q) e ds A) : VCode P n (.seq x y) Q e ds A := by
  intro w hw
  refine wp_seq (wp_mono (h w hw) ?_)
  rintro ex a w' ⟨e', ds', rfl, A', hq, hh, hk⟩
  cases ex with
  | normal =>
    refine wp_mono (hq w' hh) ?_
    rintro ex2 a2 w2 ⟨e2, ds2, rfl, A2, hq2, hh2, hk2⟩
    exact ⟨e2, ds2, rfl, A2, hq2, hh2, hk.trans hk2⟩
  | _ => exact ⟨e', ds', rfl, A', hq, hh, hk⟩
theorem vcond {c : Operand} {x y : Code} (t : Bool) (hc : ev n e c = .bool t) (h : VCode P n (if t then x else y) Q e ds A) : VCode P n (.cond c x y) Q e ds A :=
  fun w hw => wp_cond (t := t) (by rw [frame_eval]; exact hc) (h w hw)
theorem vblock {id : Nat} {c : Code} (h : VCode P n c (inB id Q) e ds A) : VCode P n (.block id c) Q e ds A := by
  intro w hw
  refine wp_block (wp_mono (h w hw) ?_)
  rintro ex a w' ⟨e', ds', rfl, A', hq, hh, hk⟩
  cases ex with
  | exit id' =>
    simp only [Exit.inBlock]
    simp only [inB] at hq
    split
    · rename_i hi; rw [if_pos hi] at hq; exact ⟨e', ds', rfl, A', hq, hh, hk⟩
    · rename_i hi; rw [if_neg hi] at hq; exact ⟨e', ds', rfl, A', hq, hh, hk⟩
  | _ => exact ⟨e', ds', rfl, A', hq, hh, hk⟩
/-- A loop: an invariant that bears a number, which every round lowers. -/
theorem vloop {c : Code} (I : Nat → VQ) (k : Nat) (h : I k e ds A)
    (round : ∀ k e ds A, I k e ds A → VCode P n c (thenQ (fun e' ds' A' => ∃ k', k' < k ∧ I k' e' ds' A') Q) e ds A) : VCode P n (.loop c) Q e ds A := by
  intro w hw
  refine wp_loop_ghost (fun k a w' => ∃ e' ds', a = frame n e' ds' ∧ Post (I k e' ds') A w w') k ⟨e, ds, rfl, A, h, hw, Kept.refl _ _⟩ ?_
  rintro k a w' ⟨e', ds', rfl, A', hI, hh, hk⟩
  refine wp_mono (round k e' ds' A' hI w' hh) ?_
  rintro ex a2 w2 ⟨e2, ds2, rfl, A2, hq2, hh2, hk2⟩
  cases ex with
  | normal =>
    obtain ⟨k', hlt, hI'⟩ := hq2
    exact ⟨k', hlt, e2, ds2, rfl, A2, hI', hh2, hk.trans hk2⟩
  | _ => exact ⟨e2, ds2, rfl, A2, hq2, hh2, hk.trans hk2⟩
end

/-! ## Operations in a row -/
def vnext (P : Program) (dst : Option Tmp) (K : VQ) (e : Env) (ds : List Deferred) : Next → View → Prop
  | .value v, A => K (putE e dst v) ds A
  | .skip, A => K (putE e dst undef) ds A
  | .defer d, A => K (putE e dst undef) (d :: ds) A
  | .enter f args, A => VCalls P f args A fun v A' => K (putE e dst v) ds A'
  | _, _ => False
def vop (P : Program) (n : Nat) (o : Oper) (K : VQ) : VQ := fun e ds A => (execOp (ev n e) o).vp P (vnext P o.dst K e ds) A
def gval (n : Nat) (ops : Array Oper) (e : Env) (j : Nat) : Option Bool :=
  match (ops[j]?).bind (·.dst) with
  | some d => if d < n then (match e d with | .bool b => some b | _ => none) else none
  | none => none
def vwant (n : Nat) (ops : Array Oper) (e : Env) (o : Oper) : Bool := Region.wanted o (gval n ops e)
/-- Known of less. -/
def dn (K : VQ) : VQ := fun e ds A => ∃ A', A' ≤ A ∧ K e ds A'
def vops (P : Program) (n : Nat) (ops : Array Oper) (Q : VQ) : List Oper → VQ
  | [] => Q
  | o :: r => fun e ds A => if vwant n ops e o then vop P n o (dn (vops P n ops Q r)) e ds A else vops P n ops Q r (putE e o.dst undef) ds A

theorem yielded_frame (n : Nat) (ops : Array Oper) (e : Env) (ds : List Deferred) : yielded ops (frame n e ds).tmps = gval n ops e := by
  funext j
  unfold yielded gval
  cases (ops[j]?).bind (·.dst) with
  | none => rfl
  | some d =>
    simp only [frame, Option.bind_some]
    by_cases h : d < n
    · simp only [h, Array.getElem?_ofFn, dite_true, if_true]
      cases e d <;> rfl
    · simp [h]

def Goal (n : Nat) (Q : Exit → VQ) (A : View) (w : World) : Exit → Act → World → Prop := fun x a' w' => ∃ e' ds', a' = frame n e' ds' ∧ Post (Q x e' ds') A w w'
def Mid (n : Nat) (K : VQ) (A : View) (w : World) : Act → World → Prop := fun a' w' => ∃ e' ds', a' = frame n e' ds' ∧ Post (K e' ds') A w w'

theorem Mid.dn {n : Nat} {K : VQ} {A : View} {w : World} {a : Act} {w' : World} (h : Mid n (dn K) A w a w') : Mid n K A w a w' :=
  let ⟨e, ds, he, A', ⟨A'', hle, hK⟩, q, r⟩ := h
  ⟨e, ds, he, A'', hK, q.mono hle, r.sub hle⟩
theorem vop_wp {P : Program} {n : Nat} {o : Oper} {K : VQ} {e : Env} {ds : List Deferred} {A A0 : View} {w w0 : World} {Q : Exit → Act → World → Prop}
    (h : vop P n o K e ds A) (hw : Holds A w) (h0 : Kept A0 w0 A w) : o.wp P (frame n e ds) w (Mid n K A0 w0) Q := by
  unfold Oper.wp
  rw [frame_eval]
  obtain ⟨x, w', hr, A', hn, hh, hk⟩ := vp_sound _ _ _ _ h hw
  rw [hr]
  cases x <;> simp only [Oper.upon] <;> first | exact hn.elim | skip
  · rw [frame_put]; exact ⟨_, _, rfl, A', hn, hh, h0.trans hk⟩
  · rw [frame_put]; exact ⟨_, _, rfl, A', hn, hh, h0.trans hk⟩
  · refine (hn w' hh).mono ?_
    rintro en w2 ⟨v, rfl, A2, hK, hh2, hk2⟩
    simp only
    rw [frame_put]
    exact ⟨_, _, rfl, A2, hK, hh2, (h0.trans hk).trans hk2⟩
  · rename_i d
    have : ({ frame n e ds with defers := d :: (frame n e ds).defers } : Act) = frame n e (d :: ds) := rfl
    rw [this, frame_put]
    exact ⟨_, _, rfl, A', hn, hh, h0.trans hk⟩

theorem vops_wp {P : Program} {n : Nat} {ops : Array Oper} {K : VQ} {A0 : View} {w0 : World} {Q : Exit → Act → World → Prop}
    (hQ : ∀ a w, Mid n K A0 w0 a w → Q .normal a w) : ∀ (l : List Oper) (i : Nat) (e : Env) (ds : List Deferred) (A : View) (w : World), (∀ j, l[j]? = ops[i + j]?) →
    vops P n ops K l e ds A → Holds A w → Kept A0 w0 A w → wpOps P ops Q (List.range' i l.length) (frame n e ds) w := by
  intro l
  induction l with
  | nil => intro i e ds A w _ h hw h0; exact hQ _ _ ⟨e, ds, rfl, A, h, hw, h0⟩
  | cons o r ih =>
    intro i e ds A w hl h hw h0
    have hi : ops[i]? = some o := by have := hl 0; simpa using this.symm
    have hr : ∀ j, r[j]? = ops[i + 1 + j]? := fun j => by have := hl (j + 1); simp only [List.getElem?_cons_succ] at this; rw [this]; congr 1; omega
    rw [List.length_cons, List.range'_succ, wpOps_cons]
    unfold wpOp
    simp only [hi, yielded_frame]
    simp only [vops] at h
    split
    · rename_i hg
      rw [if_pos (show vwant n ops e o = true from hg)] at h
      refine .inl (Oper.wp_mono ?_ (vop_wp h hw h0))
      rintro a w' hmid
      obtain ⟨e', ds', rfl, A', hK, hh, hk⟩ := hmid.dn
      exact ih (i + 1) e' ds' A' w' hr hK hh hk
    · rename_i hg
      rw [if_neg (show ¬ vwant n ops e o = true from hg)] at h
      rw [frame_put]
      exact ih (i + 1) _ ds A w hr h hw h0

theorem vregion {P : Program} {n id : Nat} {l : List Oper} {Q : Exit → VQ} {e : Env} {ds : List Deferred} {A : View}
    (h : vops P n l.toArray (Q .normal) l e ds A) : VCode P n (.region id l.toArray false) Q e ds A := by
  intro w hw
  refine wp_region ?_
  have := vops_wp (P := P) (ops := l.toArray) (K := Q .normal) (A0 := A) (w0 := w) (Q := Goal n Q A w) (fun a w' hm => hm) l 0 e ds A w (fun j => by simp) h hw (Kept.refl _ _)
  rw [← List.range_eq_range'] at this
  exact this

/-- Code, taken apart as far as it has neither loops nor regions that draw. -/
def vc (P : Program) (n : Nat) : Code → (Exit → VQ) → VQ
  | .skip, Q => Q .normal
  | .seq x y, Q => vc P n x (thenQ (vc P n y Q) Q)
  | .cond c x y, Q => fun e ds A => match ev n e c with
    | .bool true => vc P n x Q e ds A
    | .bool false => vc P n y Q e ds A
    | _ => False
  | .block id c, Q => vc P n c (inB id Q)
  | .exit id, Q => Q (.exit id)
  | .ret, Q => Q .ret
  | .region _ ops false, Q => vops P n ops (Q .normal) ops.toList
  | c, Q => VCode P n c Q
theorem vc_sound {P : Program} {n : Nat} (c : Code) : ∀ {Q : Exit → VQ} {e : Env} {ds : List Deferred} {A : View}, vc P n c Q e ds A → VCode P n c Q e ds A := by
  induction c with
  | skip => intro Q e ds A h; exact vskip h
  | region id ops draw =>
    intro Q e ds A h
    cases draw with
    | false => exact vregion (l := ops.toList) h
    | true => exact h
  | seq x y ihx ihy =>
    intro Q e ds A h
    refine vseq (VCode.mono (ihx h) ?_)
    intro ex e ds A hq
    cases ex with
    | normal => exact ihy hq
    | _ => exact hq
  | cond c x y ihx ihy =>
    intro Q e ds A h
    simp only [vc] at h
    split at h
    · rename_i hc; exact vcond true hc (by simpa using ihx h)
    · rename_i hc; exact vcond false hc (by simpa using ihy h)
    · exact h.elim
  | block id c ih => intro Q e ds A h; exact vblock (ih h)
  | exit id => intro Q e ds A h; exact vexit h
  | ret => intro Q e ds A h; exact vret h
  | _ => intro Q e ds A h; exact h

/-! ## A function's body -/
def vresults (P : Program) (n : Nat) (fn : Func) (e : Env) (R : Value → View → Prop) (A : View) : Prop := (results fn (frame n e []).tmps).vp P R A
def vbody (P : Program) (fn : Func) (R : Value → View → Prop) : Exit → VQ
  | .normal, e, ds, A | .ret, e, ds, A => ds = [] ∧ (results fn (frame fn.ntmps e []).tmps).vp P (fun v A' => A' = A ∧ R v A) A
  | _, _, _, _ => False

/-- Steps that only look. -/
inductive RO {α : Type} : Sem α → Prop
  | pure (a : α) : RO (.pure a)
  | load (m : Mode) (a : Addr) (k : Value → Sem α) : (∀ v, RO (k v)) → RO (.load m a k)
  | shape (r : Nat) (k : Option (TypeId × Nat) → Sem α) : (∀ v, RO (k v)) → RO (.shape r k)
  | program (k : Program → Sem α) : (∀ v, RO (k v)) → RO (.program k)
  | halt (h : Halt) : RO (.halt h)
theorem RO.run {α : Type} {P : Program} {s : Sem α} (h : RO s) : ∀ (w w' : World) (a : α), s.run P w = .ok a w' → w' = w := by
  induction h with
  | pure a => intro w w' a hr; simp only [Sem.run, Result.ok.injEq] at hr; exact hr.2.symm
  | load m a k _ ih =>
    intro w w' x hr
    simp only [Sem.run] at hr
    split at hr
    · exact ih _ _ _ _ hr
    · split at hr
      · exact ih _ _ _ _ hr
      · cases hr
  | shape r k _ ih => intro w w' x hr; exact ih _ _ _ _ hr
  | program k _ ih => intro w w' x hr; exact ih _ _ _ _ hr
  | halt h => intro w w' x hr; cases hr
theorem RO.bind {α β : Type} {s : Sem α} {f : α → Sem β} (h : RO s) (hf : ∀ a, RO (f a)) : RO (s >>= f) := by
  show RO (s.bind f)
  induction h with
  | pure a => exact hf a
  | load m a k _ ih => exact .load _ _ _ ih
  | shape r k _ ih => exact .shape _ _ ih
  | program k _ ih => exact .program _ ih
  | halt h => exact .halt h
theorem RO.loadCellsFrom (a : Addr) : ∀ (n i : Nat) (acc : Array Value), RO (Go.loadCellsFrom a i n acc)
  | 0, _, _ => .pure _
  | n + 1, i, acc => .bind (.load _ _ _ fun _ => .pure _) fun _ => RO.loadCellsFrom a n (i + 1) _
theorem RO.underlying (t : TypeId) : RO (Go.underlying t) := .program _ fun p => by
  show RO (match p.underlying t with | some d => (Pure.pure d : Sem TypeDesc) | none => Sem.halt _)
  split
  · exact .pure _
  · exact .halt _
theorem RO.typeInfo (t : TypeId) : RO (Go.typeInfo t) := .program _ fun p => by
  show RO (match p.info? t with | some d => (Pure.pure d : Sem TypeInfo) | none => Sem.halt _)
  split
  · exact .pure _
  · exact .halt _
theorem RO.isAgg (t : TypeId) : RO (Go.isAgg t) := .bind (RO.underlying t) fun d => by
  split <;> exact .pure _
theorem RO.loadVar (t : TypeId) (a : Addr) : RO (Go.loadVar t a) := .bind (RO.isAgg t) fun d => by
  split
  · exact .bind (.bind (RO.typeInfo t) fun _ => .pure _) fun n => .bind (RO.loadCellsFrom _ _ _ _) fun _ => .pure _
  · exact .load _ _ _ fun _ => .pure _
theorem RO.mapM {α β : Type} (f : α → Sem β) (hf : ∀ a, RO (f a)) : ∀ l : List α, RO (l.mapM f)
  | [] => by rw [List.mapM_nil]; exact .pure _
  | a :: l => by rw [List.mapM_cons]; exact .bind (hf a) fun _ => .bind (RO.mapM f hf l) fun _ => .pure _
theorem RO.results (fn : Func) (tmps : Array Value) : RO (results fn tmps) := by
  unfold Go.results
  refine .bind ?_ fun vs => .pure _
  rw [Array.mapM_eq_mapM_toList]
  refine .bind (RO.mapM _ (fun r => ?_) _) fun _ => .pure _
  cases r with
  | tmp t => exact .pure _
  | cell a t =>
    refine .bind ?_ fun a => RO.loadVar t a
    show RO (asAddr _)
    unfold asAddr
    split
    · exact .pure _
    · exact .program _ fun p => .halt _
    · exact .halt _

theorem vcalls_of {P : Program} {f : FuncId} {fn : Func} {c : Code} {args : Array Value} {A : View} {R : Value → View → Prop}
    (hf : P.funcs[f]? = some fn) (hb : fn.body = some c) (hn : args.size ≤ fn.ntmps)
    (h : vc P fn.ntmps c (vbody P fn R) (initE args) [] A) : VCalls P f args A R := by
  intro w hw
  refine calls_of_wp hf hb ?_
  rw [frame_init _ _ hn]
  refine wp_mono (vc_sound c h w hw) ?_
  rintro x a w' ⟨e, ds, rfl, A', hq, hh, hk⟩
  have key : ds = [] → (results fn (frame fn.ntmps e []).tmps).vp P (fun v A'' => A'' = A' ∧ R v A') A' →
      ∃ v, (results fn (frame fn.ntmps e []).tmps).run P w' = .ok v w' ∧ ∃ v', Ending.returned v = .returned v' ∧ Post (R v') A w w' := by
    intro _ hr
    obtain ⟨v, w2, hrun, A2, ⟨_, hR⟩, _, _⟩ := vp_sound _ _ _ _ hr hh
    obtain rfl := (RO.results _ _).run _ _ _ hrun
    exact ⟨v, hrun, v, rfl, A', hR, hh, hk⟩
  cases x with
  | normal => obtain ⟨h1, h2⟩ := hq; subst h1; exact ⟨rfl, key rfl (by simpa using vp_mono _ _ (fun v A2 hx => by obtain ⟨h3, h4⟩ := hx; subst h3; exact ⟨rfl, h4⟩) h2)⟩
  | ret => obtain ⟨h1, h2⟩ := hq; subst h1; exact ⟨rfl, key rfl (by simpa using vp_mono _ _ (fun v A2 hx => by obtain ⟨h3, h4⟩ := hx; subst h3; exact ⟨rfl, h4⟩) h2)⟩
  | _ => exact hq.elim
end Go.Proofs.YtpinamipjddobaaV

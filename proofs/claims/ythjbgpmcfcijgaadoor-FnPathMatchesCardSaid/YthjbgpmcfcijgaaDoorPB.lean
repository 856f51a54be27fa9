/- Shell patterns: what Go's filepath.Match finds is what the pattern stands for. -/
import Derived.Test.YthjbgpmcfcijgaaDoorPA
namespace Go.Proofs.YthjbgpmcfcijgaaDoorV
set_option linter.unusedSimpArgs false
set_option linter.unusedVariables false
namespace Pm
def ok1 : It → List Nat → Prop
  | .star, t => 47 ∉ t
  | x, t => ∃ c, t = [c] ∧ takes x c = true
def Mt : List It → List Nat → Prop
  | [], s => s = []
  | x :: xs, s => ∃ a b, s = a ++ b ∧ ok1 x a ∧ Mt xs b
theorem Mt_append {a b : List It} {s : List Nat} : Mt (a ++ b) s ↔ ∃ u v, s = u ++ v ∧ Mt a u ∧ Mt b v := by
  induction a generalizing s with
  | nil =>
    constructor
    · intro h; exact ⟨[], s, rfl, rfl, h⟩
    · rintro ⟨u, v, rfl, h1, h2⟩
      simp only [Mt] at h1
      subst h1; exact h2
  | cons x xs ih =>
    simp only [List.cons_append, Mt]
    constructor
    · rintro ⟨p, q, rfl, h1, h2⟩
      obtain ⟨u, v, rfl, h3, h4⟩ := ih.1 h2
      exact ⟨p ++ u, v, by simp, ⟨p, u, rfl, h1, h3⟩, h4⟩
    · rintro ⟨u, v, rfl, ⟨p, q, rfl, h1, h2⟩, h3⟩
      exact ⟨p, q ++ v, by simp, h1, ih.2 ⟨q, v, rfl, h2, h3⟩⟩
/-- Items that are no stars, at the beginning of a name. -/
def mcI : List It → List Nat → Option (List Nat)
  | [], s => some s
  | _ :: _, [] => none
  | x :: xs, c :: s => if takes x c = true then mcI xs s else none
def Free (a : List It) : Prop := ∀ x ∈ a, x ≠ .star
theorem ok1_free {x : It} (h : x ≠ .star) {t : List Nat} : ok1 x t ↔ ∃ c, t = [c] ∧ takes x c = true := by
  cases x <;> first | exact absurd rfl h | rfl
theorem mcI_iff {a : List It} (h : Free a) {s t : List Nat} : mcI a s = some t ↔ ∃ u, s = u ++ t ∧ Mt a u := by
  induction a generalizing s with
  | nil =>
    simp only [mcI, Option.some.injEq, Mt]
    constructor
    · rintro rfl; exact ⟨[], rfl, rfl⟩
    · rintro ⟨u, rfl, rfl⟩; rfl
  | cons x xs ih =>
    have hx := h x List.mem_cons_self
    have ih := ih (fun y hy => h y (List.mem_cons_of_mem _ hy)) (s := s.tail)
    cases s with
    | nil =>
      simp only [mcI]
      constructor
      · intro h; cases h
      · rintro ⟨u, hu, p, q, rfl, h1, -⟩
        obtain ⟨c, rfl, -⟩ := (ok1_free hx).1 h1
        cases hu
    | cons c s =>
      simp only [List.tail_cons] at ih
      simp only [mcI]
      constructor
      · intro hm
        split at hm
        · rename_i ht
          obtain ⟨u, rfl, h2⟩ := ih.1 hm
          exact ⟨c :: u, rfl, [c], u, rfl, (ok1_free hx).2 ⟨c, rfl, ht⟩, h2⟩
        · cases hm
      · rintro ⟨u, hu, p, q, rfl, h1, h2⟩
        obtain ⟨c', rfl, ht⟩ := (ok1_free hx).1 h1
        simp only [List.cons_append, List.nil_append, List.cons.injEq] at hu
        obtain ⟨rfl, rfl⟩ := hu
        rw [if_pos ht]
        exact ih.2 ⟨q, rfl, h2⟩
theorem Mt_free {a b : List It} (h : Free a) {s : List Nat} : Mt (a ++ b) s ↔ ∃ t, mcI a s = some t ∧ Mt b t := by
  rw [Mt_append]
  constructor
  · rintro ⟨u, v, rfl, h1, h2⟩; exact ⟨v, (mcI_iff h).2 ⟨u, rfl, h1⟩, h2⟩
  · rintro ⟨t, h1, h2⟩
    obtain ⟨u, rfl, h3⟩ := (mcI_iff h).1 h1
    exact ⟨u, t, rfl, h3, h2⟩
theorem Mt_star {b : List It} {s : List Nat} : Mt (.star :: b) s ↔ ∃ u v, s = u ++ v ∧ 47 ∉ u ∧ Mt b v := Iff.rfl
theorem Mt_star2 {b : List It} {s : List Nat} : Mt (.star :: .star :: b) s ↔ Mt (.star :: b) s := by
  constructor
  · rintro ⟨u, v, rfl, h1, u', v', rfl, h2, h3⟩
    exact ⟨u ++ u', v', by simp, fun h => (List.mem_append.1 h).elim h1 h2, h3⟩
  · rintro ⟨u, v, rfl, h1, h2⟩
    exact ⟨u, v, rfl, h1, [], v, rfl, (by intro h; cases h), h2⟩
theorem Mt_stars {n : Nat} {b : List It} {s : List Nat} : Mt (List.replicate (n + 1) .star ++ b) s ↔ Mt (.star :: b) s := by
  induction n with
  | zero => rfl
  | succ n ih =>
    rw [List.replicate_succ, List.replicate_succ, List.cons_append, List.cons_append, Mt_star2, ← List.cons_append, ← List.replicate_succ]
    exact ih
theorem Mt_point {a : List It} (h : Free a) {u : List Nat} (hm : Mt a u) : u.length = a.length ∧ ∀ (j : Nat) (x : It) (c : Nat), a[j]? = some x → u[j]? = some c → takes x c = true := by
  induction a generalizing u with
  | nil => simp only [Mt] at hm; subst hm; exact ⟨rfl, fun j x c h => by simp at h⟩
  | cons x xs ih =>
    obtain ⟨p, q, rfl, h1, h2⟩ := hm
    obtain ⟨c, rfl, ht⟩ := (ok1_free (h x List.mem_cons_self)).1 h1
    obtain ⟨h3, h4⟩ := ih (fun y hy => h y (List.mem_cons_of_mem _ hy)) h2
    refine ⟨by simp [h3], fun j y d hy hd => ?_⟩
    cases j with
    | zero => simp at hy hd; subst hy hd; exact ht
    | succ j => simp at hy hd; exact h4 j y d hy hd
/-- Where a slash is, an item that is no literal slash is none for it. -/
def SlOK (items : List It) (s : List Nat) : Prop := 47 ∉ s ∨ ∀ x ∈ items, takes x 47 = true → x = .chr 47
theorem swap {a b : List It} (h : Free a) {w v1 v2 t1 t2 : List Nat} (hw : w ≠ []) (hv : v1 = w ++ v2) (hs : 47 ∉ w) (h1 : mcI a v1 = some t1) (h2 : mcI a v2 = some t2) (hsl : SlOK a v1) (hb : Mt (.star :: b) t2) : Mt (.star :: b) t1 := by
  obtain ⟨m1, e1, g1⟩ := (mcI_iff h).1 h1
  obtain ⟨m2, e2, g2⟩ := (mcI_iff h).1 h2
  obtain ⟨l1, p1⟩ := Mt_point h g1
  obtain ⟨l2, p2⟩ := Mt_point h g2
  have hno : ∀ j : Nat, m2[j]? ≠ some 47 := by
    intro j
    induction j using Nat.strongRecOn with
    | _ j ih =>
    intro hj
    have hjl : j < m2.length := (List.getElem?_eq_some_iff.1 hj).1
    have hm : 47 ∈ v1 := by
      rw [hv, e2]
      have := List.mem_of_getElem? hj
      simp [this]
    rcases hsl with hsl | hsl
    · exact hsl hm
    · have haj : a[j]? = some a[j] := List.getElem?_eq_getElem (by omega)
      have hx := hsl _ (List.getElem_mem (by omega : j < a.length)) (p2 j _ _ haj hj)
      have hm1 : m1[j]? = some m1[j] := List.getElem?_eq_getElem (by omega)
      have ht1 := p1 j _ _ haj hm1
      rw [hx] at ht1
      simp only [takes, beq_iff_eq] at ht1
      have hv1 : v1[j]? = some 47 := by rw [e1, List.getElem?_append_left (by omega), hm1, ht1]
      rw [hv] at hv1
      by_cases hjw : j < w.length
      · rw [List.getElem?_append_left hjw] at hv1
        exact hs (List.mem_of_getElem? hv1)
      · rw [List.getElem?_append_right (by omega), e2, List.getElem?_append_left (by omega)] at hv1
        have : 0 < w.length := List.length_pos_iff.2 hw
        exact ih (j - w.length) (by omega) hv1
  have hno2 : 47 ∉ m2 := fun hm => by
    obtain ⟨j, hj, e⟩ := List.getElem_of_mem hm
    exact hno j (by rw [List.getElem?_eq_getElem hj, e])
  have e3 : t1 = (w ++ m2).drop m1.length ++ t2 := by
    have : v1.drop m1.length = t1 := by rw [e1, List.drop_left]
    rw [← this, hv, e2, ← List.append_assoc, List.drop_append_of_le_length (by simp; omega)]
  rw [e3]
  obtain ⟨u, v, rfl, h3, h4⟩ := hb
  refine ⟨(w ++ m2).drop m1.length ++ u, v, by simp, fun hx => ?_, h4⟩
  rcases List.mem_append.1 hx with hx | hx
  · rcases List.mem_append.1 (List.mem_of_mem_drop hx) with hx | hx
    · exact hs hx
    · exact hno2 hx
  · exact h3 hx
theorem cls1_free {l r : List Nat} {x : It} (h : cls1 l = some (x, r)) : x ≠ .star := by
  unfold cls1 at h
  split at h
  · obtain ⟨p, -, h2⟩ := Option.map_eq_some_iff.1 h
    simp only [Prod.mk.injEq] at h2
    rw [← h2.1]; simp
  · obtain ⟨p, -, h2⟩ := Option.map_eq_some_iff.1 h
    simp only [Prod.mk.injEq] at h2
    rw [← h2.1]; simp
theorem pat_free : ∀ (l : List Nat) {a : List It}, pat false l = some a → Free a := by
  intro l
  induction hn : l.length using Nat.strongRecOn generalizing l with
  | _ n ih =>
  intro a h
  subst hn
  have step : ∀ {x : It} {r : List Nat}, x ≠ .star → r.length < l.length → (pat false r).map (x :: ·) = some a → Free a := by
    intro x r hx hr h
    obtain ⟨a', h1, rfl⟩ := Option.map_eq_some_iff.1 h
    have := ih _ hr r rfl h1
    intro y hy
    rcases List.mem_cons.1 hy with rfl | hy
    · exact hx
    · exact this y hy
  cases l with
  | nil =>
    rw [pat_nil] at h
    simp only [Option.some.injEq] at h
    subst h
    intro x hx; cases hx
  | cons c r =>
    rw [pat_cons] at h
    rw [if_neg (by simp)] at h
    split at h
    · exact step (by simp) (by simp) h
    · split at h
      · split at h
        · cases h
        · rename_i hc
          have := cls1_len hc
          exact step (cls1_free hc) (by simp only [List.length_cons]; omega) h
      · split at h
        · cases r with
          | nil => cases h
          | cons d r' => exact step (by simp) (by simp only [List.length_cons]; omega) h
        · exact step (by simp) (by simp) h
/-- What may be told of a pattern and a name: none for a fault. -/
structure GL (p s : List Nat) (res : Option Bool) : Prop where
  good : ∀ items, pat true p = some items → SlOK items s → res ≠ none ∧ (res = some true ↔ Mt items s)
  bad : pat true p = none → res ≠ some true
theorem pat_stars (n : Nat) (p : List Nat) : pat true (List.replicate n 42 ++ p) = (pat true p).map (List.replicate n .star ++ ·) := by
  induction n with
  | zero => simp
  | succ n ih =>
    rw [List.replicate_succ, List.cons_append, pat_cons, if_pos ⟨rfl, rfl⟩, ih, Option.map_map]
    rfl
/-- A pattern's first piece: n stars, and a piece without. -/
structure Pc (p : List Nat) (n : Nat) (c r : List Nat) : Prop where
  e : ∃ p', p = List.replicate n 42 ++ p' ∧ scan false p' = (c, r)
theorem Pc.pat {p c r : List Nat} {n : Nat} (h : Pc p n c r) : pat true p = (match Pm.pat false c with
    | none => none
    | some a => (Pm.pat true r).map fun b => List.replicate n .star ++ (a ++ b)) := by
  obtain ⟨p', rfl, hs⟩ := h.e
  rw [pat_stars, pat_scan, hs]
  simp only
  cases Pm.pat false c with
  | none => rfl
  | some a => simp only [Option.map_map]; rfl
theorem scan_rest : ∀ (l : List Nat) (i : Bool), (scan i l).2 = [] ∨ ∃ t, (scan i l).2 = 42 :: t := by
  intro l
  induction hn : l.length using Nat.strongRecOn generalizing l with
  | _ n ih =>
  intro i
  subst hn
  cases l with
  | nil => rw [scan_nil]; exact .inl rfl
  | cons c r =>
    rw [scan_cons]
    split
    · cases r with
      | nil => exact .inl rfl
      | cons d r' => exact ih _ (by simp only [List.length_cons]; omega) r' rfl i
    · split
      · exact ih _ (by simp) r rfl true
      · split
        · exact ih _ (by simp) r rfl false
        · split
          · rename_i h; exact .inr ⟨r, by rw [h.1]⟩
          · exact ih _ (by simp) r rfl i
theorem Pc.rest {p c r : List Nat} {n : Nat} (h : Pc p n c r) : r = [] ∨ ∃ t, r = 42 :: t := by
  obtain ⟨p', rfl, hs⟩ := h.e
  have := scan_rest p' false
  rw [hs] at this
  exact this
theorem SlOK.sub {items b : List It} {s t : List Nat} (h : SlOK items s) (hb : ∀ x ∈ b, x ∈ items) (ht : ∀ c ∈ t, c ∈ s) : SlOK b t :=
  h.imp (fun h hx => h (ht _ hx)) fun h x hx => h x (hb x hx)
/-- What a name has behind what a piece stands for. -/
theorem mcI_mem {a : List It} (h : Free a) {s t : List Nat} (e : mcI a s = some t) : ∀ c ∈ t, c ∈ s := by
  obtain ⟨u, rfl, _⟩ := (mcI_iff h).1 e
  intro c hc; simp [hc]
theorem GL.err {p s c r : List Nat} {n : Nat} (h : Pc p n c r) (hc : pat false c = none) : GL p s none := by
  have := h.pat
  rw [hc] at this
  simp only at this
  exact ⟨fun items hi => (by rw [this] at hi; cases hi), fun _ => by simp⟩
theorem GL.stars {p s r : List Nat} {n : Nat} (h : Pc p (n + 1) [] r) (hr : r = []) : GL p s (some (decide (47 ∉ s))) := by
  subst hr
  have hp := h.pat
  simp only [pat_nil, Option.map_some, List.append_nil, List.nil_append] at hp
  refine ⟨fun items hi _ => ?_, fun hn => (by rw [hp] at hn; cases hn)⟩
  rw [hp, Option.some.injEq] at hi
  subst hi
  refine ⟨by simp, ?_⟩
  rw [Option.some.injEq, decide_eq_true_iff]
  have := Mt_stars (n := n) (b := []) (s := s)
  rw [List.append_nil] at this
  rw [this]
  constructor
  · intro hs; exact ⟨s, [], by simp, hs, rfl⟩
  · rintro ⟨u, v, rfl, h1, h2⟩
    simp only [Mt] at h2
    subst h2
    rw [List.append_nil]
    exact h1
theorem GL.plain {p s c r t : List Nat} {a : List It} {res : Option Bool} (h : Pc p 0 c r) (hc : pat false c = some a) (hm : mcI a s = some t) (hg : GL r t res) : GL p s res := by
  have hp := h.pat
  rw [hc] at hp
  simp only [List.replicate_zero, List.nil_append] at hp
  have hf := pat_free _ hc
  refine ⟨fun items hi hsl => ?_, fun hn => ?_⟩
  · rw [hp] at hi
    obtain ⟨b, hb, rfl⟩ := Option.map_eq_some_iff.1 hi
    obtain ⟨h1, h2⟩ := hg.good b hb (hsl.sub (fun x hx => by simp [hx]) (mcI_mem hf hm))
    refine ⟨h1, h2.trans ?_⟩
    rw [Mt_free hf]
    constructor
    · intro h; exact ⟨t, hm, h⟩
    · rintro ⟨t', e, h⟩; rw [hm, Option.some.injEq] at e; subst e; exact h
  · rw [hp] at hn
    exact hg.bad (by simpa using hn)
theorem GL.fail {p s c r : List Nat} {n : Nat} {a : List It} (h : Pc p n c r) (hc : pat false c = some a) (hm : ∀ u v, s = u ++ v → 47 ∉ u → (n = 0 → u = []) → mcI a v = none ∨ (r = [] ∧ ∃ t, mcI a v = some t ∧ t ≠ [])) : GL p s (some false) := by
  have hp := h.pat
  rw [hc] at hp
  simp only at hp
  have hf := pat_free _ hc
  refine ⟨fun items hi hsl => ⟨by simp, ?_⟩, fun hn => by simp⟩
  rw [hp] at hi
  obtain ⟨b, hb, rfl⟩ := Option.map_eq_some_iff.1 hi
  simp only [Option.some.injEq, Bool.false_eq_true, false_iff]
  have key : ∀ u v, s = u ++ v → 47 ∉ u → (n = 0 → u = []) → ¬ Mt (a ++ b) v := by
    intro u v e hu hn hx
    obtain ⟨t, h1, h2⟩ := (Mt_free hf).1 hx
    rcases hm u v e hu hn with h3 | ⟨hr, t', h3, h4⟩
    · rw [h1] at h3; cases h3
    · rw [h1, Option.some.injEq] at h3
      subst h3 hr
      rw [pat_nil, Option.some.injEq] at hb
      subst hb
      exact h4 h2
  cases n with
  | zero => simpa using key [] s rfl (by intro h; cases h) (fun _ => rfl)
  | succ n =>
    rw [Mt_stars]
    rintro ⟨u, v, e, hu, hx⟩
    exact key u v e hu (fun h => by cases h) hx
theorem GL.star {p u v c r t : List Nat} {n : Nat} {a : List It} {res : Option Bool} (h : Pc p (n + 1) c r) (hc : pat false c = some a) (hu : 47 ∉ u) (hm : mcI a v = some t) (ht : r = [] → t = [])
    (hno : ∀ u' w, u = u' ++ w → w ≠ [] → mcI a (w ++ v) = none ∨ (r = [] ∧ ∃ t, mcI a (w ++ v) = some t ∧ t ≠ [])) (hg : GL r t res) : GL p (u ++ v) res := by
  have hp := h.pat
  rw [hc] at hp
  simp only at hp
  have hf := pat_free _ hc
  refine ⟨fun items hi hsl => ?_, fun hn => ?_⟩
  · rw [hp] at hi
    obtain ⟨b, hb, rfl⟩ := Option.map_eq_some_iff.1 hi
    obtain ⟨h1, h2⟩ := hg.good b hb (hsl.sub (fun x hx => by simp [hx]) (fun x hx => by have := mcI_mem hf hm x hx; simp [this]))
    refine ⟨h1, h2.trans ?_⟩
    rw [Mt_stars]
    constructor
    · intro h; exact ⟨u, v, rfl, hu, (Mt_free hf).2 ⟨t, hm, h⟩⟩
    · rintro ⟨u2, v2, e, hu2, hx⟩
      obtain ⟨t2, g1, g2⟩ := (Mt_free hf).1 hx
      rcases List.append_eq_append_iff.1 e with ⟨w, e1, e2⟩ | ⟨w, e1, e2⟩
      · -- the star takes more
        subst e1
        rcases h.rest with hr | ⟨t0, hr⟩
        · subst hr
          rw [pat_nil, Option.some.injEq] at hb
          subst hb
          exact ht rfl
        · obtain ⟨b', rfl⟩ : ∃ b', b = .star :: b' := by
            subst hr
            rw [pat_cons, if_pos ⟨rfl, rfl⟩] at hb
            obtain ⟨b', -, rfl⟩ := Option.map_eq_some_iff.1 hb
            exact ⟨b', rfl⟩
          by_cases hw : w = []
          · subst hw
            simp only [List.nil_append] at e2
            subst e2
            rw [hm, Option.some.injEq] at g1
            subst g1
            exact g2
          · exact swap hf hw e2 (fun hx => hu2 (by simp [hx])) hm g1 (hsl.sub (fun x hx => by simp [hx]) (fun x hx => by simp [hx])) g2
      · -- it takes less
        by_cases hw : w = []
        · subst hw
          simp only [List.append_nil, List.nil_append] at e1 e2
          subst e1 e2
          rw [hm, Option.some.injEq] at g1
          subst g1
          exact g2
        · rcases hno u2 w e1 hw with h3 | ⟨hr, t', h3, h4⟩
          · rw [← e2, g1] at h3; cases h3
          · rw [← e2, g1, Option.some.injEq] at h3
            subst h3 hr
            rw [pat_nil, Option.some.injEq] at hb
            subst hb
            exact absurd g2 h4
  · rw [hp] at hn
    exact hg.bad (by simpa using hn)
theorem GL.end {s : List Nat} : GL [] s (some (decide (s = []))) := by
  refine ⟨fun items hi _ => ?_, fun hn => (by rw [pat_nil] at hn; cases hn)⟩
  rw [pat_nil, Option.some.injEq] at hi
  subst hi
  exact ⟨by simp, by simp [Mt]⟩
end Pm
end Go.Proofs.YthjbgpmcfcijgaaDoorV

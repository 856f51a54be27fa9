/- The logic of views: a view with blocks of one's own laid over it. -/
import Derived.Test.YtpinamipjddobaaV10
namespace Go.Proofs.YtpinamipjddobaaV
open Go.RowKit
set_option linter.unusedSimpArgs false
set_option linter.unusedVariables false

/-! ## Own blocks over a view -/
def ov (A : View) : List (Nat × Obj) → View
  | [] => A
  | (b, o) :: L => (ov A L).set b o
def addrs : List (Nat × Obj) → List Nat
  | [] => []
  | (b, _) :: L => b :: addrs L
def Priv (A : View) : List Nat → Prop
  | [] => True
  | b :: l => A b = none ∧ b ∉ l ∧ Priv A l
def lkL (b : Nat) : List (Nat × Obj) → Option Obj
  | [] => none
  | (b', o) :: L => if b = b' then some o else lkL b L
def updL (b : Nat) (o : Obj) : List (Nat × Obj) → List (Nat × Obj)
  | [] => []
  | (b', o') :: L => if b = b' then (b', o) :: L else (b', o') :: updL b o L
def delL (b : Nat) : List (Nat × Obj) → List (Nat × Obj)
  | [] => []
  | (b', o') :: L => if b = b' then L else (b', o') :: delL b L
theorem ov_nil (A : View) : ov A [] = A := _root_.id rfl
@[go_sem] theorem ov_cons (A : View) (b : Nat) (o : Obj) (L : List (Nat × Obj)) : (ov A L).set b o = ov A ((b, o) :: L) := _root_.id rfl
theorem ov_get (A : View) (b : Nat) : ∀ L : List (Nat × Obj), ov A L b = match lkL b L with | some o => some o | none => A b
  | [] => rfl
  | (b', o) :: L => by
    simp only [ov, lkL]
    by_cases h : b = b'
    · subst h; rw [set_at, if_pos rfl]
    · rw [set_other h, if_neg h]; exact ov_get A b L
theorem lkL_addrs {b : Nat} : ∀ {L : List (Nat × Obj)}, b ∉ addrs L → lkL b L = none
  | [], _ => rfl
  | (b', o) :: L, h => by
    simp only [addrs, List.mem_cons, not_or] at h
    rw [lkL, if_neg h.1]
    exact lkL_addrs h.2
theorem Priv.no {A : View} {b : Nat} : ∀ {l : List Nat}, Priv A l → b ∈ l → A b = none
  | [], _, h => by cases h
  | c :: l, ⟨h1, h2, h3⟩, h => by
    rcases List.mem_cons.1 h with h | h
    · subst h; exact h1
    · exact Priv.no h3 h
theorem Priv.notin {A : View} {l : List Nat} (hP : Priv A l) {b : Nat} {o : Obj} (h : A b = some o) : b ∉ l := fun hb => by rw [hP.no hb] at h; cases h
theorem ov_base {A : View} {L : List (Nat × Obj)} (hP : Priv A (addrs L)) {b : Nat} {o : Obj} (h : A b = some o) : ov A L b = some o := by
  rw [ov_get, lkL_addrs (hP.notin h)]; exact h
theorem le_ov {A : View} {L : List (Nat × Obj)} (hP : Priv A (addrs L)) : A ≤ ov A L := fun _ _ h => ov_base hP h
theorem Priv.nil (A : View) : Priv A (addrs []) := trivial
theorem ov_none {A : View} {b : Nat} : ∀ {L : List (Nat × Obj)}, ov A L b = none → A b = none ∧ b ∉ addrs L
  | [], h => ⟨h, by simp [addrs]⟩
  | (b', o) :: L, h => by
    simp only [ov] at h
    by_cases hb : b = b'
    · subst hb; rw [set_at] at h; cases h
    · rw [set_other hb] at h
      obtain ⟨h1, h2⟩ := ov_none h
      exact ⟨h1, by simp only [addrs, List.mem_cons, not_or]; exact ⟨hb, h2⟩⟩
theorem Priv.cons {A : View} {L : List (Nat × Obj)} (hP : Priv A (addrs L)) {b : Nat} (h : ov A L b = none) : Priv A (b :: addrs L) := ⟨(ov_none h).1, (ov_none h).2, hP⟩
theorem Priv.ne {A : View} {b : Nat} {l : List Nat} (hP : Priv A (b :: l)) : ∀ c ∈ l, b ≠ c ∧ c ≠ b := fun c hc => ⟨fun h => hP.2.1 (h ▸ hc), fun h => hP.2.1 (h ▸ hc)⟩
theorem Priv.anti {A B : View} : ∀ {l : List Nat}, Priv A l → (∀ b, b ∈ l → A b = .none → B b = .none) → Priv B l
  | [], _, _ => trivial
  | b :: l, ⟨h1, h2, h3⟩, h => ⟨h b List.mem_cons_self h1, h2, Priv.anti h3 fun c hc => h c (List.mem_cons_of_mem _ hc)⟩
theorem fresh_ov {A : View} {L : List (Nat × Obj)} (hP : Priv A (addrs L)) {o : Obj} {K : Nat → View → Prop} (h : ∀ b, Priv A (b :: addrs L) → K b (ov A ((b, o) :: L))) : fresh (ov A L) o K :=
  fun b hb => h b (hP.cons hb)
theorem addrs_updL (b : Nat) (o : Obj) : ∀ L : List (Nat × Obj), addrs (updL b o L) = addrs L
  | [] => rfl
  | (b', o') :: L => by
    simp only [updL]
    split
    · rfl
    · simp only [addrs, addrs_updL b o L]
theorem ov_updL {A : View} {b : Nat} {o o' : Obj} : ∀ {L : List (Nat × Obj)}, lkL b L = some o' → (ov A L).set b o = ov A (updL b o L)
  | [], h => by cases h
  | (b', o1) :: L, h => by
    simp only [lkL] at h
    simp only [ov, updL]
    by_cases hb : b = b'
    · subst hb; rw [if_pos rfl]; exact set_set _ _ _ _
    · rw [if_neg hb] at h ⊢
      simp only [ov]
      rw [← ov_updL h]
      funext k
      unfold View.set
      by_cases h1 : k = b
      · subst h1; rw [if_pos rfl, if_neg hb, if_pos rfl]
      · rw [if_neg h1]
        split
        · rfl
        · rfl

/-! ## Looking -/
@[go_sem] theorem ov_cell_here (A : View) (b i : Nat) (c : Array Value) (e : TypeId) (f : Nat × Nat) (L : List (Nat × Obj)) : (ov A ((b, .cells c e f) :: L)).cell? ⟨b, i, none⟩ = c[i]? := by
  unfold View.cell?
  simp only [ov, set_at]
  rfl
@[go_sem] theorem ov_cell_there (A : View) (b b' i : Nat) (o : Obj) (L : List (Nat × Obj)) (h : b' ≠ b) : (ov A ((b, o) :: L)).cell? ⟨b', i, none⟩ = (ov A L).cell? ⟨b', i, none⟩ := by
  unfold View.cell?
  simp only [ov, set_other h]
@[go_sem] theorem ov_cells_here (A : View) (b n : Nat) (c : Array Value) (e : TypeId) (f : Nat × Nat) (L : List (Nat × Obj)) (h : c.size = n) : (ov A ((b, .cells c e f) :: L)).cells? ⟨b, 0, none⟩ 0 n = some c.toList :=
  cells_block (set_at _ _ _) h
@[go_sem] theorem ov_cells_there (A : View) (b b' i n k : Nat) (o : Obj) (L : List (Nat × Obj)) (h : b' ≠ b) : (ov A ((b, o) :: L)).cells? ⟨b', i, none⟩ k n = (ov A L).cells? ⟨b', i, none⟩ k n :=
  cells?_congr (A := ov A ((b, o) :: L)) (B := ov A L) (a := ⟨b', i, none⟩) (by simp only [ov]; exact set_other h) n k
@[go_sem] theorem ov_at_here (A : View) (b : Nat) (o : Obj) (L : List (Nat × Obj)) : ov A ((b, o) :: L) b = some o := set_at _ _ _
@[go_sem] theorem ov_at_there (A : View) (b b' : Nat) (o : Obj) (L : List (Nat × Obj)) (h : b' ≠ b) : ov A ((b, o) :: L) b' = ov A L b' := set_other h
theorem ov_cell {A : View} {L : List (Nat × Obj)} (hP : Priv A (addrs L)) {a : Addr} {v : Value} (h : A.cell? a = some v) : (ov A L).cell? a = some v := le_cell (le_ov hP) h
theorem ov_cells {A : View} {L : List (Nat × Obj)} (hP : Priv A (addrs L)) {a : Addr} {i n : Nat} {cs : List Value} (h : A.cells? a i n = some cs) : (ov A L).cells? a i n = some cs := le_cells (le_ov hP) _ _ _ h

theorem bc {A : View} {l : List Nat} (hP : Priv A l) {a : Addr} {v : Value} (h : A.cell? a = some v) : ∀ L, addrs L = l → (ov A L).cell? a = some v := fun _ e => ov_cell (by rw [e]; exact hP) h
theorem bcs {A : View} {l : List Nat} (hP : Priv A l) {a : Addr} {i n : Nat} {cs : List Value} (h : A.cells? a i n = some cs) : ∀ L, addrs L = l → (ov A L).cells? a i n = some cs := fun _ e => ov_cells (by rw [e]; exact hP) h
theorem bcm {A : View} {l : List Nat} (hP : Priv A l) {b : Nat} {o : Obj} (h : A b = some o) : ∀ L, addrs L = l → ov A L b = some o := fun _ e => ov_base (by rw [e]; exact hP) h
/-! ## Stores -/
def ones (c : Array Value) : Bool := c.toList.all one
@[go_sem] theorem ones_lit (l : List Value) : ones l.toArray = l.all one := _root_.id rfl
/-- The cells of a struct written whole. -/
theorem splice_all {c vs : Array Value} (h : c.size = vs.size) : splice c 0 vs.toList = vs := by
  apply Array.ext
  · rw [splice_size, h]
  · intro i h1 h2
    have := splice_get vs.toList c 0 (by simp [h]) i
    rw [Array.getElem?_eq_getElem h1] at this
    simp at this
    rw [if_pos h2, Array.getElem?_eq_getElem h2] at this
    exact Option.some.inj this
def stX (P : Program) (t : TypeId) (p v : Value) (L : List (Nat × Obj)) : Option (List (Nat × Obj)) :=
  match p, tinfo P t with
  | .pointer (some ⟨b, i, none⟩), some ti => match lkL b L with
    | some (.cells c e (0, 0)) => if v.cells.size = ti.size ∧ ones v.cells = true then (if i = 0 ∧ c.size = v.cells.size then some (updL b (.cells v.cells e (0, 0)) L) else if i + v.cells.size ≤ c.size then some (updL b (.cells (splice c i v.cells.toList) e (0, 0)) L) else none) else none
    | _ => none
  | _, _ => none
theorem stX_sound {P : Program} {t : TypeId} {p v : Value} {A : View} {L L' : List (Nat × Obj)} (h : stX P t p v L = some L') : xstore P t p v (ov A L) = some (ov A L') ∧ addrs L' = addrs L := by
  unfold stX at h
  split at h
  · rename_i b i ti hti
    split at h
    · rename_i c e hl
      split at h
      · rename_i hc
        obtain ⟨h1, h3⟩ := hc
        have hA : ov A L b = some (.cells c e (0, 0)) := by rw [ov_get, hl]
        have key : i + v.cells.size ≤ c.size → xstore P t (.pointer (some ⟨b, i, none⟩)) v (ov A L) = some (ov A (updL b (.cells (splice c i v.cells.toList) e (0, 0)) L)) := fun h2 => by
          have := storeAll_block v.cells.toList (ov A L) ⟨b, i, none⟩ 0 c hA rfl (by simpa using h2) (fun x hx => List.all_eq_true.1 h3 x hx)
          simp only [xstore, hti, h1, if_true]
          rw [this, ov_updL hl]
          rfl
        split at h
        · rename_i h0
          obtain ⟨rfl, h0⟩ := h0
          simp only [Option.some.injEq] at h
          subst h
          refine ⟨?_, addrs_updL _ _ _⟩
          rw [key (by omega), splice_all h0]
        · split at h
          · rename_i h2
            simp only [Option.some.injEq] at h
            subst h
            exact ⟨key h2, addrs_updL _ _ _⟩
          · cases h
      · cases h
    · cases h
  · cases h
def stB (P : Program) (t : TypeId) (p v : Value) (A : View) (L : List (Nat × Obj)) : Option View := xstore P t p v (ov A L)
@[go_sem] theorem xstore_ov (P : Program) (t : TypeId) (b i : Nat) (v : Value) (A : View) (L : List (Nat × Obj)) :
    xstore P t (.pointer (some ⟨b, i, none⟩)) v (ov A L) = match stX P t (.pointer (some ⟨b, i, none⟩)) v L with | some L' => some (ov A L') | none => stB P t (.pointer (some ⟨b, i, none⟩)) v A L := by
  cases h : stX P t (.pointer (some ⟨b, i, none⟩)) v L with
  | none => rfl
  | some L' => exact (stX_sound h).1
@[go_sem] theorem addrs_nil : addrs [] = [] := _root_.id rfl
@[go_sem] theorem addrs_cons (b : Nat) (o : Obj) (L : List (Nat × Obj)) : addrs ((b, o) :: L) = b :: addrs L := _root_.id rfl
@[go_sem] theorem lkL_nil (b : Nat) : lkL b [] = none := _root_.id rfl
@[go_sem] theorem lkL_cons (b b' : Nat) (o : Obj) (L : List (Nat × Obj)) : lkL b ((b', o) :: L) = if b = b' then some o else lkL b L := _root_.id rfl
attribute [go_sem] updL delL splice

/-! ## Calls -/
def Keep (D A D' A' : View) : Prop := ∀ k o, D k = none → A k = some o → D' k = none ∧ A' k = some o
theorem join_ov {A B : View} {L : List (Nat × Obj)} (hP : Priv B (addrs L)) : ∀ b, (match B b with | some o => some o | none => ov A L b) = ov (fun b => match B b with | some o => some o | none => A b) L b := by
  induction L with
  | nil => intro b; rfl
  | cons p L ih =>
    obtain ⟨c, o⟩ := p
    intro b
    have ih := ih hP.2.2 b
    simp only [ov]
    by_cases h : b = c
    · subst h
      rw [set_at, set_at, show B b = none from hP.1]
    · rw [set_other h, set_other h]
      exact ih
/-- A call at less than what lies beneath. -/
theorem call_sub {P : Program} {f : FuncId} {args : Array Value} {D A : View} {L : List (Nat × Obj)} {R : Value → View → Prop} {K : Value → View → Prop} (hP : Priv A (addrs L)) (hD : D ≤ A) (h : VCalls P f args D R)
    (k : ∀ v D' A', R v D' → D' ≤ A' → Keep D A D' A' → (D ≤ D' → A ≤ A') → Priv A' (addrs L) → K v (ov A' L)) : VCalls P f args (ov A L) K := by
  refine (h.frame (View.le_trans hD (le_ov hP))).mono ?_
  rintro v B' ⟨D', hR, hd, rfl⟩
  have hpriv : ∀ b, b ∈ addrs L → D' b = none := fun b hb => by
    refine hd b ?_
    unfold View.minus
    rw [none_le hD (hP.no hb)]
    simp only
    rw [ov_get]
    cases hl : lkL b L with
    | none =>
      exfalso
      have : ∀ L : List (Nat × Obj), b ∈ addrs L → lkL b L ≠ none := by
        intro L
        induction L with
        | nil => intro h; cases h
        | cons p L ih =>
          obtain ⟨c, o⟩ := p
          intro h
          simp only [lkL]
          split
          · simp
          · rename_i hne
            exact ih ((List.mem_cons.1 h).resolve_left hne)
      exact this L hb hl
    | some o => simp
  have hPD : Priv D' (addrs L) := hP.anti fun b hb _ => hpriv b hb
  have hDL : Priv D (addrs L) := hP.anti fun b hb h => none_le hD h
  have e1 : D'.join ((ov A L).minus D) = ov (D'.join (A.minus D)) L := by
    have e2 : (ov A L).minus D = ov (A.minus D) L := by
      funext b
      exact (show (ov A L).minus D b = ov (A.minus D) L b by
        unfold View.minus
        rw [ov_get, ov_get]
        cases hl : lkL b L with
        | some o =>
          have : D b = none := by
            cases hDb : D b with
            | none => rfl
            | some o' =>
              have := lkL_addrs (hDL.notin hDb)
              rw [this] at hl; cases hl
          rw [this]
        | none => rfl)
    rw [e2]
    funext b
    exact join_ov hPD b
  rw [e1]
  refine k v D' (D'.join (A.minus D)) hR (fun b o hb => by simp only [View.join, hb]) ?_ ?_ ?_
  · intro b o h1 h2
    have hm : A.minus D b = some o := by simp only [View.minus, h1]; exact h2
    have hn := hd b (by
      unfold View.minus
      rw [h1]
      simp only
      rw [ov_base hP h2]; simp)
    exact ⟨hn, by simp only [View.join, hn]; exact hm⟩
  · intro hDD b o hb
    cases hDb : D b with
    | some o' =>
      have := hD _ _ hDb
      rw [hb, Option.some.injEq] at this
      subst this
      simp only [View.join, hDD _ _ hDb]
    | none =>
      have hn := hd b (by
        unfold View.minus
        rw [hDb]
        simp only
        rw [ov_base hP hb]; simp)
      simp only [View.join, hn, View.minus, hDb]
      exact hb
  · refine hP.anti fun b hb h => ?_
    simp only [View.join, hpriv b hb, View.minus]
    split
    · rfl
    · exact h
theorem call_ov {P : Program} {f : FuncId} {args : Array Value} {A : View} {L : List (Nat × Obj)} {R : Value → View → Prop} {K : Value → View → Prop} (hP : Priv A (addrs L)) (h : VCalls P f args A R)
    (k : ∀ v A', R v A' → Priv A' (addrs L) → K v (ov A' L)) : VCalls P f args (ov A L) K := by
  refine (h.frame (le_ov hP)).mono ?_
  rintro v B' ⟨D', hR, hd, rfl⟩
  have hmem : ∀ (L : List (Nat × Obj)) (b : Nat), b ∈ addrs L → lkL b L ≠ none := by
    intro L b
    induction L with
    | nil => intro h; cases h
    | cons p L ih =>
      obtain ⟨c, o⟩ := p
      intro h
      simp only [lkL]
      split
      · simp
      · rename_i hne
        exact ih ((List.mem_cons.1 h).resolve_left hne)
  have hpriv : ∀ b, b ∈ addrs L → D' b = none := fun b hb => by
    refine hd b ?_
    unfold View.minus
    rw [hP.no hb]
    simp only
    rw [ov_get]
    cases hl : lkL b L with
    | none => exact absurd hl (hmem L b hb)
    | some o => simp
  have hPD : Priv D' (addrs L) := hP.anti fun b hb _ => hpriv b hb
  have e1 : D'.join ((ov A L).minus A) = ov D' L := by
    funext b
    show (match D' b with | some o => some o | none => (ov A L).minus A b) = _
    rw [ov_get]
    unfold View.minus
    cases hD : D' b with
    | some o => simp only [lkL_addrs (hPD.notin hD)]
    | none =>
      simp only
      cases hA : A b with
      | some o => simp only [lkL_addrs (hP.notin hA)]
      | none =>
        simp only
        rw [ov_get, hA]
  rw [e1]
  exact k v D' hR hPD
theorem call_same {P : Program} {f : FuncId} {args : Array Value} {A : View} {L : List (Nat × Obj)} {R : Value → Prop} {K : Value → View → Prop} (hP : Priv A (addrs L)) (h : VCalls P f args A fun v A' => R v ∧ A' = A)
    (k : ∀ v, R v → K v (ov A L)) : VCalls P f args (ov A L) K :=
  call_ov hP h fun v A' hv _ => by rw [hv.2]; exact k v hv.1
/-- Blocks that are not of use any more sink into what lies beneath. -/
theorem sink {A : View} {b : Nat} {o : Obj} {L : List (Nat × Obj)} (hP : Priv A (addrs L)) (hl : lkL b L = some o) : ov A L = ov (A.set b o) (delL b L) ∧ Priv (A.set b o) (addrs (delL b L)) ∧ A b = none := by
  induction L with
  | nil => cases hl
  | cons p L ih =>
    obtain ⟨c, o'⟩ := p
    simp only [lkL] at hl
    simp only [delL]
    by_cases h : b = c
    · subst h
      rw [if_pos rfl] at hl ⊢
      obtain rfl : o' = o := by simpa using hl
      refine ⟨?_, hP.2.2.anti fun d hd h => ?_, hP.1⟩
      · funext d
        show (ov A L).set b o' d = _
        rw [ov_get]
        by_cases hd : d = b
        · subst hd; rw [set_at, lkL_addrs hP.2.1, set_at]
        · rw [set_other hd, set_other hd, ov_get]
      · rw [set_other (fun hx => hP.2.1 (by rw [← hx]; exact hd))]; exact h
    · rw [if_neg h] at hl ⊢
      obtain ⟨h1, h2, h3⟩ := ih hP.2.2 hl
      have hmem : ∀ (L : List (Nat × Obj)) (d : Nat), d ∈ addrs (delL b L) → d ∈ addrs L := by
        intro L
        induction L with
        | nil => intro d h; exact h
        | cons q L ih =>
          obtain ⟨x, y⟩ := q
          intro d hd
          simp only [delL] at hd
          split at hd
          · exact List.mem_cons_of_mem _ hd
          · rcases List.mem_cons.1 hd with hd | hd
            · subst hd; exact List.mem_cons_self
            · exact List.mem_cons_of_mem _ (ih d hd)
      refine ⟨?_, ⟨?_, fun hx => hP.2.1 (hmem L c hx), h2⟩, h3⟩
      · simp only [ov]
        rw [h1]
      · rw [set_other (Ne.symm h)]; exact hP.1
/-- A call that is handed the place of a block of one's own. -/
theorem call_with {P : Program} {f : FuncId} {args : Array Value} {A : View} {b : Nat} {o : Obj} {L : List (Nat × Obj)} {R : Value → View → Prop} {K : Value → View → Prop} (hP : Priv A (addrs L)) (hl : lkL b L = some o)
    (h : VCalls P f args (A.set b o) R) (k : ∀ v A', R v A' → Priv A' (addrs (delL b L)) → K v (ov A' (delL b L))) : VCalls P f args (ov A L) K := by
  obtain ⟨h1, h2, h3⟩ := sink hP hl
  rw [h1]
  exact call_ov h2 h k
theorem Priv.notAddr {A : View} {b : Nat} {o : Obj} : ∀ {L : List (Nat × Obj)} {i : Nat}, Priv A (addrs L) → L[i]? = some (b, o) → lkL b L = some o ∧ delL b L = L.eraseIdx i
  | [], _, _, h => by simp at h
  | (c, o') :: L, 0, hP, h => by
    simp only [List.getElem?_cons_zero, Option.some.injEq, Prod.mk.injEq] at h
    obtain ⟨rfl, rfl⟩ := h
    simp [lkL, delL]
  | (c, o') :: L, i + 1, hP, h => by
    rw [List.getElem?_cons_succ] at h
    obtain ⟨h1, h2⟩ := Priv.notAddr hP.2.2 h
    have hne : b ≠ c := fun hx => by
      subst hx
      rw [lkL_addrs hP.2.1] at h1
      cases h1
    simp only [lkL, delL, if_neg hne, List.eraseIdx_cons_succ]
    exact ⟨h1, by rw [h2]⟩
theorem sinkI {A : View} {b : Nat} {o : Obj} {L : List (Nat × Obj)} (i : Nat) (hP : Priv A (addrs L)) (hl : L[i]? = some (b, o)) : ov A L = ov (A.set b o) (L.eraseIdx i) ∧ Priv (A.set b o) (addrs (L.eraseIdx i)) ∧ A b = none := by
  obtain ⟨h1, h2⟩ := hP.notAddr hl
  rw [← h2]
  exact sink hP h1
theorem sink_goal {A : View} {b : Nat} {o : Obj} {L : List (Nat × Obj)} {Q : View → Prop} (i : Nat) (hP : Priv A (addrs L)) (hl : L[i]? = some (b, o))
    (k : Priv (A.set b o) (addrs (L.eraseIdx i)) → A ≤ A.set b o → A b = none → Q (ov (A.set b o) (L.eraseIdx i))) : Q (ov A L) := by
  obtain ⟨h1, h2, h3⟩ := sinkI i hP hl
  rw [h1]
  exact k h2 (le_set h3) h3
theorem call_withI {P : Program} {f : FuncId} {args : Array Value} {A : View} {b : Nat} {o : Obj} {L : List (Nat × Obj)} {R : Value → View → Prop} {K : Value → View → Prop} (i : Nat) (hP : Priv A (addrs L)) (hl : L[i]? = some (b, o))
    (h : VCalls P f args (A.set b o) R) (k : ∀ v A', R v A' → Priv A' (addrs (L.eraseIdx i)) → K v (ov A' (L.eraseIdx i))) : VCalls P f args (ov A L) K := by
  obtain ⟨h1, h2⟩ := hP.notAddr hl
  rw [← h2] at k
  exact call_with hP h1 h k
/-- A block beneath is one's own again. -/
theorem lift {A : View} {b : Nat} {o : Obj} {L : List (Nat × Obj)} (hP : Priv A (addrs L)) (h : A b = some o) : ov A L = ov (A.erase b) ((b, o) :: L) ∧ Priv (A.erase b) (b :: addrs L) := by
  refine ⟨?_, if_pos rfl, hP.notin h, hP.anti fun d _ h => ?_⟩
  · funext d
    simp only [ov]
    rw [ov_get]
    by_cases hd : d = b
    · subst hd; rw [set_at, lkL_addrs (hP.notin h)]; exact h
    · rw [set_other hd, ov_get]
      unfold View.erase
      rw [if_neg hd]
  · unfold View.erase
    split
    · rfl
    · exact h

theorem lkL_set {A : View} {m : Nat} {o o' : Obj} : ∀ {L : List (Nat × Obj)} {i : Nat}, Priv A (addrs L) → L[i]? = some (m, o) → (∀ b, lkL b (L.set i (m, o')) = if b = m then some o' else lkL b (L.eraseIdx i)) ∧ addrs (L.set i (m, o')) = addrs L
  | [], _, _, h => by simp at h
  | (c, x) :: L, 0, hP, h => by
    simp only [List.getElem?_cons_zero, Option.some.injEq, Prod.mk.injEq] at h
    obtain ⟨rfl, rfl⟩ := h
    refine ⟨fun b => ?_, rfl⟩
    simp only [List.set_cons_zero, List.eraseIdx_cons_zero, lkL]
  | (c, x) :: L, i + 1, hP, h => by
    rw [List.getElem?_cons_succ] at h
    obtain ⟨h1, h2⟩ := lkL_set (o' := o') hP.2.2 h
    have hne : m ≠ c := fun hx => by
      subst hx
      have := (Priv.notAddr hP.2.2 h).1
      rw [lkL_addrs hP.2.1] at this
      cases this
    refine ⟨fun b => ?_, ?_⟩
    · simp only [List.set_cons_succ, List.eraseIdx_cons_succ, lkL, h1]
      by_cases hb : b = c
      · rw [if_pos hb, if_pos hb, if_neg (fun hx => hne (hx.symm.trans hb))]
      · rw [if_neg hb, if_neg hb]
    · simp only [List.set_cons_succ, addrs, h2]
/-- A call that is handed the place of a block of one's own, and leaves another one there; at less than what lies beneath. -/
theorem call_ctr {P : Program} {f : FuncId} {args : Array Value} {D0 D : View} {m : Nat} {o : Obj} {L : List (Nat × Obj)} {R : Value → View → Prop} {R' : Value → View → Obj → Prop} {K : Value → View → Prop} (i : Nat) (hP : Priv D (addrs L)) (hl : L[i]? = some (m, o)) (hD : D0 ≤ D)
    (h : VCalls P f args (D0.set m o) R) (hR : ∀ v E, R v E → ∃ D1 o', E = D1.set m o' ∧ D1 m = none ∧ D0 ≤ D1 ∧ R' v D1 o')
    (k : ∀ v D1 o' D', R' v D1 o' → D0 ≤ D1 → D1 ≤ D' → Keep D0 D D1 D' → D ≤ D' → Priv D' (addrs (L.set i (m, o'))) → K v (ov D' (L.set i (m, o')))) : VCalls P f args (ov D L) K := by
  obtain ⟨h1, h2, h3⟩ := sinkI i hP hl
  rw [h1]
  refine call_sub h2 (set_le hD m o) h ?_
  intro v E A' hv hEA hK hmono hPA
  obtain ⟨D1, o', rfl, hm, hDD, hR'⟩ := hR v E hv
  have hAm : A' m = some o' := hEA _ _ (set_at _ _ _)
  obtain ⟨g1, g2⟩ := lkL_set (o' := o') hP hl
  have hmne : ∀ b, b ∈ addrs (L.eraseIdx i) → b ≠ m := fun b hb hx => by
    have := hPA.no hb
    rw [hx, hAm] at this
    cases this
  have e1 : ov A' (L.eraseIdx i) = ov (A'.erase m) (L.set i (m, o')) := by
    funext b
    rw [ov_get, ov_get, g1]
    by_cases hb : b = m
    · subst hb
      rw [if_pos rfl, lkL_addrs (fun hx => hmne _ hx rfl)]
      exact hAm
    · rw [if_neg hb]
      unfold View.erase
      cases lkL b (L.eraseIdx i) with
      | some x => rfl
      | none => exact (if_neg hb).symm
  rw [e1]
  have hDm : D m = none := h3
  have hle : D.set m o ≤ A' ∨ True := .inr trivial
  have hD1A : D1 ≤ A'.erase m := fun b x hb => by
    have hbm : b ≠ m := fun hx => by rw [hx, hm] at hb; cases hb
    unfold View.erase
    rw [if_neg hbm]
    exact hEA _ _ (by rw [set_other hbm]; exact hb)
  have hKeep : Keep D0 D D1 (A'.erase m) := fun b x hb hx => by
    have hbm : b ≠ m := fun hy => by rw [hy, hDm] at hx; cases hx
    obtain ⟨k1, k2⟩ := hK b x (by rw [set_other hbm]; exact hb) (by rw [set_other hbm]; exact hx)
    rw [set_other hbm] at k1
    refine ⟨k1, ?_⟩
    unfold View.erase
    rw [if_neg hbm]
    exact k2
  refine k v D1 o' (A'.erase m) hR' hDD hD1A hKeep (fun b x hb => ?_) ?_
  · cases hb0 : D0 b with
    | none => exact (hKeep b x hb0 hb).2
    | some y =>
      have := hD _ _ hb0
      rw [hb, Option.some.injEq] at this
      subst this
      exact hD1A _ _ (hDD _ _ hb0)
  · rw [g2]
    refine hP.anti fun b hb hn => ?_
    unfold View.erase
    split
    · rfl
    · rename_i hbm
      have : b ∈ addrs (L.eraseIdx i) := by
        have hmem : ∀ (L : List (Nat × Obj)) (i : Nat), L[i]? = some (m, o) → b ∈ addrs L → b ∈ addrs (L.eraseIdx i) := by
          intro L
          induction L with
          | nil => intro i h _; simp at h
          | cons p L ih =>
            obtain ⟨c, x⟩ := p
            intro i h hb
            cases i with
            | zero =>
              simp only [List.getElem?_cons_zero, Option.some.injEq, Prod.mk.injEq] at h
              rcases List.mem_cons.1 hb with hb | hb
              · exact absurd (hb.trans h.1) hbm
              · exact hb
            | succ i =>
              rw [List.getElem?_cons_succ] at h
              rcases List.mem_cons.1 hb with hb | hb
              · rw [List.eraseIdx_cons_succ]; exact List.mem_cons.2 (.inl hb)
              · rw [List.eraseIdx_cons_succ]; exact List.mem_cons.2 (.inr (ih i h hb))
        exact hmem L i hl hb
      exact hPA.no this

/-! ## Slices that grow, over own blocks -/
theorem own_ov {A0 A : View} {L : List (Nat × Obj)} (hP : Priv A (addrs L)) {e : TypeId} {size n : Nat} {v : Value} {cs : List Value} (h : Own A0 A e size v n cs) : Own A0 (ov A L) e size v n cs := h.le (le_ov hP)
theorem append_ov {P : Program} {t u e : TypeId} {b1 b2 : Nat} {z1 : Option Value} {tu : TI} {ek : TK} {size bytes : Nat} {z : Value} {A0 A : View} {L : List (Nat × Obj)} {s x : Value} {n m : Nat} {old cs : List Value} {K : Value → View → Prop}
    (hP : Priv A (addrs L)) (ht : tinfo P t = some ⟨.slice e, b1, b2, z1⟩) (hu : tinfo P u = some tu) (hk : ∀ k, tu.k ≠ .int k) (he : tinfo P e = some ⟨ek, size, bytes, some z⟩) (hz : z.cells.size = size) (hpos : 0 < bytes)
    (hown : Own A0 A e size s n old) (hle : A0 ≤ A) (hx : appended P (ov A L) size x = some (cs, m)) (hstr : isStr x = true → size = 1) (hone : ∀ v ∈ cs, one v = true) (hb : (n + m) * bytes ≤ 140737488355328)
    (k : ∀ v' A', A0 ≤ A' → Own A0 A' e size v' (n + m) (old ++ cs) → eraseB A s ≤ eraseB A' v' → Priv A' (addrs L) → K v' (ov A' L)) : xappend P t u s x (ov A L) K := by
  have hs : ∃ base cap, s = .slice base n cap := by
    rcases hown.2 with ⟨h1, h2⟩ | ⟨a, cap, h1, _⟩
    · exact ⟨none, 0, by rw [h1, h2]⟩
    · exact ⟨_, _, h1⟩
  obtain ⟨base, cap, rfl⟩ := hs
  have hcl : cs.length = m * size := appended_length hx fun s hs => hstr (by rw [hs]; rfl)
  have hown' := own_ov hP hown
  have hob : ∀ a, base = some a → ∃ c, A a.block = some (.cells c e (0, 0)) := fun a ha => by
    subst ha
    obtain ⟨c, h3, _⟩ := sliceIn_block hown.1
    exact ⟨c, h3⟩
  have main : onS (sliceIn (ov A L) e size (.slice base n cap)) fun old => onS (appended P (ov A L) size x) fun cm =>
      ((n + cm.2) * bytes ≤ 140737488355328 ∧ 0 < bytes ∧ z.cells.size = size ∧ (isStr x = true → size = 1) ∧ (∀ v ∈ cm.1, one v = true)) ∧
      (if base = none ∧ n + cm.2 = 0 then K (.slice none 0 0) (ov A L) else grown (ov A L) e size base old cm.1 (n + cm.2) K) := by
    refine ⟨old, hown'.1, (cs, m), hx, ⟨hb, hpos, hz, hstr, hone⟩, ?_⟩
    split
    · rename_i h0
      obtain ⟨rfl, h0⟩ := h0
      have hn : n = 0 := by omega
      have hm : m = 0 := by omega
      subst hn hm
      have h1 : cs = [] := List.length_eq_zero_iff.1 (by rw [hcl]; simp)
      have h2 : old = [] := List.length_eq_zero_iff.1 (by rw [sliceIn_length hown.1]; simp)
      subst h1 h2
      exact k _ A hle (Own.nil _ _ _ _) (eraseB_le A (.slice none 0 cap)) hP
    · have hA0b : ∀ a, base = some a → A0 a.block = none := by
        rcases hown.2 with ⟨h2, _⟩ | ⟨a, cap', h2, h3⟩
        · intro a ha; rw [ha] at h2; cases h2
        · intro a' ha; rw [ha] at h2; simp only [Value.slice.injEq, Option.some.injEq] at h2; rw [h2.1]; exact h3
      have hol : old.length = n * size := sliceIn_length hown.1
      intro b off cp c hbn hcap hsz hget
      have eE : eraseO (ov A L) base = ov (eraseO A base) L := by
        cases base with
        | none => rfl
        | some a =>
          obtain ⟨c, hc⟩ := hob a rfl
          have hnl := hP.notin hc
          funext d
          simp only [eraseO, View.erase]
          rw [ov_get, ov_get]
          by_cases hd : d = a.block
          · subst hd
            rw [if_pos rfl, lkL_addrs hnl]
            exact (if_pos rfl).symm
          · rw [if_neg hd]
            cases lkL d L with
            | some o => rfl
            | none => exact (if_neg hd).symm
      rw [eE] at hbn ⊢
      obtain ⟨hbn1, hbn2⟩ := ov_none hbn
      have hle1 : A0 ≤ eraseO A base := by
        cases base with
        | none => exact hle
        | some a => exact le_erase hle (hA0b a rfl)
      have hA0n : A0 b = none := none_le hle1 hbn1
      have hPe : Priv (eraseO A base) (addrs L) := hP.anti fun d _ h => none_le (eraseO_le A base) h
      have e2 : (ov (eraseO A base) L).set b (.cells c e (0, 0)) = ov ((eraseO A base).set b (.cells c e (0, 0))) L := by
        funext d
        rw [ov_get]
        by_cases hd : d = b
        · subst hd; rw [set_at, lkL_addrs hbn2, set_at]
        · rw [set_other hd, set_other hd, ov_get]
      rw [e2]
      refine k _ _ (le_set' hle1 hA0n) ⟨?_, .inr ⟨_, _, rfl, hA0n⟩⟩ (fun b' o hbo => ?_) (hPe.anti fun d hd h => by rw [set_other (fun hx => hbn2 (by rw [← hx]; exact hd))]; exact h)
      · simp only [sliceIn, set_at]
        rw [if_pos ⟨trivial, trivial, hcap, hsz⟩]
        have hmul : (n + m) * size = (old ++ cs).length := by rw [List.length_append, hol, hcl, Nat.add_mul]
        rw [hmul]
        refine cells?_intro _ _ _ rfl fun j hj => ?_
        unfold View.cell?
        rw [add_block, set_at]
        simp only [add_spot (⟨b, off, none⟩ : Addr) (0 + j) rfl, Option.isSome_none, Bool.false_eq_true, if_false]
        rw [add_off, Nat.zero_add]
        exact hget j hj
      · have hb1 : (eraseO A base) b' = some o := by
          cases base with
          | none => exact hbo
          | some a => exact hbo
        have hne : b' ≠ b := fun hx => by rw [hx, hbn1] at hb1; cases hb1
        simp only [eraseB, View.erase, if_neg hne]
        rw [set_other hne]
        exact hb1
  unfold xappend
  rw [ht, hu]
  simp only [he]
  cases hkk : tu.k <;> first | exact absurd hkk (hk _) | exact main

/-! ## Less may be known -/
theorem vcode_weak {P : Program} {n : Nat} {c : Code} {Q : Exit → VQ} {e : Env} {ds : List Deferred} {A B : View} (h : VCode P n c Q e ds B) (hle : B ≤ A) : VCode P n c Q e ds A := by
  intro w hw
  refine wp_mono (h w (hw.mono hle)) ?_
  rintro ex a w' ⟨e', ds', rfl, A', hq, hh, hk⟩
  refine ⟨e', ds', rfl, A', hq, hh, hk.os, hk.tape, hk.output, hk.size, fun b hb hn => hk.old b hb (none_le hle hn), fun b hb => ?_⟩
  rcases hk.new b hb with h1 | h1
  · refine .inl fun hx => h1 (none_le hle hx)
  · exact .inr h1
/-- The statement that stands alone. -/
theorem xc_reg1 {P : Program} {n id : Nat} {ops : Array Oper} {K : Exit → VQ} {e : Env} {ds : List Deferred} {A : View} (m : Nat) (hm : ops.size = m)
    (h : ∀ K' : VQ, (∀ e ds A, K .normal e ds A → K' e ds A) → seqX P n K' (rslv ops ((List.range m).map (·, true))) e ds A) : xc P n (Code.region id ops false) K e ds A := by
  have h1 := h _ fun _ _ _ h => h
  rw [seqX_eq ops.toList _ 0 (fun j => by simp) (by simp [hm, List.range_eq_range', Function.comp_def])] at h1
  simpa [xc] using h1
/-- Two statements, the second one behind a name. -/
theorem xc_two {P : Program} {n : Nat} {x y : Code} {K : Exit → VQ} {e : Env} {ds : List Deferred} {A : View} (h : ∀ N : VQ, (∀ e ds A, xc P n y K e ds A → N e ds A) → xc P n x (thenQ N K) e ds A) : xc P n (.seq x y) K e ds A :=
  h _ fun _ _ _ h => h
theorem seqR_hide {P : Program} {n : Nat} {S A : View} {Q : VQ} {r : RO1} {l : List RO1} {e : Env} {ds : List Deferred} (h : ∀ R : VQ, (∀ e ds A, seqR P n S Q l e ds A → R e ds A) → gif (wantR n e r.g) (stepK P n S r.need r.o R e ds A) (R (putE e r.o.dst undef) ds A)) : seqR P n S Q (r :: l) e ds A :=
  h _ fun _ _ _ h => h
theorem seqX_hide2 {P : Program} {n : Nat} {A : View} {Q : VQ} {r : RO1} {l : List RO1} {e : Env} {ds : List Deferred} (h : ∀ R : VQ, (∀ e ds A, seqX P n Q l e ds A → R e ds A) → gif (wantR n e r.g) (xop P n r.o R e ds A) (R (putE e r.o.dst undef) ds A)) : seqX P n Q (r :: l) e ds A :=
  h _ fun _ _ _ h => h
theorem ov_mono {D A : View} {L : List (Nat × Obj)} (h : D ≤ A) : ov D L ≤ ov A L := by
  induction L with
  | nil => exact h
  | cons p L ih => exact set_le ih _ _
theorem fill_list : ∀ (l : List Value) (Z : Array Value) (k : Nat), k + l.length ≤ Z.size → (l.zipIdx k).foldl (fun cs (x : Value × Nat) => cs.setIfInBounds x.snd x.fst) Z = splice Z k l
  | [], _, _, _ => rfl
  | v :: l, Z, k, h => by
    simp only [List.zipIdx_cons, List.foldl_cons, splice]
    exact fill_list l _ (k + 1) (by simp at h ⊢; omega)
@[go_sem] theorem fold_fill (Z c : Array Value) (n : Nat) (h : c.size = n) (hz : Z.size = n) : Array.foldl (fun (cs : Array Value) (x : Value × Nat) => cs.setIfInBounds x.snd x.fst) Z c.zipIdx 0 n = c := by
  subst h
  rw [show c.size = c.zipIdx.size by simp, ← Array.foldl_toList]
  rw [Array.toList_zipIdx, fill_list _ _ _ (by simp [hz])]
  exact splice_all hz
theorem push_le {A S : View} {b : Nat} {o : Obj} {L : List (Nat × Obj)} (hP : Priv A (b :: addrs L)) (h : S ≤ ov A L) : S ≤ ov A ((b, o) :: L) :=
  le_set' h (none_le h (by rw [ov_get, lkL_addrs hP.2.1]; exact hP.1))
theorem Priv.sub {A B : View} {l : List Nat} (hP : Priv A l) (h : B ≤ A) : Priv B l := hP.anti fun _ _ h1 => none_le h h1
attribute [go_sem] xfieldAt vload xlen xnil xbin eqPlain xunop xindexAt xslice xnew zeroOf Value.cells Instr.fill zerosB xbuild xassert xmkIface wantR undef gval xmin xmax stX ones_lit one
end Go.Proofs.YtpinamipjddobaaV

/- Shell patterns: what they stand for, and how Go's filepath.Match finds it. -/
namespace Go.Proofs.YthjbgpmcfcijgaaDoorV
set_option linter.unusedSimpArgs false
set_option linter.unusedVariables false
namespace Pm
/-- An item of a pattern. -/
inductive It where
  | star
  | any
  | cls (not : Bool) (rs : List (Nat × Nat))
  | chr (c : Nat)
def takes : It → Nat → Bool
  | .star, _ => false
  | .any, c => c != 47
  | .cls n rs, c => (rs.any fun r => decide (r.1 ≤ c) && decide (c ≤ r.2)) != n
  | .chr x, c => c == x
/-- A character in a class. -/
def chr1 (l : List Nat) : Option (Nat × List Nat) := match l with
  | [] => none
  | c :: r => if c = 45 ∨ c = 93 then none else if c = 92 then (match r with
      | d :: e :: r' => some (d, e :: r')
      | _ => none) else (match r with
      | e :: r' => some (c, e :: r')
      | [] => none)
theorem chr1_len {l : List Nat} {c : Nat} {r : List Nat} (h : chr1 l = some (c, r)) : r.length < l.length ∧ r ≠ [] := by
  unfold chr1 at h
  split at h
  · cases h
  · split at h
    · cases h
    · split at h
      · split at h
        · simp only [Option.some.injEq, Prod.mk.injEq] at h; obtain ⟨-, rfl⟩ := h; simp
        · cases h
      · split at h
        · simp only [Option.some.injEq, Prod.mk.injEq] at h; obtain ⟨-, rfl⟩ := h; simp
        · cases h
/-- A range in a class. -/
def rng (l : List Nat) : Option ((Nat × Nat) × List Nat) := match chr1 l with
  | none => none
  | some (lo, r) => match r with
    | 45 :: r' => (match chr1 r' with
      | none => none
      | some (hi, r'') => some ((lo, hi), r''))
    | _ => some ((lo, lo), r)
theorem rng_len {l : List Nat} {x : Nat × Nat} {r : List Nat} (h : rng l = some (x, r)) : r.length < l.length ∧ r ≠ [] := by
  unfold rng at h
  split at h
  · cases h
  · rename_i lo r0 h0
    have h1 := chr1_len h0
    split at h
    · rename_i r' 
      split at h
      · cases h
      · rename_i hi r'' h2
        have h3 := chr1_len h2
        simp only [Option.some.injEq, Prod.mk.injEq] at h
        obtain ⟨-, rfl⟩ := h
        simp only [List.length_cons] at h1
        exact ⟨by omega, h3.2⟩
    · simp only [Option.some.injEq, Prod.mk.injEq] at h
      obtain ⟨-, rfl⟩ := h
      exact h1
/-- The ranges of a class, and what is behind its end. -/
def clsGo (l : List Nat) (rs : List (Nat × Nat)) : Option (List (Nat × Nat) × List Nat) := match l with
  | [] => none
  | c :: r => if c = 93 ∧ rs ≠ [] then some (rs, r) else match h : rng (c :: r) with
    | none => none
    | some (x, r') => clsGo r' (rs ++ [x])
termination_by l.length
decreasing_by exact (rng_len h).1
def cls1 (l : List Nat) : Option (It × List Nat) := match l with
  | 94 :: r => (clsGo r []).map fun p => (.cls true p.1, p.2)
  | _ => (clsGo l []).map fun p => (.cls false p.1, p.2)
theorem clsGo_len : ∀ (l : List Nat) (rs : List (Nat × Nat)) {q : List (Nat × Nat)} {r : List Nat}, clsGo l rs = some (q, r) → r.length < l.length := by
  intro l
  induction hn : l.length using Nat.strongRecOn generalizing l with
  | _ n ih =>
  intro rs q r h
  subst hn
  cases l with
  | nil => unfold clsGo at h; cases h
  | cons c t =>
    rw [clsGo] at h
    split at h
    · simp only [Option.some.injEq, Prod.mk.injEq] at h
      obtain ⟨-, rfl⟩ := h
      simp
    · split at h
      · cases h
      · rename_i x r' hr
        have h1 := (rng_len hr).1
        have := ih _ h1 r' rfl _ h
        omega
theorem cls1_len {l : List Nat} {x : It} {r : List Nat} (h : cls1 l = some (x, r)) : r.length < l.length := by
  unfold cls1 at h
  split at h
  · rename_i r0
    obtain ⟨p, h1, h2⟩ := Option.map_eq_some_iff.1 h
    simp only [Prod.mk.injEq] at h2
    have := clsGo_len _ _ (q := p.1) (r := p.2) h1
    rw [h2.2] at this
    simp only [List.length_cons]; omega
  · obtain ⟨p, h1, h2⟩ := Option.map_eq_some_iff.1 h
    simp only [Prod.mk.injEq] at h2
    have := clsGo_len _ _ (q := p.1) (r := p.2) h1
    rw [h2.2] at this
    exact this
/-- The items of a pattern; st: a star is one. -/
def pat (st : Bool) (l : List Nat) : Option (List It) := match l with
  | [] => some []
  | c :: r =>
    if c = 42 ∧ st = true then (pat st r).map (.star :: ·)
    else if c = 63 then (pat st r).map (.any :: ·)
    else if c = 91 then (match h : cls1 r with
      | none => none
      | some (x, r') => (pat st r').map (x :: ·))
    else if c = 92 then (match r with
      | [] => none
      | d :: r' => (pat st r').map (.chr d :: ·))
    else (pat st r).map (.chr c :: ·)
termination_by l.length
decreasing_by
  all_goals first
    | (simp only [List.length_cons]; omega)
    | (have := cls1_len h; simp only [List.length_cons]; omega)
/-- The first piece of a pattern up to a star outside of a class, and what is behind it. -/
def scan (inr : Bool) (l : List Nat) : List Nat × List Nat := match l with
  | [] => ([], [])
  | c :: r =>
    if c = 92 then (match r with
      | [] => ([c], [])
      | d :: r' => (c :: d :: (scan inr r').1, (scan inr r').2))
    else if c = 91 then (c :: (scan true r).1, (scan true r).2)
    else if c = 93 then (c :: (scan false r).1, (scan false r).2)
    else if c = 42 ∧ inr = false then ([], c :: r)
    else (c :: (scan inr r).1, (scan inr r).2)
termination_by l.length
theorem scan_nil (i : Bool) : scan i [] = ([], []) := by rw [scan.eq_def]
theorem scan_cons (i : Bool) (c : Nat) (r : List Nat) : scan i (c :: r) =
    if c = 92 then (match r with
      | [] => ([c], [])
      | d :: r' => (c :: d :: (scan i r').1, (scan i r').2))
    else if c = 91 then (c :: (scan true r).1, (scan true r).2)
    else if c = 93 then (c :: (scan false r).1, (scan false r).2)
    else if c = 42 ∧ i = false then ([], c :: r)
    else (c :: (scan i r).1, (scan i r).2) := by rw [scan.eq_def]
theorem scan_append : ∀ (l : List Nat) (i : Bool), (scan i l).1 ++ (scan i l).2 = l := by
  intro l
  induction hn : l.length using Nat.strongRecOn generalizing l with
  | _ n ih =>
  intro i
  subst hn
  cases l with
  | nil => simp [scan_nil]
  | cons c r =>
    rw [scan_cons]
    split
    · cases r with
      | nil => rfl
      | cons d r' => simp only [List.cons_append]; rw [ih _ (by simp; omega) r' rfl i]
    · split
      · simp only [List.cons_append]; rw [ih _ (by simp) r rfl true]
      · split
        · simp only [List.cons_append]; rw [ih _ (by simp) r rfl false]
        · split
          · rfl
          · simp only [List.cons_append]; rw [ih _ (by simp) r rfl i]
theorem chr1_more {l t : List Nat} {c : Nat} {r : List Nat} (h : chr1 l = some (c, r)) : chr1 (l ++ t) = some (c, r ++ t) := by
  unfold chr1 at h
  split at h
  · cases h
  · rename_i a b
    split at h
    · cases h
    · rename_i hn
      simp only [List.cons_append]
      unfold chr1
      simp only
      rw [if_neg hn]
      split at h
      · rename_i h92
        rw [if_pos h92]
        split at h
        · simp only [Option.some.injEq, Prod.mk.injEq] at h; obtain ⟨rfl, rfl⟩ := h; simp
        · cases h
      · rename_i h92
        rw [if_neg h92]
        split at h
        · simp only [Option.some.injEq, Prod.mk.injEq] at h; obtain ⟨rfl, rfl⟩ := h; simp
        · cases h
theorem rng_more {l t : List Nat} {x : Nat × Nat} {r : List Nat} (h : rng l = some (x, r)) : rng (l ++ t) = some (x, r ++ t) := by
  unfold rng at h ⊢
  split at h
  · cases h
  · rename_i lo r0 h0
    rw [chr1_more h0]
    have hr0 := (chr1_len h0).2
    simp only
    split at h
    · rename_i r'
      simp only [List.cons_append]
      split at h
      · cases h
      · rename_i hi r'' h2
        rw [chr1_more h2]
        simp only [Option.some.injEq, Prod.mk.injEq] at h ⊢
        exact ⟨h.1, by rw [h.2]⟩
    · rename_i hno
      simp only [Option.some.injEq, Prod.mk.injEq] at h
      obtain ⟨rfl, rfl⟩ := h
      cases r0 with
      | nil => exact absurd rfl hr0
      | cons a b =>
        simp only [List.cons_append]
        split
        · rename_i r' he
          simp only [List.cons.injEq] at he
          exact absurd (by rw [he.1]) (hno b)
        · rfl
/-- What scan does within a class, as far as a range goes. -/
theorem scan_lit {c : Nat} {i : Bool} {r : List Nat} (h : c ≠ 92 ∧ c ≠ 93 ∧ (c ≠ 42 ∨ i = true) ∧ (c ≠ 91 ∨ i = true)) : scan i (c :: r) = (c :: (scan i r).1, (scan i r).2) := by
  obtain ⟨h1, h2, h3, h4⟩ := h
  rw [scan_cons, if_neg h1]
  by_cases h : c = 91
  · subst h
    have : i = true := h4.resolve_left (fun h => h rfl)
    subst this; rw [if_pos rfl]
  · rw [if_neg h, if_neg h2]
    rw [if_neg]
    rintro ⟨h, h'⟩
    rcases h3 with h3 | h3
    · exact h3 h
    · rw [h'] at h3; cases h3
theorem scan_esc {d : Nat} {i : Bool} {r : List Nat} : scan i (92 :: d :: r) = (92 :: d :: (scan i r).1, (scan i r).2) := by
  rw [scan_cons, if_pos rfl]
def pre (p : List Nat) (s : List Nat × List Nat) : List Nat × List Nat := (p ++ s.1, s.2)
theorem chr1_scan {l : List Nat} {c : Nat} {r : List Nat} (h : chr1 l = some (c, r)) : ∃ p, l = p ++ r ∧ p ≠ [] ∧ (∀ t, scan true (p ++ t) = pre p (scan true t)) ∧ ∀ e t, chr1 (p ++ e :: t) = some (c, e :: t) := by
  unfold chr1 at h
  split at h
  · cases h
  · rename_i a b
    split at h
    · cases h
    · rename_i hn
      split at h
      · rename_i h92
        subst h92
        split at h
        · rename_i d e r'
          simp only [Option.some.injEq, Prod.mk.injEq] at h
          obtain ⟨rfl, rfl⟩ := h
          exact ⟨[92, d], rfl, by simp, fun t => scan_esc, fun e t => by simp [chr1]⟩
        · cases h
      · rename_i h92
        split at h
        · rename_i e r'
          simp only [Option.some.injEq, Prod.mk.injEq] at h
          obtain ⟨rfl, rfl⟩ := h
          exact ⟨[a], rfl, by simp, fun t => scan_lit ⟨h92, fun h => hn (.inr h), .inr rfl, .inr rfl⟩, fun e t => by simp [chr1, hn, h92]⟩
        · cases h
theorem rng_scan {l : List Nat} {x : Nat × Nat} {r : List Nat} (h : rng l = some (x, r)) : ∃ p, l = p ++ r ∧ p ≠ [] ∧ (∀ t, scan true (p ++ t) = pre p (scan true t)) ∧ ∀ e t0 t, r = e :: t0 → rng (p ++ e :: t) = some (x, e :: t) := by
  unfold rng at h
  split at h
  · cases h
  · rename_i lo r0 h0
    obtain ⟨p, h1, h2, h3, h4⟩ := chr1_scan h0
    split at h
    · rename_i r'
      split at h
      · cases h
      · rename_i hi r'' h5
        obtain ⟨p', g1, g2, g3, g4⟩ := chr1_scan h5
        simp only [Option.some.injEq, Prod.mk.injEq] at h
        obtain ⟨rfl, rfl⟩ := h
        refine ⟨p ++ 45 :: p', by rw [h1, g1]; simp, by simp, fun t => ?_, fun e t0 t _ => ?_⟩
        · rw [List.append_assoc, h3, List.cons_append, scan_lit (by decide), g3]
          simp [pre]
        · unfold rng
          rw [List.append_assoc, List.cons_append, h4]
          simp only
          rw [g4]
    · rename_i hno
      simp only [Option.some.injEq, Prod.mk.injEq] at h
      obtain ⟨rfl, rfl⟩ := h
      refine ⟨p, h1, h2, h3, fun e t0 t he => ?_⟩
      unfold rng
      rw [h4]
      simp only
      split
      · rename_i r' hx
        simp only [List.cons.injEq] at hx
        rw [hx.1] at he
        exact absurd he (hno t0)
      · rfl
theorem rng_end {t : List Nat} : rng (93 :: t) = none := by
  unfold rng chr1; simp
theorem rng_head {l : List Nat} {x : Nat × Nat} {r : List Nat} (h : rng l = some (x, r)) : ∃ c t, l = c :: t ∧ c ≠ 93 := by
  cases l with
  | nil => unfold rng chr1 at h; cases h
  | cons c t =>
    refine ⟨c, t, rfl, fun hc => ?_⟩
    subst hc
    rw [rng_end] at h; cases h
theorem clsGo_step {l : List Nat} {rs : List (Nat × Nat)} {x : Nat × Nat} {r : List Nat} (h : rng l = some (x, r)) : clsGo l rs = clsGo r (rs ++ [x]) := by
  obtain ⟨c, t, rfl, hc⟩ := rng_head h
  rw [clsGo, if_neg (fun hx => hc hx.1)]
  split
  · rename_i h'; rw [h] at h'; cases h'
  · rename_i h'; rw [h] at h'; cases h'; rfl
theorem clsGo_scan : ∀ (l : List Nat) (rs : List (Nat × Nat)) {q : List (Nat × Nat)} {r : List Nat}, clsGo l rs = some (q, r) → ∃ p, l = p ++ r ∧ (∀ t, clsGo (p ++ t) rs = some (q, t)) ∧ ∀ t, scan true (p ++ t) = pre p (scan false t) := by
  intro l
  induction hn : l.length using Nat.strongRecOn generalizing l with
  | _ n ih =>
  intro rs q r h
  subst hn
  cases l with
  | nil => unfold clsGo at h; cases h
  | cons c t =>
    rw [clsGo] at h
    split at h
    · rename_i hc
      simp only [Option.some.injEq, Prod.mk.injEq] at h
      obtain ⟨rfl, rfl⟩ := h
      obtain ⟨rfl, hrs⟩ := hc
      refine ⟨[93], rfl, fun t => ?_, fun t => ?_⟩
      · rw [List.singleton_append, clsGo, if_pos ⟨rfl, hrs⟩]
      · rw [List.singleton_append, scan_cons]; simp [pre]
    · split at h
      · cases h
      · rename_i x r' hr
        obtain ⟨p, h1, h2, h3, h4⟩ := rng_scan hr
        obtain ⟨p', g1, g2, g3⟩ := ih _ (rng_len hr).1 r' rfl _ h
        subst g1
        refine ⟨p ++ p', by rw [h1]; simp, fun t' => ?_, fun t' => ?_⟩
        · have hr' : rng (p ++ p' ++ t') = some (x, p' ++ t') := by
            cases hp : p' with
            | nil =>
              subst hp
              have := g2 []
              rw [List.append_nil] at this
              unfold clsGo at this
              cases this
            | cons e p'' =>
              subst hp
              rw [List.append_assoc, List.cons_append]
              exact h4 e (p'' ++ r) (p'' ++ t') rfl
          rw [clsGo_step hr', g2]
        · rw [List.append_assoc, h3, g3]
          simp [pre]
theorem cls1_scan {l : List Nat} {x : It} {r : List Nat} (h : cls1 l = some (x, r)) : ∃ p, l = p ++ r ∧ (∀ t, cls1 (p ++ t) = some (x, t)) ∧ ∀ t, scan true (p ++ t) = pre p (scan false t) := by
  unfold cls1 at h
  split at h
  · rename_i r0
    obtain ⟨q, h1, h2⟩ := Option.map_eq_some_iff.1 h
    obtain ⟨q1, q2⟩ := q
    simp only [Prod.mk.injEq] at h2
    obtain ⟨rfl, rfl⟩ := h2
    obtain ⟨p, g1, g2, g3⟩ := clsGo_scan _ _ h1
    refine ⟨94 :: p, by rw [g1]; rfl, fun t => ?_, fun t => ?_⟩
    · rw [List.cons_append]; unfold cls1; simp only; rw [g2]; rfl
    · rw [List.cons_append, scan_lit (by decide), g3]; simp [pre]
  · rename_i hno
    obtain ⟨q, h1, h2⟩ := Option.map_eq_some_iff.1 h
    obtain ⟨q1, q2⟩ := q
    simp only [Prod.mk.injEq] at h2
    obtain ⟨rfl, rfl⟩ := h2
    obtain ⟨p, g1, g2, g3⟩ := clsGo_scan _ _ h1
    refine ⟨p, g1, fun t => ?_, g3⟩
    cases p with
    | nil =>
      have := g2 []
      simp only [List.nil_append] at this
      unfold clsGo at this
      cases this
    | cons c p' =>
      have hc : c ≠ 94 := fun hx => hno (p' ++ q2) (by rw [g1, hx]; rfl)
      rw [List.cons_append]
      unfold cls1
      split
      · rename_i r' he
        simp only [List.cons.injEq] at he
        exact absurd he.1 hc
      · rename_i hno'
        rw [← List.cons_append, g2]; rfl
theorem pat_nil (st : Bool) : pat st [] = some [] := by rw [pat.eq_def]
theorem pat_cons (st : Bool) (c : Nat) (r : List Nat) : pat st (c :: r) =
    if c = 42 ∧ st = true then (pat st r).map (.star :: ·)
    else if c = 63 then (pat st r).map (.any :: ·)
    else if c = 91 then (match cls1 r with
      | none => none
      | some (x, r') => (pat st r').map (x :: ·))
    else if c = 92 then (match r with
      | [] => none
      | d :: r' => (pat st r').map (.chr d :: ·))
    else (pat st r).map (.chr c :: ·) := by
  rw [pat.eq_def]
  simp only
  split
  · rfl
  · split
    · rfl
    · split
      · split
        · rename_i h; rw [h]
        · rename_i h; rw [h]
      · rfl
theorem pat_esc (st : Bool) (d : Nat) (r : List Nat) : pat st (92 :: d :: r) = (pat st r).map (.chr d :: ·) := by
  rw [pat_cons, if_neg (by simp), if_neg (by decide), if_neg (by decide), if_pos rfl]
theorem pat_esc0 (st : Bool) : pat st [92] = none := by
  rw [pat_cons, if_neg (by simp), if_neg (by decide), if_neg (by decide), if_pos rfl]
theorem pat_cls (st : Bool) (r : List Nat) : pat st (91 :: r) = (match cls1 r with
      | none => none
      | some (x, r') => (pat st r').map (x :: ·)) := by
  rw [pat_cons, if_neg (by simp), if_neg (by decide), if_pos rfl]
theorem pat_any (st : Bool) (r : List Nat) : pat st (63 :: r) = (pat st r).map (.any :: ·) := by
  rw [pat_cons, if_neg (by simp), if_pos rfl]
theorem pat_chr {st : Bool} {c : Nat} (r : List Nat) (h : ¬ (c = 42 ∧ st = true)) (h1 : c ≠ 63) (h2 : c ≠ 91) (h3 : c ≠ 92) : pat st (c :: r) = (pat st r).map (.chr c :: ·) := by
  rw [pat_cons, if_neg h, if_neg h1, if_neg h2, if_neg h3]
/-- A pattern is its first piece, and what is behind it. -/
theorem pat_scan : ∀ (l : List Nat), pat true l = (match pat false (scan false l).1 with
    | none => none
    | some a => (pat true (scan false l).2).map (a ++ ·)) := by
  intro l
  induction hn : l.length using Nat.strongRecOn generalizing l with
  | _ n ih =>
  subst hn
  have map2 : ∀ (x : It) (u : Option (List It)) (v : Option (List It)), (match u with | none => none | some a => v.map (a ++ ·)).map (x :: ·) = (match u.map (x :: ·) with | none => none | some a => v.map (a ++ ·)) := by
    intro x u v
    cases u with
    | none => rfl
    | some a => cases v <;> rfl
  cases l with
  | nil => simp [scan_nil, pat_nil]
  | cons c r =>
    by_cases h42 : c = 42
    · subst h42
      have hs : scan false (42 :: r) = ([], 42 :: r) := by rw [scan_cons]; simp
      rw [hs]
      simp only [pat_nil]
      cases pat true (42 :: r) <;> simp
    · by_cases h92 : c = 92
      · subst h92
        cases r with
        | nil =>
          have hs : scan false [92] = ([92], []) := by rw [scan_cons]; simp
          rw [hs, pat_esc0, pat_esc0]
        | cons d r' =>
          rw [scan_esc, pat_esc, pat_esc, ih _ (by simp only [List.length_cons]; omega) r' rfl, map2]
      · by_cases h91 : c = 91
        · subst h91
          have hs : scan false (91 :: r) = (91 :: (scan true r).1, (scan true r).2) := by rw [scan_cons]; simp
          rw [hs, pat_cls, pat_cls]
          cases hc : cls1 r with
          | some q =>
            obtain ⟨x, r'⟩ := q
            obtain ⟨p, h1, h2, h3⟩ := cls1_scan hc
            have hl := cls1_len hc
            rw [h1, h3]
            simp only [pre, h2]
            rw [ih _ (by simp only [List.length_cons]; omega) r' rfl, map2]
          | none =>
            cases hc2 : cls1 (scan true r).1 with
            | none => rfl
            | some q =>
              exfalso
              obtain ⟨x, r'⟩ := q
              obtain ⟨p, h1, h2, h3⟩ := cls1_scan hc2
              have := scan_append r true
              rw [h1, List.append_assoc] at this
              rw [← this, h2] at hc
              cases hc
        · have hs : scan false (c :: r) = (c :: (scan false r).1, (scan false r).2) := by
            rw [scan_cons, if_neg h92, if_neg h91]
            split
            · rfl
            · rw [if_neg (fun h => h42 h.1)]
          rw [hs]
          by_cases h63 : c = 63
          · subst h63
            rw [pat_any, pat_any, ih _ (by simp) r rfl, map2]
          · rw [pat_chr _ (fun h => h42 h.1) h63 h91 h92, pat_chr _ (fun h => h42 h.1) h63 h91 h92, ih _ (by simp) r rfl, map2]
end Pm
end Go.Proofs.YthjbgpmcfcijgaaDoorV

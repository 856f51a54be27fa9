/- The logic of views: maps with texts as keys, as functions: made, changed, asked, ranged over. -/
import Derived.Test.YtpinamipjddobaaV11
namespace Go.Proofs.YtpinamipjddobaaV
open Go.RowKit
set_option linter.unusedSimpArgs false
set_option linter.unusedVariables false
abbrev FV := ByteArray → Option Value
def FV.put (f : FV) (s : ByteArray) (v : Value) : FV := fun k => if k = s then some v else f k
def FV.del (f : FV) (s : ByteArray) : FV := fun k => if k = s then none else f k
def mKey : Value → ByteArray
  | .string s => s
  | _ => ⟨#[]⟩
def mEnt (e : MapEntry) : ByteArray × Value := (mKey e.key, e.val)
/-- A map known whole, as a function. -/
def MF (o : Obj) (f : FV) : Prop :=
  ∃ es c, o = .map es c ∧ strKeysB es.toList = true ∧ (es.toList.map mEnt).Pairwise (fun a b => a.1 ≠ b.1) ∧ es.toList.Pairwise (fun a b => a.born < b.born) ∧ (∀ e ∈ es.toList, e.born < c) ∧ ∀ k, lk k es.toList = f k
theorem MF.new : MF (.map #[] 0) (fun _ => none) := ⟨#[], 0, rfl, rfl, by simp, by simp, by simp, fun _ => rfl⟩
theorem MF.ext {o : Obj} {f g : FV} (h : MF o f) (e : ∀ k, f k = g k) : MF o g := by
  obtain ⟨es, c, h1, h2, h3, h4, h5, h6⟩ := h
  exact ⟨es, c, h1, h2, h3, h4, h5, fun k => (h6 k).trans (e k)⟩
theorem lk_keys {s : ByteArray} : ∀ (l : List MapEntry), strKeysB l = true → lk s l = none → ∀ p ∈ l.map mEnt, p.1 ≠ s
  | [], _, _, p, hp => by simp at hp
  | e :: es, hk, h, p, hp => by
    have hk2 : isStr e.key = true ∧ strKeysB es = true := by simpa [strKeysB] using hk
    cases hkk : e.key with
    | string s' =>
      simp only [lk, hkk] at h
      split at h
      · cases h
      · rename_i hne
        rcases List.mem_cons.1 hp with hp | hp
        · subst hp
          simp only [mEnt, hkk, mKey]
          exact fun hx => hne hx.symm
        · exact lk_keys es hk2.2 h p hp
    | _ => simp [isStr, hkk] at hk2
theorem lk_iff {s : ByteArray} {v : Value} : ∀ (l : List MapEntry), strKeysB l = true → (l.map mEnt).Pairwise (fun a b => a.1 ≠ b.1) → (lk s l = some v ↔ (s, v) ∈ l.map mEnt)
  | [], _, _ => by simp [lk]
  | e :: es, hk, hp => by
    have hk2 : isStr e.key = true ∧ strKeysB es = true := by simpa [strKeysB] using hk
    rw [List.map_cons, List.pairwise_cons] at hp
    have ih := lk_iff (s := s) (v := v) es hk2.2 hp.2
    cases hkk : e.key with
    | string s' =>
      simp only [lk, hkk, List.map_cons, List.mem_cons]
      have he : mEnt e = (s', e.val) := by simp [mEnt, hkk, mKey]
      rw [he] at hp ⊢
      by_cases hs : s = s'
      · subst hs
        rw [if_pos rfl]
        constructor
        · intro h; simp only [Option.some.injEq] at h; exact .inl (by rw [h])
        · rintro (h | h)
          · simp only [Prod.mk.injEq, true_and] at h; rw [h]
          · exact absurd (show (s, e.val).1 = (s, v).1 from rfl) (hp.1 _ h)
      · rw [if_neg hs, ih]
        constructor
        · exact .inr
        · rintro (h | h)
          · simp only [Prod.mk.injEq] at h; exact absurd h.1 hs
          · exact h
    | _ => simp [isStr, hkk] at hk2
theorem sfind_at (s : ByteArray) (v : Value) : ∀ (l : List MapEntry) (k i : Nat) (u : Value), sfind s l k = some (i, u) → (l.modify (i - k) fun e => { e with key := .string s, val := v }).map (·.born) = l.map (·.born) ∧
      ((l.modify (i - k) fun e => { e with key := .string s, val := v }).map mEnt).map (·.1) = (l.map mEnt).map (·.1)
  | [], _, _, _, h => by cases h
  | e :: es, k, i, u, h => by
    unfold sfind at h
    split at h
    · rename_i s' hs'
      split at h
      · rename_i hss
        simp only [Option.some.injEq, Prod.mk.injEq] at h
        obtain ⟨rfl, _⟩ := h
        subst hss
        rw [Nat.sub_self]
        simp [List.modify_zero_cons, mEnt, hs', mKey]
      · have hle : k + 1 ≤ i := (sfind_key s es (k + 1) i u h).1
        have he : i - k = (i - (k + 1)) + 1 := by omega
        rw [he]
        obtain ⟨h1, h2⟩ := sfind_at s v es (k + 1) i u h
        simp only [List.modify_succ_cons, List.map_cons, h1, h2, and_self]
    · cases h
theorem pw_map {α β : Type} (g : α → β) (R : β → β → Prop) {l l' : List α} (h : l.map g = l'.map g) (hp : l'.Pairwise fun a b => R (g a) (g b)) : l.Pairwise fun a b => R (g a) (g b) := by
  rw [← List.pairwise_map] at hp ⊢
  rw [h]; exact hp
theorem MF.put_obj {o : Obj} {f : FV} (h : MF o f) (s : ByteArray) (v : Value) : ∃ es c, o = .map es c ∧ strKeysB es.toList = true ∧ MF (mset es c s v) (f.put s v) := by
  obtain ⟨es, c, h1, h2, h3, h4, h5, h6⟩ := h
  refine ⟨es, c, h1, h2, ?_⟩
  unfold mset
  cases hf : sfind s es.toList 0 with
  | none =>
    have hl : lk s es.toList = none := by rw [← sfind_lk s _ 0, hf]; rfl
    obtain ⟨g1, g2⟩ := lk_push s v c es.toList hl h2
    refine ⟨_, _, rfl, by rw [Array.toList_push]; exact g2, ?_, ?_, ?_, fun k => by rw [Array.toList_push]; rw [g1 k]; unfold FV.put; rw [h6]⟩
    · rw [Array.toList_push, List.map_append, List.pairwise_append]
      refine ⟨h3, by simp, fun a ha b hb => ?_⟩
      simp only [List.map_cons, List.map_nil, List.mem_singleton] at hb
      subst hb
      exact lk_keys es.toList h2 hl a ha
    · rw [Array.toList_push, List.pairwise_append]
      refine ⟨h4, by simp, fun a ha b hb => ?_⟩
      simp only [List.mem_singleton] at hb
      subst hb
      exact h5 a ha
    · intro e he
      rw [Array.toList_push, List.mem_append] at he
      rcases he with he | he
      · have := h5 e he; omega
      · simp only [List.mem_singleton] at he
        subst he
        exact Nat.lt_succ_self _
  | some p =>
    obtain ⟨i, u⟩ := p
    obtain ⟨g1, g2⟩ := lk_modify s v es.toList 0 i u hf h2
    obtain ⟨g3, g4⟩ := sfind_at s v es.toList 0 i u hf
    rw [Nat.sub_zero] at g1 g2 g3 g4
    refine ⟨_, _, rfl, by rw [Array.toList_modify]; exact g2, ?_, ?_, ?_, fun k => by rw [Array.toList_modify]; rw [g1 k]; unfold FV.put; rw [h6]⟩
    · rw [Array.toList_modify]
      exact pw_map (fun p : ByteArray × Value => p.1) (fun a b => a ≠ b) g4 h3
    · rw [Array.toList_modify]
      exact pw_map (fun e : MapEntry => e.born) (fun a b => a < b) g3 h4
    · intro e he
      rw [Array.toList_modify] at he
      have : e.born ∈ (es.toList.modify i fun e => { e with key := .string s, val := v }).map (·.born) := List.mem_map_of_mem he
      rw [g3] at this
      obtain ⟨e', he', hb⟩ := List.mem_map.1 this
      rw [← hb]
      exact h5 e' he'
theorem lk_erase (s : ByteArray) : ∀ (l : List MapEntry) (k i : Nat) (u : Value), sfind s l k = some (i, u) → strKeysB l = true → (l.map mEnt).Pairwise (fun a b => a.1 ≠ b.1) → ∀ key, lk key (l.eraseIdx (i - k)) = if key = s then none else lk key l
  | [], _, _, _, h, _, _ => by cases h
  | e :: es, k, i, u, h, hk, hp => by
    have hk2 : isStr e.key = true ∧ strKeysB es = true := by simpa [strKeysB] using hk
    rw [List.map_cons, List.pairwise_cons] at hp
    unfold sfind at h
    split at h
    · rename_i s' hs'
      split at h
      · rename_i hss
        simp only [Option.some.injEq, Prod.mk.injEq] at h
        obtain ⟨rfl, _⟩ := h
        subst hss
        rw [Nat.sub_self]
        intro key
        simp only [List.eraseIdx_cons_zero, lk, hs']
        by_cases hks : key = s
        · subst hks
          rw [if_pos rfl]
          cases hl : lk key es with
          | none => rfl
          | some v =>
            have := (lk_iff es hk2.2 hp.2).1 hl
            exact absurd (by simp [mEnt, hs', mKey]) (hp.1 _ this)
        · rw [if_neg hks, if_neg hks]
      · rename_i hss
        have hle : k + 1 ≤ i := (sfind_key s es (k + 1) i u h).1
        have he : i - k = (i - (k + 1)) + 1 := by omega
        rw [he]
        have ih := lk_erase s es (k + 1) i u h hk2.2 hp.2
        intro key
        simp only [List.eraseIdx_cons_succ, lk, hs', ih key]
        by_cases hks : key = s'
        · subst hks
          rw [if_pos rfl, if_neg (fun hx => hss hx.symm), if_pos rfl]
        · rw [if_neg hks, if_neg hks]
    · cases h
theorem MF.del_obj {o : Obj} {f : FV} (h : MF o f) (s : ByteArray) : ∃ es c, o = .map es c ∧ strKeysB es.toList = true ∧ MF (mdel es c s) (f.del s) := by
  obtain ⟨es, c, h1, h2, h3, h4, h5, h6⟩ := h
  refine ⟨es, c, h1, h2, ?_⟩
  unfold mdel
  cases hf : sfind s es.toList 0 with
  | none =>
    have hl : lk s es.toList = none := by rw [← sfind_lk s _ 0, hf]; rfl
    refine ⟨es, c, rfl, h2, h3, h4, h5, fun k => ?_⟩
    unfold FV.del
    by_cases hk : k = s
    · subst hk; rw [if_pos rfl, hl]
    · rw [if_neg hk, h6]
  | some p =>
    obtain ⟨i, u⟩ := p
    have g1 := lk_erase s es.toList 0 i u hf h2 h3
    rw [Nat.sub_zero] at g1
    have hsz : i < es.size := by
      obtain ⟨_, e, he, _⟩ := sfind_key s es.toList 0 i u hf
      have := (List.getElem?_eq_some_iff.1 he).1
      simpa using this
    have e1 : (es.eraseIdxIfInBounds i).toList = es.toList.eraseIdx i := by
      unfold Array.eraseIdxIfInBounds
      rw [dif_pos hsz]
      simp
    have hsub := List.eraseIdx_sublist es.toList i
    refine ⟨_, c, rfl, ?_, ?_, ?_, ?_, fun k => ?_⟩
    · rw [e1]
      unfold strKeysB at h2 ⊢
      rw [List.all_eq_true] at h2 ⊢
      exact fun e he => h2 e (hsub.subset he)
    · rw [e1]; exact h3.sublist (hsub.map mEnt)
    · rw [e1]; exact h4.sublist hsub
    · rw [e1]; exact fun e he => h5 e (hsub.subset he)
    · rw [e1, g1 k]; unfold FV.del; rw [h6]

/-! ## What operations do -/
theorem MF.lookup {P : Program} {t kt et : TypeId} {b1 b2 b3 b4 : Nat} {z1 z2 : Option Value} {A : View} {r : Nat} {o : Obj} {f : FV} {s : ByteArray} {z : Value} (hA : A r = some o) (h : MF o f) (ht : tinfo P t = some ⟨.map kt et, b1, b2, z1⟩)
    (hkt : tinfo P kt = some ⟨.string, b3, b4, z2⟩) (hz : zeroOf P et = some z) (ok : Bool) :
    xlookup P t (.map (some r)) (.string s) ok A = some (if ok then .tuple #[(f s).getD z, .bool (f s).isSome] else (f s).getD z) := by
  obtain ⟨es, c, h1, h2, h3, h4, h5, h6⟩ := h
  exact Map.lookup (f := f) ⟨es, c, by rw [hA, h1], h2, h6⟩ ht hkt hz ok
theorem mlk {P : Program} {t kt et : TypeId} {b1 b2 b3 b4 : Nat} {z1 z2 : Option Value} {A : View} {l : List Nat} {r : Nat} {o : Obj} {f : FV} {z : Value} (ht : tinfo P t = some ⟨.map kt et, b1, b2, z1⟩) (hkt : tinfo P kt = some ⟨.string, b3, b4, z2⟩) (hz : zeroOf P et = some z)
    (hP : Priv A l) (hA : A r = some o) (h : MF o f) : ∀ (L : List (Nat × Obj)) (s : ByteArray) (ok : Bool), addrs L = l → xlookup P t (.map (some r)) (.string s) ok (ov A L) = some (if ok then .tuple #[(f s).getD z, .bool (f s).isSome] else (f s).getD z) :=
  fun L s ok e => MF.lookup (ov_base (by rw [e]; exact hP) hA) h ht hkt hz ok
theorem mlkI {P : Program} {t kt et : TypeId} {b1 b2 b3 b4 : Nat} {z1 z2 : Option Value} {r : Nat} {o : Obj} {f : FV} {z : Value} (ht : tinfo P t = some ⟨.map kt et, b1, b2, z1⟩) (hkt : tinfo P kt = some ⟨.string, b3, b4, z2⟩) (hz : zeroOf P et = some z)
    (h : MF o f) : ∀ (A : View) (L : List (Nat × Obj)) (s : ByteArray) (ok : Bool), lkL r L = some o → xlookup P t (.map (some r)) (.string s) ok (ov A L) = some (if ok then .tuple #[(f s).getD z, .bool (f s).isSome] else (f s).getD z) :=
  fun A L s ok e => MF.lookup (by rw [ov_get, e]) h ht hkt hz ok
/-- A map that is one's own is changed. -/
theorem mapset_own {P : Program} {t : TypeId} {A : View} {L : List (Nat × Obj)} {r : Nat} {o : Obj} {f : FV} {s : ByteArray} {v : Value} (hl : lkL r L = some o) (h : MF o f) (ht : strMap P t = true) :
    ∃ o', xmapUpdate P t (.map (some r)) (.string s) v (ov A L) = some (ov A (updL r o' L)) ∧ MF o' (f.put s v) := by
  obtain ⟨es, c, h1, h2, h3⟩ := h.put_obj s v
  have hA : ov A L r = some (.map es c) := by rw [ov_get, hl, ← h1]
  refine ⟨_, ?_, h3⟩
  simp only [xmapUpdate, hA, ht, h2, Bool.and_self, if_true]
  rw [ov_updL hl]
theorem mapdel_own {P : Program} {t : TypeId} {A : View} {L : List (Nat × Obj)} {r : Nat} {o : Obj} {f : FV} {s : ByteArray} (hl : lkL r L = some o) (h : MF o f) (ht : strMap P t = true) :
    ∃ o', xdelete P t (.map (some r)) (.string s) (ov A L) = some (ov A (updL r o' L)) ∧ MF o' (f.del s) := by
  obtain ⟨es, c, h1, h2, h3⟩ := h.del_obj s
  have hA : ov A L r = some (.map es c) := by rw [ov_get, hl, ← h1]
  refine ⟨_, ?_, h3⟩
  simp only [xdelete, hA, ht, h2, Bool.and_self, if_true]
  rw [ov_updL hl]
theorem ov_set_base {A : View} {L : List (Nat × Obj)} (hP : Priv A (addrs L)) {r : Nat} {o o' : Obj} (h : A r = some o) : (ov A L).set r o' = ov (A.set r o') L ∧ Priv (A.set r o') (addrs L) := by
  have hr := hP.notin h
  refine ⟨?_, hP.anti fun b hb hn => by rw [set_other (fun hx => hr (by rw [← hx]; exact hb))]; exact hn⟩
  funext b
  rw [ov_get]
  by_cases hb : b = r
  · subst hb; rw [set_at, lkL_addrs hr, set_at]
  · rw [set_other hb, set_other hb, ov_get]
/-- A map beneath is changed. -/
theorem mapset_base {P : Program} {t : TypeId} {A : View} {L : List (Nat × Obj)} {r : Nat} {o : Obj} {f : FV} {s : ByteArray} {v : Value} (hP : Priv A (addrs L)) (hA : A r = some o) (h : MF o f) (ht : strMap P t = true) :
    ∃ o', xmapUpdate P t (.map (some r)) (.string s) v (ov A L) = some (ov (A.set r o') L) ∧ MF o' (f.put s v) ∧ Priv (A.set r o') (addrs L) := by
  obtain ⟨es, c, h1, h2, h3⟩ := h.put_obj s v
  have hB : ov A L r = some (.map es c) := by rw [ov_base hP hA, ← h1]
  obtain ⟨g1, g2⟩ := ov_set_base (o' := mset es c s v) hP hA
  refine ⟨_, ?_, h3, g2⟩
  simp only [xmapUpdate, hB, ht, h2, Bool.and_self, if_true]
  rw [g1]
theorem mapdel_base {P : Program} {t : TypeId} {A : View} {L : List (Nat × Obj)} {r : Nat} {o : Obj} {f : FV} {s : ByteArray} (hP : Priv A (addrs L)) (hA : A r = some o) (h : MF o f) (ht : strMap P t = true) :
    ∃ o', xdelete P t (.map (some r)) (.string s) (ov A L) = some (ov (A.set r o') L) ∧ MF o' (f.del s) ∧ Priv (A.set r o') (addrs L) := by
  obtain ⟨es, c, h1, h2, h3⟩ := h.del_obj s
  have hB : ov A L r = some (.map es c) := by rw [ov_base hP hA, ← h1]
  obtain ⟨g1, g2⟩ := ov_set_base (o' := mdel es c s) hP hA
  refine ⟨_, ?_, h3, g2⟩
  simp only [xdelete, hB, ht, h2, Bool.and_self, if_true]
  rw [g1]

theorem mapset_goal {P : Program} {t : TypeId} {A : View} {L : List (Nat × Obj)} {r : Nat} {o : Obj} {f : FV} {s : ByteArray} {v : Value} {K : View → Prop} (i : Nat) (hP : Priv A (addrs L)) (hl : L[i]? = some (r, o)) (h : MF o f) (ht : strMap P t = true)
    (k : ∀ o', MF o' (f.put s v) → Priv A (addrs (L.set i (r, o'))) → K (ov A (L.set i (r, o')))) : onS (xmapUpdate P t (.map (some r)) (.string s) v (ov A L)) K := by
  obtain ⟨o', h1, h2⟩ := mapset_own (P := P) (A := A) (s := s) (v := v) (hP.notAddr hl).1 h ht
  obtain ⟨g1, g2⟩ := lkL_set (o' := o') hP hl
  have e : ov A (updL r o' L) = ov A (L.set i (r, o')) := by
    rw [← ov_updL (hP.notAddr hl).1]
    funext b
    rw [ov_get, g1]
    by_cases hb : b = r
    · subst hb; rw [set_at, if_pos rfl]
    · rw [set_other hb, if_neg hb, ov_get]
      have h3 := (hP.notAddr hl).2
      rw [← h3]
      have : ∀ L : List (Nat × Obj), lkL b (delL r L) = lkL b L := by
        intro L
        induction L with
        | nil => rfl
        | cons p L ih =>
          obtain ⟨c, x⟩ := p
          simp only [delL]
          split
          · rename_i hrc
            simp only [lkL]
            rw [if_neg (fun hx => hb (hx.trans hrc.symm))]
          · simp only [lkL, ih]
      rw [this L]
  rw [h1]
  refine ⟨_, rfl, ?_⟩
  rw [e]
  exact k o' h2 (by rw [g2]; exact hP)
theorem mapset_bgoal {P : Program} {t : TypeId} {A : View} {L : List (Nat × Obj)} {r : Nat} {o : Obj} {f : FV} {s : ByteArray} {v : Value} {K : View → Prop} (hP : Priv A (addrs L)) (hA : A r = some o) (h : MF o f) (ht : strMap P t = true)
    (k : ∀ o', MF o' (f.put s v) → Priv (A.set r o') (addrs L) → K (ov (A.set r o') L)) : onS (xmapUpdate P t (.map (some r)) (.string s) v (ov A L)) K := by
  obtain ⟨o', h1, h2, h3⟩ := mapset_base (P := P) (s := s) (v := v) hP hA h ht
  rw [h1]
  exact ⟨_, rfl, k o' h2 h3⟩
theorem mapdel_bgoal {P : Program} {t : TypeId} {A : View} {L : List (Nat × Obj)} {r : Nat} {o : Obj} {f : FV} {s : ByteArray} {K : View → Prop} (hP : Priv A (addrs L)) (hA : A r = some o) (h : MF o f) (ht : strMap P t = true)
    (k : ∀ o', MF o' (f.del s) → Priv (A.set r o') (addrs L) → K (ov (A.set r o') L)) : onS (xdelete P t (.map (some r)) (.string s) (ov A L)) K := by
  obtain ⟨o', h1, h2, h3⟩ := mapdel_base (P := P) (s := s) hP hA h ht
  rw [h1]
  exact ⟨_, rfl, k o' h2 h3⟩

/-! ## Ranges -/
theorem mfilter_perm (p : MapEntry → Bool) (y : MapEntry) (hp : p y = true) : ∀ (l : List MapEntry), l.Pairwise (fun a b => a.born < b.born) → y ∈ l → (l.filter p).Perm (y :: l.filter fun e => p e && decide (e.born ≠ y.born))
  | [], _, h => by cases h
  | a :: l, hw, h => by
    rw [List.pairwise_cons] at hw
    rcases List.mem_cons.1 h with h | h
    · subst h
      have h1 : l.filter (fun e => p e && decide (e.born ≠ y.born)) = l.filter p := by
        refine List.filter_congr fun x hx => ?_
        have := hw.1 x hx
        have hne : x.born ≠ y.born := by omega
        simp [hne]
      rw [List.filter_cons_of_pos hp, List.filter_cons_of_neg (by simp), h1]
    · have ih := mfilter_perm p y hp l hw.2 h
      have hne : a.born ≠ y.born := Nat.ne_of_lt (hw.1 y h)
      cases hpa : p a with
      | true =>
        rw [List.filter_cons_of_pos hpa, List.filter_cons_of_pos (by simp [hpa, hne])]
        exact (ih.cons a).trans (List.Perm.swap _ _ _)
      | false =>
        rw [List.filter_cons_of_neg (by simp [hpa]), List.filter_cons_of_neg (by simp [hpa])]
        exact ih
/-- How far a range over a map has come: what is still to do. -/
def MIt (oi : Obj) (o : Obj) (r : Nat) (todo : List (ByteArray × Value)) : Prop :=
  ∃ es c seen, oi = .mapIter (some r) c seen c ∧ o = .map es c ∧ ((es.toList.filter fun e => !seen.contains e.born).map mEnt).Perm todo
def MAt (oi : Obj) (o : Obj) (r : Nat) (q : ByteArray × Value) : Prop :=
  ∃ es c seen y, oi = .mapIter (some r) c seen c ∧ o = .map es c ∧ seen.back? = some y.born ∧ es.find? (fun e => e.born == y.born) = some y ∧ y.key = .string q.1 ∧ y.val = q.2
theorem mfind_born {y : MapEntry} : ∀ (l : List MapEntry), l.Pairwise (fun a b => a.born < b.born) → y ∈ l → l.find? (fun e => e.born == y.born) = some y
  | [], _, h => by cases h
  | a :: l, hw, h => by
    rw [List.pairwise_cons] at hw
    rcases List.mem_cons.1 h with h | h
    · subst h
      simp
    · have := hw.1 y h
      have hne : (a.born == y.born) = false := by
        rw [beq_eq_false_iff_ne]; omega
      rw [List.find?_cons, hne]
      exact mfind_born l hw.2 h
/-- The entries of a map. -/
theorem MF.entries {o : Obj} {f : FV} (h : MF o f) : ∃ kv : List (ByteArray × Value), kv.Pairwise (fun a b => a.1 ≠ b.1) ∧ (∀ k v, (k, v) ∈ kv ↔ f k = some v) ∧ ∀ r es c, o = .map es c → MIt (.mapIter (some r) c #[] c) o r kv := by
  obtain ⟨es, c, h1, h2, h3, h4, h5, h6⟩ := h
  refine ⟨es.toList.map mEnt, h3, fun k v => by rw [← lk_iff es.toList h2 h3, h6], fun r es' c' hx => ?_⟩
  rw [h1] at hx
  simp only [Obj.map.injEq] at hx
  obtain ⟨rfl, rfl⟩ := hx
  refine ⟨es, c, #[], rfl, h1, ?_⟩
  rw [List.filter_eq_self.2 (by simp)]
section
variable {P : Program} {n : Nat} {K : VQ} {e : Env} {ds : List Deferred} {A : View} {d : Option Tmp} {ty : TypeId} {p : String} {af : Array Edge} {g : Option (Nat × Bool)}
theorem xrangeM {t kt et : TypeId} {x : Operand} {r : Nat} {o : Obj} {f : FV} {L : List (Nat × Obj)} (hP : Priv A (addrs L)) (hA : ov A L r = some o) (h : MF o f) (ht : P.underlying t = some (.map kt et)) (hx : ev n e x = .map (some r))
    (hk : ∀ b oi kv, kv.Pairwise (fun a b => a.1 ≠ b.1) → (∀ k v, (k, v) ∈ kv ↔ f k = some v) → MIt oi o r kv → Priv A (b :: addrs L) → K (putE e d (.pointer (some ⟨b, 0, none⟩))) ds (ov A ((b, oi) :: L))) : vop P n ⟨d, .range t x, ty, p, af, g⟩ (dn K) e ds (ov A L) := by
  obtain ⟨kv, h1, h2, h3⟩ := h.entries
  obtain ⟨es, c, g1, _⟩ := h
  exact xrange_map ht hx (by rw [hA, g1]) fun b hb => hk b _ kv h1 h2 (h3 r es c g1) (hP.cons hb)
theorem xnextM {x : Operand} {it r : Nat} {o oi : Obj} {f : FV} {L : List (Nat × Obj)} {todo : List (ByteArray × Value)} (hA : ov A L r = some o) (hm : MF o f) (hl : lkL it L = some oi) (h : MIt oi o r todo) (hx : ev n e x = .pointer (some ⟨it, 0, none⟩))
    (hend : todo = [] → K (putE e d (.tuple #[.bool false])) ds (ov A L))
    (hstep : ∀ (q : ByteArray × Value) rest oi', todo.Perm (q :: rest) → MIt oi' o r rest → MAt oi' o r q → K (putE e d (.tuple #[.bool true, .string q.1, q.2])) ds (ov A (updL it oi' L))) :
    vop P n ⟨d, .next x false, ty, p, af, g⟩ (dn K) e ds (ov A L) := by
  obtain ⟨es, c, h1, h3, _, h4, h5, _⟩ := hm
  obtain ⟨es', c', seen, e1, e2, h6⟩ := h
  rw [h1] at e2
  simp only [Obj.map.injEq] at e2
  obtain ⟨rfl, rfl⟩ := e2
  refine xnext_map hx (by rw [ov_get, hl, e1]) (by rw [hA, h1]) (fun y hy => ⟨h5 y (by simpa using hy), h5 y (by simpa using hy)⟩) (fun hall => ?_) fun y hy hs => ?_
  · refine hend (List.Perm.eq_nil ?_)
    have : (es.toList.filter fun e => !seen.contains e.born) = [] := by
      rw [List.filter_eq_nil_iff]
      intro a ha
      have := hall a (by simpa using ha)
      rw [this]
      decide
    rw [this] at h6
    exact h6.symm
  · have hyl : y ∈ es.toList := by simpa using hy
    have hp := mfilter_perm (fun e => !seen.contains e.born) y (by simpa using hs) es.toList h4 hyl
    have hky : y.key = .string (mEnt y).1 := by
      have := List.all_eq_true.1 h3 y hyl
      simp only [mEnt]
      cases hk : y.key <;> simp [isStr, hk] at this
      rfl
    have hv : y.val = (mEnt y).2 := rfl
    rw [hky, hv, ov_updL hl]
    refine hstep (mEnt y) (((es.toList.filter fun x => !seen.contains x.born && decide (x.born ≠ y.born))).map mEnt) _ (h6.symm.trans (by simpa only [List.map_cons] using hp.map mEnt)) ⟨es, c, seen.push y.born, rfl, h1, ?_⟩ ⟨es, c, seen.push y.born, y, rfl, h1, by simp, ?_, hky, hv⟩
    · have : (es.toList.filter fun e => !(seen.push y.born).contains e.born) = es.toList.filter fun e => !seen.contains e.born && decide (e.born ≠ y.born) := by
        refine List.filter_congr fun x hx => ?_
        simp
      rw [this]
    · rw [← Array.find?_toList]
      exact mfind_born _ h4 hyl
theorem xentryM {x : Operand} {it r : Nat} {o oi : Obj} {L : List (Nat × Obj)} {q : ByteArray × Value} (hA : ov A L r = some o) (hl : lkL it L = some oi) (h : MAt oi o r q) (hx : ev n e x = .pointer (some ⟨it, 0, none⟩))
    (hk : K (putE e d (.tuple #[.string q.1, q.2])) ds (ov A L)) : vop P n ⟨d, .entry x, ty, p, af, g⟩ (dn K) e ds (ov A L) := by
  obtain ⟨es, c, seen, y, e1, e2, h3, h4, h5, h6⟩ := h
  have h1 : ov A L it = some (.mapIter (some r) c seen c) := by rw [ov_get, hl, e1]
  have h2 : ov A L r = some (.map es c) := by rw [hA, e2]
  unfold vop
  simp only [execOp, vp_bind, hx]
  unfold Instr.entry
  simp only [vp_bind]
  refine ⟨_, h1, trivial, ?_⟩
  simp only [h3, vp_bind, vp_pure, vp_pure']
  refine ⟨_, h2, trivial, ?_⟩
  simp only [bne_self_eq_false, Bool.false_eq_true, if_false, vp_bind, vp_pure, vp_pure', h4]
  rw [h5, h6]
  exact ⟨_, View.le_refl _, hk⟩
theorem xnextH {x : Operand} {it r : Nat} {o oi : Obj} {f : FV} {L : List (Nat × Obj)} {todo : List (ByteArray × Value)} (hA : ov A ((it, oi) :: L) r = some o) (hm : MF o f) (h : MIt oi o r todo) (hx : ev n e x = .pointer (some ⟨it, 0, none⟩))
    (hend : todo = [] → K (putE e d (.tuple #[.bool false])) ds (ov A ((it, oi) :: L)))
    (hstep : ∀ (k : ByteArray) (v : Value) rest oi', todo.Perm ((k, v) :: rest) → MIt oi' o r rest → MAt oi' o r (k, v) → K (putE e d (.tuple #[.bool true, .string k, v])) ds (ov A ((it, oi') :: L))) :
    vop P n ⟨d, .next x false, ty, p, af, g⟩ (dn K) e ds (ov A ((it, oi) :: L)) := by
  refine xnextM hA hm (it := it) (oi := oi) (by simp [lkL]) h hx hend fun q rest oi' h1 h2 h3 => ?_
  simp only [updL, if_true]
  exact hstep q.1 q.2 rest oi' h1 h2 h3
theorem xentryH {x : Operand} {it r : Nat} {o oi : Obj} {L : List (Nat × Obj)} {k : ByteArray} {v : Value} (hA : ov A ((it, oi) :: L) r = some o) (h : MAt oi o r (k, v)) (hx : ev n e x = .pointer (some ⟨it, 0, none⟩))
    (hk : K (putE e d (.tuple #[.string k, v])) ds (ov A ((it, oi) :: L))) : vop P n ⟨d, .entry x, ty, p, af, g⟩ (dn K) e ds (ov A ((it, oi) :: L)) :=
  xentryM hA (by simp [lkL]) h hx hk
end
attribute [go_sem] xop_range xop_next xop_entry
end Go.Proofs.YtpinamipjddobaaV

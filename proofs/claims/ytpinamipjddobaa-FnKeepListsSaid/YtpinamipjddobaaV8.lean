/- The logic of views: maps with texts as keys: what is found after a change. -/
import Derived.Test.YtpinamipjddobaaV6
namespace Go.Proofs.YtpinamipjddobaaV
set_option linter.unusedSimpArgs false
set_option linter.unusedVariables false
def lk (key : ByteArray) : List MapEntry → Option Value
  | [] => none
  | e :: es => match e.key with
    | .string s' => if key = s' then some e.val else lk key es
    | _ => none
theorem sfind_lk (key : ByteArray) : ∀ (l : List MapEntry) (i : Nat), (sfind key l i).map (·.2) = lk key l
  | [], _ => rfl
  | e :: es, i => by
    cases hk : e.key with
    | string s' =>
      simp only [sfind, lk, hk]
      by_cases h : key = s'
      · rw [if_pos h, if_pos h]; rfl
      · rw [if_neg h, if_neg h]; exact sfind_lk key es (i + 1)
    | _ => simp only [sfind, lk, hk]; rfl
theorem sfind_lk_none {key : ByteArray} {l : List MapEntry} {i : Nat} (h : lk key l = none) : sfind key l i = none := by
  rw [← sfind_lk key l i] at h
  exact Option.map_eq_none_iff.1 h
theorem lk_modify (s : ByteArray) (v : Value) : ∀ (l : List MapEntry) (k i : Nat) (u : Value), sfind s l k = some (i, u) → strKeysB l = true →
    (∀ key, lk key (l.modify (i - k) fun e => { e with key := .string s, val := v }) = if key = s then some v else lk key l) ∧ strKeysB (l.modify (i - k) fun e => { e with key := .string s, val := v }) = true
  | [], _, _, _, h, _ => by cases h
  | e :: es, k, i, u, h, hk => by
    have hk2 : isStr e.key = true ∧ strKeysB es = true := by simpa [strKeysB] using hk
    unfold sfind at h
    split at h
    · rename_i s' hs'
      split at h
      · rename_i hss
        simp only [Option.some.injEq, Prod.mk.injEq] at h
        obtain ⟨rfl, _⟩ := h
        subst hss
        rw [Nat.sub_self]
        simp only [List.modify_zero_cons]
        refine ⟨fun key => ?_, ?_⟩
        · simp only [lk, hs']
          split <;> rfl
        · simp only [strKeysB, List.all_cons, isStr, Bool.true_and]
          exact hk2.2
      · rename_i hss
        have hle : k + 1 ≤ i := (sfind_key s es (k + 1) i u h).1
        obtain ⟨h1, h2⟩ := lk_modify s v es (k + 1) i u h hk2.2
        have he : i - k = (i - (k + 1)) + 1 := by omega
        rw [he]
        simp only [List.modify_succ_cons]
        refine ⟨fun key => ?_, ?_⟩
        · simp only [lk, hs', h1 key]
          by_cases hks : key = s'
          · subst hks
            rw [if_pos rfl, if_neg (fun hx => hss hx.symm), if_pos rfl]
          · rw [if_neg hks, if_neg hks]
        · simp only [strKeysB, List.all_cons, hk2.1, Bool.true_and]
          exact h2
    · cases h
theorem lk_push (s : ByteArray) (v : Value) (b : Nat) : ∀ (l : List MapEntry), lk s l = none → strKeysB l = true →
    (∀ key, lk key (l ++ [⟨.string s, v, b⟩]) = if key = s then some v else lk key l) ∧ strKeysB (l ++ [⟨.string s, v, b⟩]) = true
  | [], _, _ => ⟨fun key => by simp [lk], by simp [strKeysB, isStr]⟩
  | e :: es, h, hk => by
    have hk2 : isStr e.key = true ∧ strKeysB es = true := by simpa [strKeysB] using hk
    unfold lk at h
    split at h
    · rename_i s' hs'
      split at h
      · cases h
      · rename_i hss
        obtain ⟨h1, h2⟩ := lk_push s v b es h hk2.2
        refine ⟨fun key => ?_, ?_⟩
        · simp only [List.cons_append, lk, hs', h1 key]
          by_cases hks : key = s'
          · subst hks
            rw [if_pos rfl, if_neg (fun hx => hss hx.symm), if_pos rfl]
          · rw [if_neg hks, if_neg hks]
        · simp only [List.cons_append, strKeysB, List.all_cons, hk2.1, Bool.true_and]
          exact h2
    · rename_i hne
      cases hkk : e.key <;> simp [isStr, hkk] at hk2
      exact absurd hkk (hne _)
/-- A map known whole: what it answers. -/
def Map (A : View) (r : Nat) (f : ByteArray → Option Value) : Prop := ∃ es c, A r = some (.map es c) ∧ strKeysB es.toList = true ∧ ∀ k, lk k es.toList = f k
theorem Map.new {A : View} {r : Nat} : Map (A.set r (.map #[] 0)) r fun _ => none := ⟨#[], 0, set_at _ _ _, rfl, fun _ => rfl⟩
theorem mset_lk (es : Array MapEntry) (c : Nat) (s : ByteArray) (v : Value) (hk : strKeysB es.toList = true) : ∃ es' c', mset es c s v = .map es' c' ∧ strKeysB es'.toList = true ∧ ∀ key, lk key es'.toList = if key = s then some v else lk key es.toList := by
  unfold mset
  cases hf : sfind s es.toList 0 with
  | none =>
    have hl : lk s es.toList = none := by rw [← sfind_lk s _ 0, hf]; rfl
    obtain ⟨h1, h2⟩ := lk_push s v c es.toList hl hk
    exact ⟨_, _, rfl, by rw [Array.toList_push]; exact h2, fun key => by rw [Array.toList_push]; exact h1 key⟩
  | some p =>
    obtain ⟨i, u⟩ := p
    obtain ⟨h1, h2⟩ := lk_modify s v es.toList 0 i u hf hk
    exact ⟨_, _, rfl, by rw [Array.toList_modify]; exact h2, fun key => by rw [Array.toList_modify]; exact h1 key⟩
theorem Map.update {P : Program} {t : TypeId} {A : View} {r : Nat} {f : ByteArray → Option Value} {s : ByteArray} {v : Value} (h : Map A r f) (ht : strMap P t = true) :
    ∃ o, xmapUpdate P t (.map (some r)) (.string s) v A = some (A.set r o) ∧ Map (A.set r o) r fun k => if k = s then some v else f k := by
  obtain ⟨es, c, h1, h2, h3⟩ := h
  obtain ⟨es', c', h4, h5, h6⟩ := mset_lk es c s v h2
  refine ⟨mset es c s v, ?_, es', c', by rw [set_at, h4], h5, fun k => by rw [h6, h3]⟩
  simp only [xmapUpdate, h1, ht, h2, Bool.and_self, if_true]
theorem Map.lookup {P : Program} {t kt et : TypeId} {b1 b2 b3 b4 : Nat} {z1 z2 : Option Value} {A : View} {r : Nat} {f : ByteArray → Option Value} {s : ByteArray} {z : Value} (h : Map A r f) (ht : tinfo P t = some ⟨.map kt et, b1, b2, z1⟩)
    (hkt : tinfo P kt = some ⟨.string, b3, b4, z2⟩) (hz : zeroOf P et = some z) (ok : Bool) :
    xlookup P t (.map (some r)) (.string s) ok A = some (if ok then .tuple #[(f s).getD z, .bool (f s).isSome] else (f s).getD z) := by
  obtain ⟨es, c, h1, h2, h3⟩ := h
  have hf : (sfind s es.toList 0).map (·.2) = f s := by rw [sfind_lk, h3]
  have hs : (sfind s es.toList 0).isSome = (f s).isSome := by rw [← hf]; cases sfind s es.toList 0 <;> rfl
  simp only [xlookup, ht, hkt, mapAt, h1, h2, if_true, hz, Option.map_some, hf, hs]
end Go.Proofs.YtpinamipjddobaaV

/- Tables: maps with texts as keys, as lists of what they hold, in any order. -/
import Derived.Test.YtogfpbnbojhpoaaV9
namespace Go.Proofs.YtogfpbnbojhpoaaV
open Go.RowKit
set_option linter.unusedSimpArgs false
set_option linter.unusedVariables false
def keyText : Value → ByteArray
  | .string s => s
  | _ => ⟨#[]⟩
def ent (e : MapEntry) : ByteArray × Value := (keyText e.key, e.val)
def MapP (A : View) (r : Nat) (kv : List (ByteArray × Value)) : Prop :=
  ∃ es c, A r = some (.map es c) ∧ strKeysB es.toList = true ∧ (es.toList.map ent).Perm kv ∧ es.toList.Pairwise (fun a b => a.born < b.born) ∧ ∀ e ∈ es.toList, e.born < c
theorem MapP.le {A B : View} (h : A ≤ B) {r : Nat} {kv : List (ByteArray × Value)} (m : MapP A r kv) : MapP B r kv := by
  obtain ⟨es, c, h1, h2⟩ := m
  exact ⟨es, c, h _ _ h1, h2⟩
theorem MapP.new {A : View} {r : Nat} : MapP (A.set r (.map #[] 0)) r [] := ⟨#[], 0, set_at _ _ _, rfl, List.Perm.refl _, List.Pairwise.nil, fun e he => by simp at he⟩
theorem sfind_none {s : ByteArray} : ∀ (l : List MapEntry) (i : Nat), strKeysB l = true → (∀ e ∈ l, keyText e.key ≠ s) → sfind s l i = none
  | [], _, _, _ => rfl
  | e :: es, i, hk, hn => by
    have hk2 : isStr e.key = true ∧ strKeysB es = true := by simpa [strKeysB] using hk
    have hne := hn e List.mem_cons_self
    cases hkk : e.key with
    | string s' =>
      rw [hkk] at hne
      simp only [sfind, hkk]
      rw [if_neg (fun hx => hne hx.symm)]
      exact sfind_none es (i + 1) hk2.2 fun x hx => hn x (List.mem_cons_of_mem _ hx)
    | _ => simp [isStr, hkk] at hk2
theorem MapP.insert {P : Program} {t : TypeId} {A : View} {r : Nat} {kv : List (ByteArray × Value)} {s : ByteArray} {v : Value} (h : MapP A r kv) (ht : strMap P t = true) (hs : ∀ p ∈ kv, p.1 ≠ s) :
    ∃ o, xmapUpdate P t (.map (some r)) (.string s) v A = some (A.set r o) ∧ MapP (A.set r o) r (kv ++ [(s, v)]) := by
  obtain ⟨es, c, h1, h2, h3, h4, h5⟩ := h
  have hf : sfind s es.toList 0 = none := sfind_none _ _ h2 fun e he => hs (ent e) (h3.subset (List.mem_map_of_mem he))
  refine ⟨mset es c s v, by simp only [xmapUpdate, h1, ht, h2, Bool.and_self, if_true], es.push ⟨.string s, v, c⟩, c + 1, ?_, ?_, ?_, ?_, ?_⟩
  · rw [set_at]; simp only [mset, hf]
  · rw [Array.toList_push]; simp only [strKeysB, List.all_append, List.all_cons, List.all_nil, isStr, Bool.and_true] at *; exact h2
  · rw [Array.toList_push, List.map_append]
    exact h3.append (List.Perm.refl _)
  · rw [Array.toList_push, List.pairwise_append]
    refine ⟨h4, List.pairwise_singleton _ _, fun a ha b hb => ?_⟩
    simp only [List.mem_singleton] at hb
    subst hb
    exact h5 a ha
  · intro e he
    rw [Array.toList_push, List.mem_append] at he
    rcases he with he | he
    · have := h5 e he; omega
    · simp only [List.mem_singleton] at he
      subst he
      exact Nat.lt_succ_self _
/-- What is found under a key that is there once. -/
theorem sfind_mem {s : ByteArray} {v : Value} : ∀ (l : List MapEntry) (i : Nat), strKeysB l = true → (l.map ent).Pairwise (fun a b => a.1 ≠ b.1) → (s, v) ∈ l.map ent → (sfind s l i).map (·.2) = some v
  | [], _, _, _, h => by simp at h
  | e :: es, i, hk, hp, h => by
    have hk2 : isStr e.key = true ∧ strKeysB es = true := by simpa [strKeysB] using hk
    rw [List.map_cons, List.pairwise_cons] at hp
    cases hkk : e.key with
    | string s' =>
      simp only [sfind, hkk]
      rw [List.map_cons, List.mem_cons] at h
      by_cases hs : s = s'
      · rw [if_pos hs]
        rcases h with h | h
        · simp only [ent, hkk, keyText, Prod.mk.injEq] at h
          simp [h.2]
        · exact absurd (by simp [ent, hkk, keyText, hs]) (hp.1 _ h)
      · rw [if_neg hs]
        rcases h with h | h
        · simp only [ent, hkk, keyText, Prod.mk.injEq] at h
          exact absurd h.1 hs
        · exact sfind_mem es (i + 1) hk2.2 hp.2 h
    | _ => simp [isStr, hkk] at hk2
theorem MapP.found {A : View} {r : Nat} {kv : List (ByteArray × Value)} {s : ByteArray} {v : Value} (h : MapP A r kv) (hd : kv.Pairwise (fun a b => a.1 ≠ b.1)) (hm : (s, v) ∈ kv) :
    ∃ es c, A r = some (.map es c) ∧ strKeysB es.toList = true ∧ (sfind s es.toList 0).map (·.2) = some v := by
  obtain ⟨es, c, h1, h2, h3, _⟩ := h
  refine ⟨es, c, h1, h2, sfind_mem _ _ h2 ?_ (h3.symm.subset hm)⟩
  exact (h3.symm.pairwise hd (fun {a b} hx hy => hx hy.symm))
end Go.Proofs.YtogfpbnbojhpoaaV

/- Tables: what is put together of two right tables is right. -/
import Derived.Test.YtogfpbnbojhpoaaUL
namespace Go.Proofs.YtogfpbnbojhpoaaV
open Go.RowKit
set_option linter.unusedSimpArgs false
set_option linter.unusedVariables false
theorem coal67 : ∀ w, A67 w := by
  intro w
  induction hn : SizeOf.sizeOf w using Nat.strongRecOn generalizing w with
  | _ n ih =>
  refine coal67_step w fun k u hu => ih _ (by rw [← hn]; exact at_size hu) u rfl
def Up (kv : KV) : Prop := kv.Pairwise fun a b => a.1.toList < b.1.toList
theorem geB_iff {a b : ByteArray} : geB a b = true ↔ ¬ a.toList < b.toList := by
  unfold geB
  rw [Go.Proofs.bytesLess_eq]
  simp
theorem ba_lt_of {a s : ByteArray} (h : ¬ a.toList < s.toList) (hne : a ≠ s) : s.toList < a.toList := by
  rcases List.le_total a.toList s.toList with h1 | h1
  · exfalso
    have h2 : a.toList = s.toList := List.le_antisymm h1 (List.not_lt.1 h)
    exact hne ((Lib.bytes_beq_iff a s).1 (by rw [h2]; simp))
  · rcases Classical.em (s.toList < a.toList) with h2 | h2
    · exact h2
    · have h3 : a.toList = s.toList := List.le_antisymm (List.not_lt.1 h2) h1
      exact absurd ((Lib.bytes_beq_iff a s).1 (by rw [h3]; simp)) hne
theorem mem_wgo {s : ByteArray} {w : RV} {p : ByteArray × RV} : ∀ {d : Bool} {kv : KV}, p ∈ wgo s w d kv → (p = (s, w) ∧ d = false) ∨ (p ∈ kv ∧ p.1 ≠ s)
  | d, [], h => by
    cases d
    · simp [wgo] at h; exact .inl ⟨h, rfl⟩
    · simp [wgo] at h
  | d, (k, x) :: r, h => by
    simp only [wgo, List.mem_append] at h
    rcases h with (h | h) | h
    · split at h
      · rename_i hc
        simp only [List.mem_singleton] at h
        refine .inl ⟨h, ?_⟩
        cases d
        · rfl
        · simp at hc
      · cases h
    · split at h
      · cases h
      · rename_i hne
        simp only [List.mem_singleton] at h
        subst h
        exact .inr ⟨List.mem_cons_self, hne⟩
    · rcases mem_wgo h with ⟨h1, h2⟩ | ⟨h1, h2⟩
      · refine .inl ⟨h1, ?_⟩
        cases d
        · rfl
        · simp at h2
      · exact .inr ⟨List.mem_cons_of_mem _ h1, h2⟩
theorem up_wgo (s : ByteArray) (w : RV) : ∀ (d : Bool) (kv : KV), Up kv → (d = true → ∀ p ∈ kv, s.toList < p.1.toList) → Up (wgo s w d kv)
  | d, [], _, _ => by cases d <;> simp [wgo, Up]
  | d, (k, x) :: r, h, hd => by
    unfold Up at h
    rw [List.pairwise_cons] at h
    obtain ⟨h1, h2⟩ := h
    cases d with
    | true =>
      have hsk := hd rfl (k, x) List.mem_cons_self
      have hne : k ≠ s := fun hx => by rw [hx] at hsk; exact absurd hsk (List.lt_irrefl _)
      have ih := up_wgo s w true r h2 fun _ p hp => hd rfl p (List.mem_cons_of_mem _ hp)
      simp only [wgo, Bool.not_true, Bool.false_and, Bool.false_eq_true, if_false, if_neg hne, List.nil_append, List.cons_append, Bool.true_or]
      unfold Up
      rw [List.pairwise_cons]
      refine ⟨fun p hp => ?_, ih⟩
      rcases mem_wgo hp with ⟨_, h⟩ | ⟨h, _⟩
      · cases h
      · exact h1 p h
    | false =>
      cases hg : geB k s with
      | true =>
        have hge := geB_iff.1 hg
        simp only [wgo, hg, Bool.not_false, Bool.true_and, if_true, Bool.or_true]
        have hs : ∀ p ∈ r, s.toList < p.1.toList := fun p hp => by
          have h3 := h1 p hp
          rcases Classical.em (k = s) with e | e
          · rw [← e]; exact h3
          · exact List.lt_trans (ba_lt_of hge e) h3
        have ih := up_wgo s w true r h2 fun _ => hs
        have hr : ∀ p ∈ wgo s w true r, p ∈ r := fun p hp => by
          rcases mem_wgo hp with ⟨_, h⟩ | ⟨h, _⟩
          · cases h
          · exact h
        by_cases e : k = s
        · rw [if_pos e]
          simp only [List.append_nil, List.singleton_append]
          unfold Up
          rw [List.pairwise_cons]
          exact ⟨fun p hp => hs p (hr p hp), ih⟩
        · rw [if_neg e]
          simp only [List.cons_append, List.nil_append]
          unfold Up
          rw [List.pairwise_cons, List.pairwise_cons]
          refine ⟨fun p hp => ?_, fun p hp => h1 p (hr p hp), ih⟩
          rcases List.mem_cons.1 hp with hp | hp
          · subst hp; exact ba_lt_of hge e
          · exact hs p (hr p hp)
      | false =>
        have hlt : k.toList < s.toList := by
          rcases Classical.em (k.toList < s.toList) with h | h
          · exact h
          · rw [geB_iff.2 h] at hg; cases hg
        have hne : k ≠ s := fun hx => by rw [hx] at hlt; exact absurd hlt (List.lt_irrefl _)
        have ih := up_wgo s w false r h2 fun h => by cases h
        simp only [wgo, hg, Bool.and_false, Bool.false_eq_true, if_false, if_neg hne, List.nil_append, List.cons_append, Bool.or_false]
        unfold Up
        rw [List.pairwise_cons]
        refine ⟨fun p hp => ?_, ih⟩
        rcases mem_wgo hp with ⟨h, _⟩ | ⟨h, _⟩
        · rw [h]; exact hlt
        · exact h1 p h
theorem up_rising {kv : KV} (h : Up kv) : Rising (kv.map (·.1)) := by
  intro i hi
  unfold Up at h
  rw [List.pairwise_iff_getElem] at h
  have := h i (i + 1) (by simp at hi; omega) (by simpa using hi) (by omega)
  rw [Go.Proofs.bytesLess_eq, decide_eq_true_iff]
  simpa using this
theorem rising_up {keys : List ByteArray} {list : List RV} (hr : Rising keys) : Up (keys.zip list) := by
  unfold Up
  rw [List.pairwise_iff_getElem]
  intro i j hi hj hij
  rw [List.getElem_zip, List.getElem_zip]
  exact rising_lt hr j i (by rw [List.length_zip] at hj; omega) hij
def sumN (kv : KV) : Nat := (kv.map fun p => nodes p.2).sum
theorem nodes_tab (kv : KV) : nodes (tab kv) = 1 + sumN kv := by
  unfold tab sumN
  rw [nodes_mk, List.map_map]
  rfl
theorem good_tab {kv : KV} {lv : Nat} (hl : 0 < lv) (h : Up kv) (hg : ∀ p ∈ kv, Good p.2 (lv - 1)) : Good (tab kv) lv := by
  unfold tab
  rw [Good]
  refine ⟨hl, fun h => absurd h (by decide), fun h => absurd rfl h, .inr (.inr (.inr (.inr (.inr (.inr ⟨rfl, up_rising h, by simp⟩))))), fun j hj => ?_⟩
  rw [List.getElem_map]
  exact hg _ (List.getElem_mem _)
theorem good_kvs {v : RV} {lv : Nat} (h7 : kindOf v = 7) (hG : Good v lv) : 0 < lv ∧ Up (kvs v) ∧ (∀ p ∈ kvs v, Good p.2 (lv - 1)) ∧ nodes v = 1 + sumN (kvs v) := by
  obtain ⟨b, i, f, t, keys, list, rfl, hr, hl, hlv⟩ := good7 h7 hG
  refine ⟨hlv, rising_up hr, fun p hp => ?_, ?_⟩
  · rw [Good] at hG
    obtain ⟨j, hj, rfl⟩ := List.getElem_of_mem hp
    simp only [kvs] at hj ⊢
    rw [List.getElem_zip]
    exact hG.2.2.2.2 j (by rw [List.length_zip] at hj; omega)
  · rw [nodes_mk]
    unfold sumN kvs
    have : (keys.zip list).map (fun p => nodes p.2) = list.map nodes := by
      have h2 : (keys.zip list).map Prod.snd = list := List.map_snd_zip (by omega)
      conv => rhs; rw [← h2, List.map_map]
      rfl
    rw [this]
theorem good_with {v w : RV} {s : ByteArray} {lv : Nat} (h7 : kindOf v = 7) (hG : Good v lv) (hw : Good w (lv - 1)) : Good (withR v s w) lv := by
  obtain ⟨h1, h2, h3, _⟩ := good_kvs h7 hG
  refine good_tab h1 (up_wgo s w false _ h2 fun h => by cases h) fun p hp => ?_
  rcases mem_wgo hp with ⟨rfl, _⟩ | ⟨h, _⟩
  · exact hw
  · exact h3 p h
theorem good_less {v : RV} {s : ByteArray} {lv : Nat} (h7 : kindOf v = 7) (hG : Good v lv) : Good (lessR v s) lv := by
  obtain ⟨h1, h2, h3, _⟩ := good_kvs h7 hG
  exact good_tab h1 (List.Pairwise.sublist List.filter_sublist h2) fun p hp => h3 p (List.mem_filter.1 hp).1
theorem sumN_cons (p : ByteArray × RV) (r : KV) : sumN (p :: r) = nodes p.2 + sumN r := by simp [sumN]
theorem sumN_app (a b : KV) : sumN (a ++ b) = sumN a + sumN b := by simp [sumN]
theorem sumN_wgo (s : ByteArray) (w : RV) : ∀ (d : Bool) (kv : KV), sumN (wgo s w d kv) = sumN (kv.filter fun p => p.1 ≠ s) + if d then 0 else nodes w
  | d, [] => by cases d <;> simp [wgo, sumN]
  | d, (k, x) :: r => by
    have ih := sumN_wgo s w (d || geB k s) r
    simp only [wgo, sumN_app, ih]
    by_cases hk : k = s
    · rw [List.filter_cons_of_neg (by simp [hk]), if_pos hk]
      cases d <;> cases hg : geB k s <;> simp [sumN] <;> omega
    · rw [List.filter_cons_of_pos (by simp [hk]), if_neg hk, sumN_cons]
      cases d <;> cases hg : geB k s <;> simp [sumN] <;> omega
theorem sumN_filter (s : ByteArray) : ∀ kv : KV, sumN (kv.filter fun p => p.1 ≠ s) + (match lkv s kv with | some y => nodes y | none => 0) ≤ sumN kv
  | [] => by simp [sumN, lkv]
  | (k, x) :: r => by
    have ih := sumN_filter s r
    by_cases hk : k = s
    · rw [List.filter_cons_of_neg (by simp [hk]), sumN_cons]
      simp only [lkv, if_pos hk]
      have : sumN (r.filter fun p => p.1 ≠ s) ≤ sumN r := Nat.le_trans (Nat.le_add_right _ _) ih
      omega
    · rw [List.filter_cons_of_pos (by simp [hk]), sumN_cons, sumN_cons]
      simp only [lkv, if_neg hk]
      omega
theorem nodes_with {v w : RV} {s : ByteArray} {lv : Nat} (h7 : kindOf v = 7) (hG : Good v lv) : nodes (withR v s w) + (match at' v s with | some y => nodes y | none => 0) ≤ nodes v + nodes w := by
  obtain ⟨_, _, _, h4⟩ := good_kvs h7 hG
  have h5 := sumN_filter s (kvs v)
  unfold withR
  rw [nodes_tab, sumN_wgo, h4, at_kvs h7]
  simp only [Bool.false_eq_true, if_false]
  omega
theorem nodes_less {v : RV} {s : ByteArray} {lv : Nat} (h7 : kindOf v = 7) (hG : Good v lv) : nodes (lessR v s) ≤ nodes v := by
  obtain ⟨_, _, _, h4⟩ := good_kvs h7 hG
  have h5 := sumN_filter s (kvs v)
  unfold lessR
  rw [nodes_tab, h4]
  omega
theorem good_coalS {dst out x : RV} {mg : Bool} {s : ByteArray} {lv : Nat} (ih : ∀ (y : RV) (l : Nat), kindOf y = 7 → kindOf x = 7 → Good y l → Good x l → Good (coalR y mg x) l ∧ nodes (coalR y mg x) ≤ nodes y + nodes x) (h7 : kindOf out = 7) (hd : Good dst lv) (hG : Good out lv) (hx : Good x (lv - 1))
    (hs : at' out s = at' dst s) : Good (coalS dst mg out s x) lv ∧ nodes (coalS dst mg out s x) ≤ nodes out + nodes x := by
  unfold coalS
  cases hdd : at' dst s with
  | none =>
    exact ⟨good_with h7 hG hx, by have := nodes_with (w := x) (s := s) h7 hG; simp only; omega⟩
  | some y =>
    simp only
    split
    · exact ⟨hG, by omega⟩
    split
    · exact ⟨good_less h7 hG, by have := nodes_less (s := s) h7 hG; omega⟩
    split
    · rename_i h
      obtain ⟨g1, g2⟩ := ih y (lv - 1) h.1 h.2 (good_at hd hdd) hx
      refine ⟨good_with h7 hG g1, ?_⟩
      have := nodes_with (w := coalR y mg x) (s := s) h7 hG
      rw [hs, hdd] at this
      simp only at this
      omega
    · exact ⟨hG, by omega⟩
theorem good_coalL {dst : RV} {mg : Bool} {lv : Nat} (hd : Good dst lv) : ∀ (ks : List ByteArray) (xs : List RV) (out : RV), (∀ x ∈ xs, ∀ (y : RV) (l : Nat), kindOf y = 7 → kindOf x = 7 → Good y l → Good x l → Good (coalR y mg x) l ∧ nodes (coalR y mg x) ≤ nodes y + nodes x) → kindOf out = 7 → Good out lv → (∀ x ∈ xs, Good x (lv - 1)) → ks.Nodup → (∀ s ∈ ks, at' out s = at' dst s) →
    Good (coalL dst mg out ks xs) lv ∧ nodes (coalL dst mg out ks xs) ≤ nodes out + (xs.map nodes).sum
  | [], xs, out, _, _, hG, _, _, _ => by rw [coalL_nil]; exact ⟨hG, by omega⟩
  | s :: ks, [], out, _, _, hG, _, _, _ => by
    have : coalL dst mg out (s :: ks) [] = out := by unfold coalL; rfl
    rw [this]; exact ⟨hG, by omega⟩
  | s :: ks, x :: xs, out, ih, h7, hG, hx, hn, hs => by
    rw [List.nodup_cons] at hn
    have h0 := hs s List.mem_cons_self
    obtain ⟨g1, g2⟩ := good_coalS (s := s) (ih x List.mem_cons_self) h7 hd hG (hx x List.mem_cons_self) h0
    obtain ⟨g3, g4⟩ := good_coalL hd ks xs (coalS dst mg out s x) (fun z hz => ih z (List.mem_cons_of_mem _ hz)) (kind_coalS h7) g1 (fun z hz => hx z (List.mem_cons_of_mem _ hz)) hn.2 fun a ha => by
      rw [at_coalS h7 h0, if_neg (show ¬ a = s from fun hx => hn.1 (by rw [← hx]; exact ha))]
      exact hs a (List.mem_cons_of_mem _ ha)
    rw [coalL_cons]
    refine ⟨g3, ?_⟩
    simp only [List.map_cons, List.sum_cons]
    omega
theorem good_coalR (mg : Bool) : ∀ (x y : RV) (l : Nat), kindOf y = 7 → kindOf x = 7 → Good y l → Good x l → Good (coalR y mg x) l ∧ nodes (coalR y mg x) ≤ nodes y + nodes x
  | .mk k b i f t keys list, y, l, hy, hx, hGy, hGx => by
    have hx' : k = 7 := hx
    subst hx'
    rw [coalR, if_neg (by decide), if_neg (by omega)]
    obtain ⟨b', i', f', t', keys', list', e, hr, hl, _⟩ := good7 hx hGx
    simp only [RV.mk.injEq] at e
    obtain ⟨-, -, -, -, -, rfl, rfl⟩ := e
    rw [Good] at hGx
    have hsub : ∀ z ∈ list, Good z (l - 1) := fun z hz => by
      obtain ⟨j, hj, rfl⟩ := List.getElem_of_mem hz
      exact hGx.2.2.2.2 j hj
    obtain ⟨g1, g2⟩ := good_coalL (dst := y) (mg := mg) hGy keys list y (fun z hz y' l' a b c d => good_coalR mg z y' l' a b c d) hy hGy hsub (rising_nodup hr) (fun _ _ => rfl)
    refine ⟨g1, ?_⟩
    rw [nodes_mk]
    omega
termination_by x => SizeOf.sizeOf x
decreasing_by
  have := List.sizeOf_lt_of_mem hz
  simp
  omega
end Go.Proofs.YtogfpbnbojhpoaaV

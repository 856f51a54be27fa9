/- Tables: what is at a key of what is put together. -/
import Derived.Test.YtogfpbnbojhpoaaUE
import Derived.Test.YtogfpbnbojhpoaaUH
namespace Go.Proofs.YtogfpbnbojhpoaaV
open Go.RowKit
set_option linter.unusedSimpArgs false
set_option linter.unusedVariables false
/-- What is at a key of two tables put together, by what is at it in both. -/
def cell (mg : Bool) : Option RV → Option RV → Option RV
  | x, none => x
  | none, some y => some y
  | some x, some y => if kindOf x = 0 ∧ kindOf y = 0 then some x else if kindOf x = 0 ∧ mg = false then none else if kindOf x = 7 ∧ kindOf y = 7 then some (coalR x mg y) else some x
/-- Look-up among keys with values. -/
def lkv (k : ByteArray) : KV → Option RV
  | [] => none
  | (a, x) :: r => if a = k then some x else lkv k r
theorem lkv_zip (k : ByteArray) : ∀ (ks : List ByteArray) (xs : List RV), lkv k (ks.zip xs) = atR k ks xs
  | [], _ => by simp [lkv, atR]
  | _ :: _, [] => by simp [lkv, atR]
  | a :: ks, x :: xs => by simp only [List.zip_cons_cons, lkv, atR, lkv_zip k ks xs]
theorem lkv_map (k : ByteArray) : ∀ kv : KV, atR k (kv.map (·.1)) (kv.map (·.2)) = lkv k kv
  | [] => rfl
  | (a, x) :: r => by simp only [List.map_cons, atR, lkv, lkv_map k r]
theorem at_tab (kv : KV) (k : ByteArray) : at' (tab kv) k = lkv k kv := by
  unfold at' tab
  simp only [if_true]
  exact lkv_map k kv
theorem at_kvs {v : RV} (h7 : kindOf v = 7) (k : ByteArray) : at' v k = lkv k (kvs v) := by
  obtain ⟨k', b, i, f, t, keys, list⟩ := v
  simp only [kindOf] at h7
  subst h7
  unfold at' kvs
  simp only [if_true]
  exact (lkv_zip k keys list).symm
theorem lkv_app (k : ByteArray) : ∀ a b : KV, lkv k (a ++ b) = (lkv k a).or (lkv k b)
  | [], _ => rfl
  | (x, y) :: r, b => by
    simp only [List.cons_append, lkv, lkv_app k r b]
    split <;> rfl
theorem lkv_wgo (s : ByteArray) (w : RV) (k : ByteArray) : ∀ (d : Bool) (kv : KV), lkv k (wgo s w d kv) = if k = s then (if d then none else some w) else lkv k kv
  | d, [] => by
    cases d
    · by_cases h : k = s
      · subst h; simp [wgo, lkv]
      · simp [wgo, lkv, h, Ne.symm h]
    · by_cases h : k = s <;> simp [wgo, lkv, h]
  | d, (a, x) :: r => by
    have ih := lkv_wgo s w k (d || geB a s) r
    simp only [wgo, lkv_app, ih]
    by_cases h : k = s
    · subst h
      rw [if_pos rfl, if_pos rfl]
      have h2 : lkv k (if a = k then [] else [(a, x)]) = none := by
        split
        · rfl
        · rename_i hne; simp [lkv, hne]
      rw [h2]
      cases d <;> cases hg : geB a k <;> simp [lkv]
    · rw [if_neg h, if_neg h]
      have h1 : lkv k (if (!d && geB a s) = true then [(s, w)] else []) = none := by
        split
        · simp [lkv, Ne.symm h]
        · rfl
      rw [h1]
      simp only [Option.none_or, lkv]
      by_cases ha : a = s
      · subst ha
        rw [if_pos rfl, if_neg (Ne.symm h)]
        rfl
      · rw [if_neg ha]
        simp only [lkv]
        split <;> rfl
theorem lkv_filter (s k : ByteArray) : ∀ kv : KV, lkv k (kv.filter fun p => p.1 ≠ s) = if k = s then none else lkv k kv
  | [] => by simp [lkv]
  | (a, x) :: r => by
    have ih := lkv_filter s k r
    by_cases ha : a = s
    · rw [List.filter_cons_of_neg (by simp [ha]), ih]
      by_cases h : k = s
      · rw [if_pos h, if_pos h]
      · rw [if_neg h, if_neg h]
        simp only [lkv]
        rw [if_neg (fun hx => h (hx.symm.trans ha))]
    · rw [List.filter_cons_of_pos (by simp [ha])]
      simp only [lkv, ih]
      by_cases h : k = s
      · subst h
        rw [if_neg ha, if_pos rfl, if_pos rfl]
      · rw [if_neg h, if_neg h]
theorem at_with {v : RV} (h7 : kindOf v = 7) (s : ByteArray) (w : RV) (k : ByteArray) : at' (withR v s w) k = gput (at' v) s w k := by
  unfold withR gput
  rw [at_tab, lkv_wgo, at_kvs h7]
  rfl
theorem at_less {v : RV} (h7 : kindOf v = 7) (s k : ByteArray) : at' (lessR v s) k = gdel (at' v) s k := by
  unfold lessR gdel
  rw [at_tab, lkv_filter, at_kvs h7]
theorem kind_with (v : RV) (s : ByteArray) (w : RV) : kindOf (withR v s w) = 7 := rfl
theorem kind_less (v : RV) (s : ByteArray) : kindOf (lessR v s) = 7 := rfl
theorem kind_coalS {dst out : RV} {mg : Bool} {s : ByteArray} {x : RV} (h : kindOf out = 7) : kindOf (coalS dst mg out s x) = 7 := by
  unfold coalS
  split
  · rfl
  · split
    · exact h
    split
    · rfl
    split
    · rfl
    · exact h
theorem at_coalS {dst out : RV} {mg : Bool} {s : ByteArray} {x : RV} (h : kindOf out = 7) (hs : at' out s = at' dst s) (k : ByteArray) : at' (coalS dst mg out s x) k = if k = s then cell mg (at' dst s) (some x) else at' out k := by
  unfold coalS
  cases hd : at' dst s with
  | none =>
    simp only
    rw [at_with h]
    rfl
  | some y =>
    simp only [cell]
    split
    · by_cases hk : k = s
      · rw [if_pos hk, hk, hs, hd]
      · rw [if_neg hk]
    split
    · rw [at_less h]; rfl
    split
    · rw [at_with h]; rfl
    · by_cases hk : k = s
      · rw [if_pos hk, hk, hs, hd]
      · rw [if_neg hk]
theorem at_coalL {dst : RV} {mg : Bool} (k : ByteArray) : ∀ (ks : List ByteArray) (xs : List RV) (out : RV), kindOf out = 7 → ks.Nodup → (∀ s ∈ ks, at' out s = at' dst s) → (at' (coalL dst mg out ks xs) k = match atR k ks xs with | some x => cell mg (at' dst k) (some x) | none => at' out k) ∧ kindOf (coalL dst mg out ks xs) = 7
  | [], xs, out, h, _, _ => by simp [coalL_nil, atR, h]
  | s :: ks, [], out, h, _, _ => by
    have : coalL dst mg out (s :: ks) [] = out := by unfold coalL; rfl
    simp [this, atR, h]
  | s :: ks, x :: xs, out, h, hn, hs => by
    rw [List.nodup_cons] at hn
    rw [coalL_cons]
    have h0 := hs s List.mem_cons_self
    obtain ⟨h1, h2⟩ := at_coalL (dst := dst) (mg := mg) k ks xs (coalS dst mg out s x) (kind_coalS h) hn.2 fun a ha => by
      rw [at_coalS h h0, if_neg (show ¬ a = s from fun hx => hn.1 (by rw [← hx]; exact ha))]
      exact hs a (List.mem_cons_of_mem _ ha)
    refine ⟨?_, h2⟩
    rw [h1, at_coalS h h0]
    simp only [atR]
    by_cases hk : k = s
    · subst hk
      have : atR k ks xs = none := by
        cases hx : atR k ks xs with
        | none => rfl
        | some z =>
          obtain ⟨j, g1, g2, g3, _⟩ := atR_some hx
          exact absurd (g3 ▸ List.getElem_mem g1) hn.1
      rw [this]
      simp
    · have hk' : ¬ s = k := fun hx => hk hx.symm
      simp only [hk, hk', if_false]
theorem rising_nodup {keys : List ByteArray} (h : Rising keys) : keys.Nodup := by
  rw [List.nodup_iff_pairwise_ne, List.pairwise_iff_getElem]
  intro i j hi hj hij
  exact rising_ne h hj hij
theorem at_coalR {v w : RV} {mg : Bool} {lv : Nat} (hv : kindOf v = 7) (hw : kindOf w = 7) (hG : Good w lv) (k : ByteArray) : at' (coalR v mg w) k = cell mg (at' v k) (at' w k) := by
  obtain ⟨b, i, f, t, keys, list, rfl, hr, hl, _⟩ := good7 hw hG
  rw [coalR, if_neg (by decide), if_neg (by omega)]
  rw [(at_coalL k keys list v hv (rising_nodup hr) fun _ _ => rfl).1]
  have : at' (.mk 7 b i f t keys list) k = atR k keys list := by unfold at'; simp
  rw [this]
  cases atR k keys list with
  | none => rw [cell]
  | some x => rfl
theorem kind_coalR {v w : RV} {mg : Bool} {lv : Nat} (hv : kindOf v = 7) (hw : kindOf w = 7) (hG : Good w lv) : kindOf (coalR v mg w) = 7 := by
  obtain ⟨b, i, f, t, keys, list, rfl, hr, hl, _⟩ := good7 hw hG
  rw [coalR, if_neg (by decide), if_neg (by omega)]
  exact (at_coalL (dst := v) (mg := mg) ⟨#[]⟩ keys list v hv (rising_nodup hr) fun _ _ => rfl).2
/-- Keys that are not too long. -/
def KB : RV → Prop
  | .mk _ _ _ _ _ keys list => (∀ k ∈ keys, k.size ≤ 1125899906842624) ∧ ∀ j (h : j < list.length), KB list[j]
termination_by v => SizeOf.sizeOf v
decreasing_by
  have := List.sizeOf_lt_of_mem (List.getElem_mem h)
  simp
  omega
theorem KB.at {v u : RV} {s : ByteArray} (h : KB v) (hs : at' v s = some u) : KB u ∧ s.size ≤ 1125899906842624 := by
  obtain ⟨k, b, i, f, t, keys, list, rfl, h7, j, h1, h2, h3, rfl⟩ := at_some hs
  rw [KB] at h
  exact ⟨h.2 j h2, h.1 s (h3 ▸ List.getElem_mem h1)⟩
/-- What a value that is owned looks like. -/
theorem OV.cls {I : FP} {A : View} {v : RV} {x : Value} {F : FP} (h : OV I A v x F) : (kindOf v = 0 ∧ x = .nilIface) ∨ (kindOf v ≠ 0 ∧ kindOf v ≠ 7 ∧ ∃ t y, x = .iface t y ∧ t ≠ 63) ∨ (kindOf v = 7 ∧ ∃ r, x = .iface 63 (.map (some r)) ∧ TF I A r (at' v) F) := by
  by_cases h7 : kindOf v = 7
  · obtain ⟨r, h1, h2⟩ := h.tf h7
    exact .inr (.inr ⟨h7, r, h1, h2⟩)
  · rw [OV] at h
    rcases h with ⟨h1, D, h2, h3, h4⟩ | ⟨h1, _⟩
    · obtain ⟨k, b, i, f, t, keys, list⟩ := v
      rw [AnyV] at h4
      rcases h4 with ⟨rfl, rfl⟩ | ⟨rfl, rfl⟩ | ⟨rfl, rfl⟩ | ⟨rfl, rfl⟩ | ⟨rfl, rfl⟩ | ⟨rfl, sl, vals, rfl, _⟩ | ⟨rfl, _⟩
      · exact .inl ⟨rfl, rfl⟩
      · exact .inr (.inl ⟨by simp [kindOf], by simp [kindOf], _, _, rfl, by decide⟩)
      · exact .inr (.inl ⟨by simp [kindOf], by simp [kindOf], _, _, rfl, by decide⟩)
      · exact .inr (.inl ⟨by simp [kindOf], by simp [kindOf], _, _, rfl, by decide⟩)
      · exact .inr (.inl ⟨by simp [kindOf], by simp [kindOf], _, _, rfl, by decide⟩)
      · exact .inr (.inl ⟨by simp [kindOf], by simp [kindOf], _, _, rfl, by decide⟩)
      · simp [kindOf] at h7
    · exact absurd h1 h7
/-- Whether a value is a map. -/
def is63 : Value → Bool
  | .iface t _ => t == 63
  | _ => false
theorem OV.is63 {I : FP} {A : View} {v : RV} {x : Value} {F : FP} (h : OV I A v x F) : is63 x = decide (kindOf v = 7) := by
  rcases h.cls with ⟨h1, rfl⟩ | ⟨h1, h2, t, y, rfl, ht⟩ | ⟨h1, r, rfl, _⟩
  · simp [YtogfpbnbojhpoaaV.is63, h1]
  · simp [YtogfpbnbojhpoaaV.is63, h2, ht]
  · simp [YtogfpbnbojhpoaaV.is63, h1]
theorem OV.isNil {I : FP} {A : View} {v : RV} {x : Value} {F : FP} (h : OV I A v x F) : x = .nilIface ↔ kindOf v = 0 := by
  rcases h.cls with ⟨h1, rfl⟩ | ⟨h1, h2, t, y, rfl, ht⟩ | ⟨h1, r, rfl, _⟩
  · simp [h1]
  · simp [h1]
  · simp [h1]
end Go.Proofs.YtogfpbnbojhpoaaV

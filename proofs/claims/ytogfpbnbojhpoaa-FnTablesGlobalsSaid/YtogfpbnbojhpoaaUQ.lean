/- Tables: globals, in plain words. -/
import Derived.Test.YtogfpbnbojhpoaaUP
namespace Go.Proofs.YtogfpbnbojhpoaaV
open Go.RowKit
set_option linter.unusedSimpArgs false
set_option linter.unusedVariables false
def gkey : ByteArray := ⟨#[103, 108, 111, 98, 97, 108]⟩
/-- What is at a key of globals put over others. -/
def cellG : Option RV → Option RV → Option RV
  | x, none => x
  | none, some y => some y
  | some x, some y => if kindOf y = 7 ∧ kindOf x = 7 then some (coalR y true x) else if kindOf y = 7 ∨ kindOf x = 7 then some x else some y
def gS (out : RV) (s : ByteArray) (x : RV) : RV := match at' out s with
  | none => withR out s x
  | some y => if kindOf x = 7 ∧ kindOf y = 7 then withR out s (coalR x true y) else if kindOf x = 7 ∨ kindOf y = 7 then out else withR out s x
def gL (out : RV) : List ByteArray → List RV → RV
  | s :: ks, x :: xs => gL (gS out s x) ks xs
  | _, _ => out
theorem gL_nil (out : RV) (xs : List RV) : gL out [] xs = out := by unfold gL; rfl
theorem gL_cons (out : RV) (s : ByteArray) (x : RV) (ks : List ByteArray) (xs : List RV) : gL out (s :: ks) (x :: xs) = gL (gS out s x) ks xs := by rw [gL]
def gM (out : RV) : RV → RV
  | .mk _ _ _ _ _ keys list => gL out keys list
def gtab (o : Option RV) : RV := o.getD (tab [])
def globR (dst src : RV) : RV := if kindOf (gtab (at' dst gkey)) = 7 ∧ kindOf (gtab (at' src gkey)) = 7 then withR dst gkey (gM (gtab (at' dst gkey)) (gtab (at' src gkey))) else dst
theorem kind_gS {out : RV} {s : ByteArray} {x : RV} (h : kindOf out = 7) : kindOf (gS out s x) = 7 := by
  unfold gS
  split
  · rfl
  · split
    · rfl
    split
    · exact h
    · rfl
theorem at_gS {out : RV} {s : ByteArray} {x : RV} (h : kindOf out = 7) (k : ByteArray) : at' (gS out s x) k = if k = s then cellG (at' out s) (some x) else at' out k := by
  unfold gS
  cases hd : at' out s with
  | none =>
    simp only
    rw [at_with h]
    rfl
  | some y =>
    simp only [cellG]
    split
    · rw [at_with h]; rfl
    split
    · by_cases hk : k = s
      · rw [if_pos hk, hk, hd]
      · rw [if_neg hk]
    · rw [at_with h]; rfl
theorem at_gL (k : ByteArray) : ∀ (ks : List ByteArray) (xs : List RV) (out : RV), kindOf out = 7 → ks.Nodup → (at' (gL out ks xs) k = match atR k ks xs with | some x => cellG (at' out k) (some x) | none => at' out k) ∧ kindOf (gL out ks xs) = 7
  | [], xs, out, h, _ => by simp [gL_nil, atR, h]
  | s :: ks, [], out, h, _ => by
    have : gL out (s :: ks) [] = out := by unfold gL; rfl
    simp [this, atR, h]
  | s :: ks, x :: xs, out, h, hn => by
    rw [List.nodup_cons] at hn
    rw [gL_cons]
    obtain ⟨h1, h2⟩ := at_gL k ks xs (gS out s x) (kind_gS h) hn.2
    refine ⟨?_, h2⟩
    rw [h1, at_gS h]
    simp only [atR]
    by_cases hk : k = s
    · subst hk
      have : atR k ks xs = none := by
        cases hx : atR k ks xs with
        | none => rfl
        | some z =>
          obtain ⟨j, g1, g2, g3, _⟩ := atR_some hx
          exact absurd (g3 ▸ List.getElem_mem g1) hn.1
      rw [this]
      simp
    · have hk' : ¬ s = k := fun hx => hk hx.symm
      simp only [hk, hk', if_false]
theorem at_gM {v w : RV} {lv : Nat} (hv : kindOf v = 7) (hw : kindOf w = 7) (hG : Good w lv) (k : ByteArray) : at' (gM v w) k = cellG (at' v k) (at' w k) := by
  obtain ⟨b, i, f, t, keys, list, rfl, hr, hl, _⟩ := good7 hw hG
  rw [gM]
  rw [(at_gL k keys list v hv (rising_nodup hr)).1]
  have : at' (.mk 7 b i f t keys list) k = atR k keys list := by unfold at'; simp
  rw [this]
  cases atR k keys list with
  | none => rw [cellG]
  | some x => rfl
theorem kind_gM {v w : RV} {lv : Nat} (hv : kindOf v = 7) (hw : kindOf w = 7) (hG : Good w lv) : kindOf (gM v w) = 7 := by
  obtain ⟨b, i, f, t, keys, list, rfl, hr, hl, _⟩ := good7 hw hG
  rw [gM]
  exact (at_gL ⟨#[]⟩ keys list v hv (rising_nodup hr)).2
theorem good_gS {out x : RV} {s : ByteArray} {lv : Nat} (h7 : kindOf out = 7) (hG : Good out lv) (hx : Good x (lv - 1)) : Good (gS out s x) lv ∧ nodes (gS out s x) ≤ nodes out + nodes x := by
  unfold gS
  cases hdd : at' out s with
  | none => exact ⟨good_with h7 hG hx, by have := nodes_with (w := x) (s := s) h7 hG; simp only; omega⟩
  | some y =>
    simp only
    split
    · rename_i h
      obtain ⟨g1, g2⟩ := good_coalR true y x (lv - 1) h.1 h.2 hx (good_at hG hdd)
      refine ⟨good_with h7 hG g1, ?_⟩
      have := nodes_with (w := coalR x true y) (s := s) h7 hG
      rw [hdd] at this
      simp only at this
      omega
    split
    · exact ⟨hG, by omega⟩
    · exact ⟨good_with h7 hG hx, by have := nodes_with (w := x) (s := s) h7 hG; omega⟩
theorem good_gL {lv : Nat} : ∀ (ks : List ByteArray) (xs : List RV) (out : RV), kindOf out = 7 → Good out lv → (∀ x ∈ xs, Good x (lv - 1)) → Good (gL out ks xs) lv ∧ nodes (gL out ks xs) ≤ nodes out + (xs.map nodes).sum
  | [], xs, out, _, hG, _ => by rw [gL_nil]; exact ⟨hG, by omega⟩
  | s :: ks, [], out, _, hG, _ => by
    have : gL out (s :: ks) [] = out := by unfold gL; rfl
    rw [this]; exact ⟨hG, by omega⟩
  | s :: ks, x :: xs, out, h7, hG, hx => by
    obtain ⟨g1, g2⟩ := good_gS (s := s) h7 hG (hx x List.mem_cons_self)
    obtain ⟨g3, g4⟩ := good_gL ks xs (gS out s x) (kind_gS h7) g1 (fun z hz => hx z (List.mem_cons_of_mem _ hz))
    rw [gL_cons]
    refine ⟨g3, ?_⟩
    simp only [List.map_cons, List.sum_cons]
    omega
theorem good_gM {v w : RV} {lv : Nat} (hv : kindOf v = 7) (hG : Good v lv) (hG' : Good w lv) : Good (gM v w) lv ∧ nodes (gM v w) ≤ nodes v + nodes w := by
  obtain ⟨k, b, i, f, t, keys, list⟩ := w
  rw [Good] at hG'
  have hsub : ∀ z ∈ list, Good z (lv - 1) := fun z hz => by
    obtain ⟨j, hj, rfl⟩ := List.getElem_of_mem hz
    exact hG'.2.2.2.2 j hj
  obtain ⟨g1, g2⟩ := good_gL keys list v hv hG hsub
  refine ⟨g1, ?_⟩
  rw [gM, nodes_mk]
  omega
theorem good_tabnil {lv : Nat} (h : 0 < lv) : Good (tab []) lv := by
  unfold tab
  rw [Good]
  refine ⟨h, by decide, fun _ => by simp, ?_, fun j hj => absurd hj (Nat.not_lt_zero _)⟩
  right; right; right; right; right; right
  exact ⟨rfl, fun i hi => absurd hi (by simp), rfl⟩
end Go.Proofs.YtogfpbnbojhpoaaV

/- Tables: what is put together of keys and values, in slices that grow. -/
import Derived.Test.YtogfpbnbojhpoaaV11
import Derived.Test.YtogfpbnbojhpoaaTT
namespace Go.Proofs.YtogfpbnbojhpoaaV
open Go.RowKit
set_option linter.unusedSimpArgs false
set_option linter.unusedVariables false
abbrev KV := List (ByteArray × RV)
def tab (kv : KV) : RV := .mk 7 false 0 0 ⟨#[]⟩ (kv.map (·.1)) (kv.map (·.2))
def Chunks (D : View) (vs : List Value) (l : List RV) : Prop := ∀ i (h : i < l.length), ∃ ci : Array Value, (vs.drop (i * 7)).take 7 = ci.toList ∧ IsRV D l[i] ci
theorem Chunks.le {D D' : View} (h : D ≤ D') {vs : List Value} {l : List RV} (c : Chunks D vs l) : Chunks D' vs l := fun i hi => let ⟨ci, h1, h2⟩ := c i hi; ⟨ci, h1, h2.le h⟩
theorem Chunks.push {D : View} {vs : List Value} {l : List RV} {x : RV} {c : Array Value} (h : Chunks D vs l) (hl : vs.length = l.length * 7) (hc : IsRV D x c) : Chunks D (vs ++ c.toList) (l ++ [x]) := by
  intro i hi
  by_cases h1 : i < l.length
  · obtain ⟨ci, h2, h3⟩ := h i h1
    exact ⟨ci, by rw [td_left hl h1]; exact h2, by rw [List.getElem_append_left h1]; exact h3⟩
  · have h2 : i = l.length := by simp at hi; omega
    subst h2
    exact ⟨c, td_right hl (by rw [Array.length_toList]; exact hc.size), by simpa using hc⟩
/-- Keys and values in two slices that grow. -/
structure Grow (D0 D : View) (u1 u2 : Value) (kv : KV) (vs : List Value) : Prop where
  keys : Own D0 D 9 1 u1 kv.length ((kv.map (·.1)).map Value.string)
  vals : Own D0 D 27 7 u2 kv.length vs
  chunks : Chunks D0 vs (kv.map (·.2))
  disj : apart u1 u2
theorem Grow.nil (D0 D : View) : Grow D0 D nl nl [] [] := ⟨Own.nil _ _ _ _, Own.nil _ _ _ _, fun i h => absurd h (Nat.not_lt_zero _), apart_nil⟩
set_option maxRecDepth 20000 in
theorem app_text {D0 D : View} {L : List (Nat × Obj)} {u x : Value} {n : Nat} {ks : List ByteArray} {s : ByteArray} {K : Value → View → Prop} (hP : Priv D (addrs L)) (hO : Own D0 D 9 1 u n (ks.map Value.string)) (hD : D0 ≤ D)
    (hx : appended Try.prog (ov D L) 1 x = some ([.string s], 1)) (hs : isStr x = false) (hn : n ≤ 1000000)
    (k : ∀ v' D', D0 ≤ D' → Own D0 D' 9 1 v' (n + 1) ((ks ++ [s]).map Value.string) → eraseB D u ≤ eraseB D' v' → Priv D' (addrs L) → K v' (ov D' L)) : xappend Try.prog 24 24 u x (ov D L) K := by
  refine append_ov hP ti24 ti24 (fun k => by simp) ti9 rfl (by decide) hO hD hx (fun h => absurd (hs.symm.trans h) (by decide)) (fun v hv => by rw [List.mem_singleton] at hv; rw [hv]; rfl) (by omega) fun v' D' h1 h2 h3 h4 => k v' D' h1 (by simpa using h2) h3 h4
set_option maxRecDepth 20000 in
theorem app_val {D0 D : View} {L : List (Nat × Obj)} {u x : Value} {n : Nat} {vs : List Value} {w : RV} {c : Array Value} {K : Value → View → Prop} (hP : Priv D (addrs L)) (hO : Own D0 D 27 7 u n vs) (hD : D0 ≤ D)
    (hx : appended Try.prog (ov D L) 7 x = some (c.toList, 1)) (hc : IsRV D0 w c) (hs : isStr x = false) (hn : n ≤ 1000000)
    (k : ∀ v' D', D0 ≤ D' → Own D0 D' 27 7 v' (n + 1) (vs ++ c.toList) → eraseB D u ≤ eraseB D' v' → Priv D' (addrs L) → K v' (ov D' L)) : xappend Try.prog 25 25 u x (ov D L) K := by
  refine append_ov hP ti25 ti25 (fun k => by simp) ti27 rfl (by decide) hO hD hx (fun h => absurd (hs.symm.trans h) (by decide)) hc.one (by omega) k
/-- Both have grown. -/
theorem Grow.push {D0 D D1 D2 : View} {u1 u2 v1 v2 : Value} {kv : KV} {vs : List Value} {s : ByteArray} {x : RV} {c : Array Value} (h : Grow D0 D u1 u2 kv vs) (hc : IsRV D0 x c)
    (k1 : Own D0 D1 9 1 v1 (kv.length + 1) ((kv.map (·.1) ++ [s]).map Value.string)) (a1 : apart v1 u2) (k2 : Own D0 D2 27 7 v2 (kv.length + 1) (vs ++ c.toList)) (e2 : eraseB D1 u2 ≤ eraseB D2 v2) : Grow D0 D2 v1 v2 (kv ++ [(s, x)]) (vs ++ c.toList) := by
  obtain ⟨o1, o2⟩ := own_side k1 (apart_symm a1) e2
  refine ⟨by simpa using o1, by simpa using k2, ?_, apart_symm o2⟩
  rw [List.map_append]
  exact h.chunks.push (by have := h.vals.row.len; simpa using this) hc
theorem Grow.side {D0 D D1 : View} {u1 u2 v1 : Value} {kv : KV} {vs : List Value} (h : Grow D0 D u1 u2 kv vs) (e1 : eraseB D u1 ≤ eraseB D1 v1) : Own D0 D1 27 7 u2 kv.length vs ∧ apart v1 u2 := own_side h.vals h.disj e1
theorem Grow.isRV {D0 D : View} {u1 u2 : Value} {kv : KV} {vs : List Value} (h : Grow D0 D u1 u2 kv vs) (hD : D0 ≤ D) (hk : kv.length ≤ 9223372036854775807) (k : Int) (b : Bool) (i : Int) (f : Nat) (t : ByteArray) :
    IsRV D (.mk k b i f t (kv.map (·.1)) (kv.map (·.2))) (rvc k b i f t u1 u2) := by
  rw [IsRV]
  obtain ⟨bs, cp, hu⟩ := h.vals.shape
  refine ⟨_, _, rfl, ?_, by simpa using hk, ⟨bs, cp, by rw [List.length_map]; exact hu⟩, fun j hj => ?_⟩
  · have := h.keys.row
    unfold Texts
    rw [List.length_map]
    exact this
  · have hj' : j < kv.length := by simpa using hj
    obtain ⟨ci, h1, h2⟩ := h.chunks j hj
    obtain ⟨hs, ⟨rfl, h0⟩ | ⟨a, cap, rfl, hn⟩⟩ := h.vals
    · omega
    · obtain ⟨c, _, hsp, _, _, hcs⟩ := sliceIn_block hs
      obtain ⟨blk, off, sp⟩ := a
      simp only at hsp
      subst hsp
      refine ⟨_, cap, ci, by rw [List.length_map], ?_, h2.le hD⟩
      rw [← h1]
      exact cells_part hcs (by omega)
theorem Grow.slices {D0 D : View} {u1 u2 : Value} {kv : KV} {vs : List Value} (h : Grow D0 D u1 u2 kv vs) : (∃ b c, u1 = .slice b kv.length c) ∧ ∃ b c, u2 = .slice b kv.length c := ⟨h.keys.shape, h.vals.shape⟩
theorem Grow.slices1 {D0 D : View} {u1 u2 : Value} {kv : KV} {p : ByteArray × RV} {vs : List Value} (h : Grow D0 D u1 u2 (kv ++ [p]) vs) : (∃ b c, u1 = .slice b (kv.length + 1) c) ∧ ∃ b c, u2 = .slice b (kv.length + 1) c := by
  have := h.slices
  simpa using this
theorem Grow.ones1 {D0 D : View} {u1 u2 : Value} {kv : KV} {vs : List Value} (h : Grow D0 D u1 u2 kv vs) : one u1 = true ∧ one u2 = true := by
  obtain ⟨⟨b, c, rfl⟩, ⟨b', c', rfl⟩⟩ := h.slices
  exact ⟨rfl, rfl⟩
theorem Grow.base {D0 D0' D : View} {u1 u2 : Value} {kv : KV} {vs : List Value} (h : Grow D0 D u1 u2 kv vs) (hk : Keep D0 D D0' D) (hD : D0 ≤ D0') : Grow D0' D u1 u2 kv vs :=
  ⟨own_move h.keys fun k o a _ c => hk k o a c, own_move h.vals fun k o a _ c => hk k o a c, h.chunks.le hD, h.disj⟩
theorem Grow.move {D0 D0' D D' : View} {u1 u2 : Value} {kv : KV} {vs : List Value} (h : Grow D0 D u1 u2 kv vs) (hk : Keep D0 D D0' D') (hD : D0 ≤ D0') : Grow D0' D' u1 u2 kv vs :=
  ⟨own_move h.keys fun k o a _ c => hk k o a c, own_move h.vals fun k o a _ c => hk k o a c, h.chunks.le hD, h.disj⟩
theorem Grow.le {D0 D D' : View} {u1 u2 : Value} {kv : KV} {vs : List Value} (h : Grow D0 D u1 u2 kv vs) (hD : D ≤ D') : Grow D0 D' u1 u2 kv vs := ⟨h.keys.le hD, h.vals.le hD, h.chunks, h.disj⟩
theorem IsRV.ones {A : View} {v : RV} {c : Array Value} (h : IsRV A v c) : ones c = true := List.all_eq_true.2 h.one
/-! ## With, Without -/
def geB (a b : ByteArray) : Bool := !Op.bytesLess a.toList b.toList
def wgo (s : ByteArray) (w : RV) : Bool → KV → KV
  | d, [] => if d then [] else [(s, w)]
  | d, (k, x) :: r => (if !d && geB k s then [(s, w)] else []) ++ (if k = s then [] else [(k, x)]) ++ wgo s w (d || geB k s) r
/-- What lies in a table. -/
def kvs : RV → KV
  | .mk _ _ _ _ _ keys list => keys.zip list
/-- As many keys as values, and not too many. -/
def Pl : RV → Prop
  | .mk _ _ _ _ _ keys list => keys.length = list.length ∧ list.length ≤ 100000
def withR (v : RV) (s : ByteArray) (w : RV) : RV := tab (wgo s w false (kvs v))
def lessR (v : RV) (s : ByteArray) : RV := tab ((kvs v).filter fun p => p.1 ≠ s)
end Go.Proofs.YtogfpbnbojhpoaaV

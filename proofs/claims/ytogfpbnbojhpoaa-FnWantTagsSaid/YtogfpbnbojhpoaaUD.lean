/- Tables: what is put together of two tables, in plain words. -/
import Derived.Test.YtogfpbnbojhpoaaUC
namespace Go.Proofs.YtogfpbnbojhpoaaV
open Go.RowKit
set_option linter.unusedSimpArgs false
set_option linter.unusedVariables false
def lenR : RV → Nat
  | .mk _ _ _ _ _ _ list => list.length
mutual
def coalR (dst : RV) (mg : Bool) : RV → RV
  | .mk k b i f t keys list => if k = 0 then dst else if kindOf dst = 0 then .mk k b i f t keys list else coalL dst mg dst keys list
def coalL (dst : RV) (mg : Bool) (out : RV) : List ByteArray → List RV → RV
  | s :: ks, x :: xs => coalL dst mg (match at' dst s with
      | none => withR out s x
      | some y => if kindOf y = 0 ∧ kindOf x = 0 then out else if kindOf y = 0 ∧ mg = false then lessR out s else if kindOf y = 7 ∧ kindOf x = 7 then withR out s (coalR y mg x) else out) ks xs
  | _, _ => out
end
def coalS (dst : RV) (mg : Bool) (out : RV) (s : ByteArray) (x : RV) : RV := match at' dst s with
  | none => withR out s x
  | some y => if kindOf y = 0 ∧ kindOf x = 0 then out else if kindOf y = 0 ∧ mg = false then lessR out s else if kindOf y = 7 ∧ kindOf x = 7 then withR out s (coalR y mg x) else out
theorem coalL_cons (dst : RV) (mg : Bool) (out : RV) (s : ByteArray) (x : RV) (ks : List ByteArray) (xs : List RV) : coalL dst mg out (s :: ks) (x :: xs) = coalL dst mg (coalS dst mg out s x) ks xs := by
  rw [coalL]; rfl
theorem coalL_nil (dst : RV) (mg : Bool) (out : RV) (xs : List RV) : coalL dst mg out [] xs = out := by
  unfold coalL; rfl
theorem wgo_len (s : ByteArray) (w : RV) : ∀ (d : Bool) (kv : KV), (wgo s w d kv).length ≤ kv.length + (if d then 0 else 1)
  | d, [] => by cases d <;> simp [wgo]
  | d, (k, x) :: r => by
    have h := wgo_len s w (d || geB k s) r
    simp only [wgo, List.length_append, List.length_cons]
    cases d <;> cases hg : geB k s <;> simp [hg] at h ⊢ <;> split <;> simp <;> omega
theorem kvs_len (v : RV) : (kvs v).length ≤ lenR v := by
  obtain ⟨k, b, i, f, t, keys, list⟩ := v
  simp only [kvs, lenR, List.length_zip]
  omega
theorem lenR_tab (kv : KV) : lenR (tab kv) = kv.length := by simp [tab, lenR]
theorem lenR_with (v : RV) (s : ByteArray) (w : RV) : lenR (withR v s w) ≤ lenR v + 1 := by
  have h1 := wgo_len s w false (kvs v)
  have h2 := kvs_len v
  unfold withR
  rw [lenR_tab]
  simp at h1
  omega
theorem lenR_less (v : RV) (s : ByteArray) : lenR (lessR v s) ≤ lenR v := by
  have h2 := kvs_len v
  have h1 := List.length_filter_le (fun p : ByteArray × RV => decide (p.1 ≠ s)) (kvs v)
  unfold lessR
  rw [lenR_tab]
  omega
theorem pl_tab {kv : KV} (h : kv.length ≤ 100000) : Pl (tab kv) := ⟨by simp, by simpa using h⟩
theorem pl_with {v : RV} {s : ByteArray} {w : RV} (h : lenR v + 1 ≤ 100000) : Pl (withR v s w) := pl_tab (by have := lenR_with v s w; unfold withR at this; rw [lenR_tab] at this; omega)
theorem pl_less {v : RV} {s : ByteArray} (h : lenR v ≤ 100000) : Pl (lessR v s) := pl_tab (by have := lenR_less v s; unfold lessR at this; rw [lenR_tab] at this; omega)
theorem good_pl {v : RV} {lv : Nat} (h7 : kindOf v = 7) (hG : Good v lv) (hn : lenR v ≤ 100000) : Pl v := by
  obtain ⟨k, b, i, f, t, keys, list⟩ := v
  simp only [kindOf] at h7
  subst h7
  rw [Good] at hG
  obtain ⟨hlv, hk6, hk7, hkk, hGs⟩ := hG
  refine ⟨?_, hn⟩
  rcases hkk with h | h | h | h | ⟨h, _⟩ | h | ⟨_, _, h⟩
  iterate 6 exact absurd h (by decide)
  exact h
theorem lenR_nodes (v : RV) : lenR v + 1 ≤ nodes v := by
  obtain ⟨k, b, i, f, t, keys, list⟩ := v
  rw [nodes_mk]
  have h6 := S_ge list list.length (by omega)
  rw [S_all] at h6
  simp only [lenR]
  omega
theorem lenR_coalS (dst : RV) (mg : Bool) (out : RV) (s : ByteArray) (x : RV) : lenR (coalS dst mg out s x) ≤ lenR out + 1 := by
  unfold coalS
  split
  · exact lenR_with _ _ _
  · split
    · omega
    split
    · have := lenR_less out s; omega
    split
    · exact lenR_with _ _ _
    · omega
theorem pl_coalS {dst : RV} {mg : Bool} {out : RV} {s : ByteArray} {x : RV} (h : Pl out) (hl : lenR out + 1 ≤ 100000) : Pl (coalS dst mg out s x) := by
  unfold coalS
  split
  · exact pl_with hl
  · split
    · exact h
    split
    · exact pl_less (by omega)
    split
    · exact pl_with hl
    · exact h
theorem IsRV.kind {A : View} {v : RV} {c : Array Value} (h : IsRV A v c) : c[0]? = some (.int .i64 (kindOf v)) := by
  obtain ⟨k, b, i, f, t, keys, list⟩ := v
  rw [IsRV] at h
  obtain ⟨ks, ls, rfl, _⟩ := h
  rfl
theorem IsRV.kind1 {A : View} {v : RV} {c : Array Value} (h : IsRV A v c) : ∀ p : 0 < c.size, c[0]'p = .int .i64 (kindOf v) := fun p => by
  have := h.kind
  rw [Array.getElem?_eq_getElem p, Option.some.injEq] at this
  exact this
theorem kind_cell {A : View} {a : Addr} {v : RV} {c : Array Value} (h : IsRV A v c) (hc : A.cells? a 0 7 = some c.toList) : A.cell? a = some (.int .i64 (kindOf v)) := by
  have := cells?_get _ _ _ hc 0 (by omega)
  rw [Nat.zero_add, add_zero] at this
  rw [this]
  have h1 := h.kind
  rwa [← Array.getElem?_toList] at h1
end Go.Proofs.YtogfpbnbojhpoaaV

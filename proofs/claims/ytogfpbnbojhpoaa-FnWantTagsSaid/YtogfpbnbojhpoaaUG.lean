/- Tables: what is owned is known. -/
import Derived.Test.YtogfpbnbojhpoaaUF
namespace Go.Proofs.YtogfpbnbojhpoaaV
open Go.RowKit
set_option linter.unusedSimpArgs false
set_option linter.unusedVariables false
theorem mEnt_eq : mEnt = ent := by
  funext e
  simp only [mEnt, ent]
  cases e.key <;> rfl
/-- A map that is a function is a list of what it holds, in any order. -/
theorem MF.mapP {A : View} {r : Nat} {o : Obj} {f : FV} (hA : A r = some o) (h : MF o f) {kv : List (ByteArray × Value)} (hd : kv.Pairwise (fun a b => a.1 ≠ b.1)) (hk : ∀ k v, (k, v) ∈ kv ↔ f k = some v) : MapP A r kv := by
  obtain ⟨es, c, h1, h2, h3, h4, h5, h6⟩ := h
  refine ⟨es, c, by rw [hA, h1], h2, ?_, h4, h5⟩
  rw [← mEnt_eq]
  have nd : ∀ l : List (ByteArray × Value), l.Pairwise (fun a b => a.1 ≠ b.1) → l.Nodup := fun l hl => hl.imp fun hx hy => hx (by rw [hy])
  refine (List.perm_ext_iff_of_nodup (nd _ h3) (nd _ hd)).2 fun p => ?_
  obtain ⟨k, v⟩ := p
  rw [← lk_iff es.toList h2 h3, h6, hk]
theorem MapP.mf {A : View} {r : Nat} {kv : List (ByteArray × Value)} (h : MapP A r kv) (hd : kv.Pairwise (fun a b => a.1 ≠ b.1)) : ∃ o f, A r = some o ∧ MF o f ∧ ∀ k v, (k, v) ∈ kv ↔ f k = some v := by
  obtain ⟨es, c, h1, h2, h3, h4, h5⟩ := h
  rw [← mEnt_eq] at h3
  have hd' := h3.symm.pairwise hd (fun {a b} hx hy => hx hy.symm)
  exact ⟨_, _, h1, ⟨es, c, rfl, h2, hd', h4, h5, fun _ => rfl⟩, fun k v => by rw [lk_iff es.toList h2 hd']; exact h3.symm.mem_iff⟩
theorem at_rising {k : Int} {b : Bool} {i : Int} {f : Nat} {t : ByteArray} {keys : List ByteArray} {list : List RV} (hr : Rising keys) (hl : keys.length = list.length) {j : Nat} (hj : j < keys.length) :
    at' (.mk 7 b i f t keys list) keys[j] = some (list[j]'(by omega)) := by
  unfold at'
  simp only [if_true]
  exact atR_here hj (by omega) (fun i hi hij hx => rising_ne hr hj hij hx) rfl
theorem good7 {v : RV} {lv : Nat} (h7 : kindOf v = 7) (hG : Good v lv) : ∃ b i f t keys list, v = .mk 7 b i f t keys list ∧ Rising keys ∧ keys.length = list.length ∧ 0 < lv := by
  obtain ⟨k, b, i, f, t, keys, list⟩ := v
  simp only [kindOf] at h7
  subst h7
  rw [Good] at hG
  obtain ⟨hlv, hk6, hk7, hkk, hGs⟩ := hG
  have : Rising keys ∧ keys.length = list.length := by
    rcases hkk with h | h | h | h | ⟨h, _⟩ | h | ⟨_, h⟩
    iterate 6 exact absurd h (by decide)
    exact h
  exact ⟨b, i, f, t, keys, list, rfl, this.1, this.2, hlv⟩
theorem OV.any {I : FP} {A : View} : ∀ (v : RV) (x : Value) (F : FP) (lv : Nat), OV I A v x F → Good v lv → AnyV A v x := by
  intro v
  induction hn : SizeOf.sizeOf v using Nat.strongRecOn generalizing v with
  | _ n ih =>
  intro x F lv h hG
  rw [OV] at h
  rcases h with ⟨h1, D, h2, h3, h4⟩ | ⟨h7, r, o, f, Fk, rfl, h2, h3, h4, h5, h6, h8, h9⟩
  · exact h4.le h2
  · obtain ⟨b, i, f', t, keys, list, rfl, hr, hl, hlv⟩ := good7 h7 hG
    have each : ∀ j (h : j < keys.length), ∃ y, f keys[j] = some y ∧ AnyV A (list[j]'(by omega)) y := fun j hj => by
      have hat := at_rising (b := b) (i := i) (f := f') (t := t) (k := 7) hr hl hj
      obtain ⟨y, g1, g2⟩ := h9 _ _ hat
      exact ⟨y, g1, ih _ (by rw [← hn]; exact at_size hat) _ rfl y _ (lv - 1) g2 (good_at hG hat)⟩
    rw [AnyV]
    refine .inr (.inr (.inr (.inr (.inr (.inr ⟨rfl, r, keys.map fun k => (f k).getD .nilIface, rfl, ?_, by simp, fun j hj => ?_⟩)))))
    · refine h4.mapP h3 (zip_distinct hr) fun k v => ?_
      constructor
      · intro hm
        obtain ⟨j, hj, he⟩ := List.getElem_of_mem hm
        rw [List.getElem_zip, List.getElem_map] at he
        have hj' : j < keys.length := by simpa using hj
        obtain ⟨y, g1, _⟩ := each j hj'
        simp only [Prod.mk.injEq] at he
        obtain ⟨rfl, rfl⟩ := he
        rw [g1]; rfl
      · intro hf
        have hne : at' (.mk 7 b i f' t keys list) k ≠ none := fun hx => by rw [h8 k hx] at hf; cases hf
        obtain ⟨u, hu⟩ := Option.ne_none_iff_exists'.1 hne
        obtain ⟨k', b', i', f'', t', keys', list', e1, e2, j, g1, g2, g3, g4⟩ := at_some hu
        simp only [RV.mk.injEq] at e1
        obtain ⟨-, -, -, -, -, rfl, rfl⟩ := e1
        rw [List.mem_iff_getElem]
        refine ⟨j, by simp; omega, ?_⟩
        rw [List.getElem_zip, List.getElem_map]
        rw [g3, hf]; rfl
    · obtain ⟨y, g1, g2⟩ := each j (by omega)
      exact ⟨y, by rw [List.getElem?_map, List.getElem?_eq_getElem (by omega)]; simp [g1], g2⟩
theorem OV.one {I : FP} {A : View} {v : RV} {x : Value} {F : FP} (h : OV I A v x F) : one x = true := by
  rw [OV] at h
  rcases h with ⟨h1, D, h2, h3, h4⟩ | ⟨h7, r, o, f, Fk, rfl, _⟩
  · exact h4.one
  · rfl
theorem OV.iface {I : FP} {A : View} {v : RV} {x : Value} {F : FP} (h : OV I A v x F) : x = .nilIface ∨ ∃ t y, x = .iface t y := by
  rw [OV] at h
  rcases h with ⟨h1, D, h2, h3, h4⟩ | ⟨h7, r, o, f, Fk, rfl, _⟩
  · exact h4.iface
  · exact .inr ⟨_, _, rfl⟩
theorem OV.cells {I : FP} {A : View} {v : RV} {x : Value} {F : FP} (h : OV I A v x F) : x.cells = #[x] := by
  rcases h.iface with rfl | ⟨t, y, rfl⟩ <;> rfl
end Go.Proofs.YtogfpbnbojhpoaaV

/- Charts: dependencies of the package's own, in blocks of their own. -/
import Derived.Test.YtogfpbnbojhpoaaWD
namespace Go.Proofs.YtogfpbnbojhpoaaV
open Go.RowKit
set_option linter.unusedSimpArgs false
set_option linter.unusedVariables false
def childK : ByteArray := ⟨#[99, 104, 105, 108, 100]⟩
def parentK : ByteArray := ⟨#[112, 97, 114, 101, 110, 116]⟩
/-- An import as the package has it. -/
def IsImpV (A : View) (i : Imp) (x : Value) : Prop :=
  (i.pair = false ∧ x = .iface 9 (.string i.name)) ∨ (i.pair = true ∧ ∃ m o f, x = .iface 63 (.map (some m)) ∧ A m = some o ∧ MF o f ∧ f childK = some (.iface 9 (.string i.child)) ∧ f parentK = some (.iface 9 (.string i.parent)))
def ImpVs (A : View) (v : Value) (l : List Imp) : Prop := ∃ cs, Row A 1 v l.length cs ∧ ∀ j (h : j < l.length), ∃ x, cs[j]? = some x ∧ IsImpV A l[j] x
abbrev dc (n v c a : ByteArray) (tg : Value) (e : Bool) (iv : Value) : Array Value := #[.string n, .string v, .string ⟨#[]⟩, .string c, tg, .bool e, iv, .string a]
def IsDep (A : View) (w : Wt) (c : Array Value) : Prop := ∃ tg iv, c = dc w.name w.ver w.cond w.alias tg w.en iv ∧ Texts A tg w.tags ∧ ImpVs A iv w.imps
/-- A view without some blocks. -/
def Er (D : View) (ps : List Nat) : View := fun b => if b ∈ ps then none else D b
structure Deps (D : View) (ps : List Nat) (ws : List Wt) : Prop where
  len : ps.length = ws.length
  nd : ps.Nodup
  dep : ∀ j (h : j < ps.length), ∃ c, D ps[j] = some (.cells c 95 (0, 0)) ∧ IsDep (Er D ps) (ws[j]'(by omega)) c
theorem IsImpV.le {A B : View} (h : A ≤ B) {i : Imp} {x : Value} (e : IsImpV A i x) : IsImpV B i x := by
  rcases e with e | ⟨h1, m, o, f, h2, h3, h4⟩
  · exact .inl e
  · exact .inr ⟨h1, m, o, f, h2, h _ _ h3, h4⟩
theorem ImpVs.le {A B : View} (h : A ≤ B) {v : Value} {l : List Imp} (e : ImpVs A v l) : ImpVs B v l := by
  obtain ⟨cs, h1, h2⟩ := e
  exact ⟨cs, h1.le h, fun j hj => let ⟨x, g1, g2⟩ := h2 j hj; ⟨x, g1, g2.le h⟩⟩
theorem IsDep.le {A B : View} (h : A ≤ B) {w : Wt} {c : Array Value} (e : IsDep A w c) : IsDep B w c := let ⟨tg, iv, h1, h2, h3⟩ := e; ⟨tg, iv, h1, h2.le h, h3.le h⟩
theorem Er.le {D D' : View} (h : D ≤ D') (ps : List Nat) : Er D ps ≤ Er D' ps := fun b o hb => by
  unfold Er at hb ⊢
  split at hb
  · cases hb
  · rename_i hn; rw [if_neg hn]; exact h b o hb
theorem Er.sub (D : View) (ps : List Nat) : Er D ps ≤ D := fun b o hb => by
  unfold Er at hb
  split at hb
  · cases hb
  · exact hb
theorem Er.set {D : View} {ps : List Nat} {p : Nat} (hp : p ∈ ps) (o : Obj) : Er (D.set p o) ps = Er D ps := by
  funext b
  unfold Er
  split
  · rfl
  · rename_i hn
    exact set_other (fun hx => hn (hx ▸ hp))
theorem Deps.nil (D : View) : Deps D [] [] := ⟨rfl, List.nodup_nil, fun j h => absurd h (Nat.not_lt_zero _)⟩
theorem Deps.le {D D' : View} {ps : List Nat} {ws : List Wt} (h : Deps D ps ws) (hle : D ≤ D') : Deps D' ps ws :=
  ⟨h.len, h.nd, fun j hj => let ⟨c, g1, g2⟩ := h.dep j hj; ⟨c, hle _ _ g1, g2.le (Er.le hle ps)⟩⟩
theorem Deps.push {D D' : View} {ps : List Nat} {ws : List Wt} {p : Nat} {w : Wt} {c : Array Value} (h : Deps D ps ws) (hle : D ≤ D') (hp : D p = none) (hc : D' p = some (.cells c 95 (0, 0))) (hd : IsDep (Er D' (ps ++ [p])) w c) : Deps D' (ps ++ [p]) (ws ++ [w]) := by
  have hno : p ∉ ps := fun hx => by
    obtain ⟨j, hj, e⟩ := List.getElem_of_mem hx
    obtain ⟨c', g1, _⟩ := h.dep j hj
    rw [e, hp] at g1; cases g1
  have hE : Er D ps ≤ Er D' (ps ++ [p]) := fun b o hb => by
    unfold Er at hb ⊢
    split at hb
    · cases hb
    · rename_i hn
      rw [if_neg]
      · exact hle _ _ hb
      · rw [List.mem_append, List.mem_singleton]
        rintro (hx | hx)
        · exact hn hx
        · rw [hx, hp] at hb; cases hb
  refine ⟨by simp [h.len], ?_, fun j hj => ?_⟩
  · rw [List.nodup_append]
    refine ⟨h.nd, by simp, fun a ha b hb => ?_⟩
    rw [List.mem_singleton] at hb
    exact fun hx => hno (by rw [← hb, ← hx]; exact ha)
  · by_cases h1 : j < ps.length
    · obtain ⟨c', g1, g2⟩ := h.dep j h1
      have h2 : j < ws.length := by rw [← h.len]; exact h1
      refine ⟨c', ?_, ?_⟩
      · rw [List.getElem_append_left h1]; exact hle _ _ g1
      · rw [List.getElem_append_left h2]; exact g2.le hE
    · have h2 : j = ps.length := by simp at hj; omega
      subst h2
      refine ⟨c, by simpa using hc, ?_⟩
      have h3 := h.len
      have : (ws ++ [w])[ps.length]'(by simp; omega) = w := by simp [h3]
      rw [this]
      exact hd
theorem Deps.put {D : View} {ps : List Nat} {ws : List Wt} {j : Nat} (h : Deps D ps ws) (hj : j < ps.length) (hj2 : j < ws.length) {c : Array Value} {w : Wt} (hc : IsDep (Er D ps) w c) : Deps (D.set ps[j] (.cells c 95 (0, 0))) ps (ws.set j w) := by
  refine ⟨by simp [h.len], h.nd, fun i hi => ?_⟩
  rw [Er.set (List.getElem_mem hj)]
  by_cases hij : i = j
  · subst hij
    exact ⟨c, set_at _ _ _, by simpa using hc⟩
  · obtain ⟨c', g1, g2⟩ := h.dep i hi
    have hne : ps[i] ≠ ps[j] := by
      have hnd := h.nd
      rw [List.nodup_iff_pairwise_ne, List.pairwise_iff_getElem] at hnd
      rcases Nat.lt_or_gt_of_ne hij with h1 | h1
      · exact hnd i j hi hj h1
      · exact (hnd j i hj hi h1).symm
    refine ⟨c', by rw [set_other hne]; exact g1, ?_⟩
    rw [List.getElem_set_ne (fun hx => hij hx.symm)]
    exact g2
/-- What is new in a view. -/
def Diff (D D' : View) : View := fun b => match D b with
  | none => D' b
  | some _ => none
theorem Diff.sub (D D' : View) : Diff D D' ≤ D' := fun b o h => by
  unfold Diff at h
  split at h
  · exact h
  · cases h
theorem Diff.at' {D D' : View} {b : Nat} {o : Obj} (h1 : D b = none) (h2 : D' b = some o) : Diff D D' b = some o := by
  unfold Diff; rw [h1]; exact h2
theorem Diff.of {D D' : View} {b : Nat} {o : Obj} (h : Diff D D' b = some o) : D b = none ∧ D' b = some o := by
  unfold Diff at h
  split at h
  · rename_i h1; exact ⟨h1, h⟩
  · cases h
theorem Diff.le {D E D' : View} (h : E ≤ D') : Diff D E ≤ Diff D D' := fun b o hb => Diff.at' (Diff.of hb).1 (h b o (Diff.of hb).2)
theorem Diff.low {D D1 D' : View} (h : D ≤ D1) : Diff D1 D' ≤ Diff D D' := fun b o hb => Diff.at' (none_le h (Diff.of hb).1) (Diff.of hb).2
theorem Own.diff {D D' : View} {e : TypeId} {size n : Nat} {u : Value} {cs : List Value} (h : Own D D' e size u n cs) : Row (Diff D D') size u n cs :=
  (own_move (D' := D) (B' := Diff D D') h fun k o a _ c => ⟨a, Diff.at' a c⟩).row
theorem own_block {A0 A : View} {e : TypeId} {size n : Nat} {u : Value} {cs : List Value} (h : Own A0 A e size u n cs) {b : Nat} (hb : A b = none) : blockOf u ≠ some b := by
  obtain ⟨h1, ⟨rfl, rfl⟩ | ⟨a, cap, rfl, hn⟩⟩ := h
  · simp [blockOf]
  · obtain ⟨c', h3, _⟩ := sliceIn_block h1
    intro hx
    simp only [blockOf, Option.some.injEq] at hx
    rw [hx, hb] at h3
    cases h3
/-- What is new lies beside the blocks that turn, and beside an owned slice. -/
theorem Diff.er {A0 D E D4 : View} {e : TypeId} {size n : Nat} {u : Value} {cs : List Value} {ps : List Nat} {p : Nat} (hu : Own A0 D e size u n cs) (hps : ∀ q ∈ ps, D q ≠ none) (hp : E p = none) (hle : E ≤ D4) : Diff D E ≤ Er (eraseB D4 u) (ps ++ [p]) := fun b o hb => by
  obtain ⟨h1, h2⟩ := Diff.of hb
  unfold Er
  rw [if_neg]
  · rw [eraseB_apart (own_block hu h1)]
    exact hle _ _ h2
  · rw [List.mem_append, List.mem_singleton]
    rintro (hx | hx)
    · exact hps b hx h1
    · rw [hx, hp] at h2; cases h2
theorem Deps.in' {D : View} {ps : List Nat} {ws : List Wt} (h : Deps D ps ws) : ∀ q ∈ ps, D q ≠ none := fun q hq => by
  obtain ⟨j, hj, rfl⟩ := List.getElem_of_mem hq
  obtain ⟨c, g1, _⟩ := h.dep j hj
  rw [g1]; simp
end Go.Proofs.YtogfpbnbojhpoaaV

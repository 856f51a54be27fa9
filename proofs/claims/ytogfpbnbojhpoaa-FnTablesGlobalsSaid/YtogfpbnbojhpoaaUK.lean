/- Tables: a table that another one is put into, half-way. -/
import Derived.Test.YtogfpbnbojhpoaaUJ
namespace Go.Proofs.YtogfpbnbojhpoaaV

open Go.RowKit
set_option linter.unusedSimpArgs false
set_option linter.unusedVariables false
abbrev TD := List (ByteArray × Value)
def Out (A A' : View) (F1 F2 : FP) : Prop := ∀ b o, A b = some o → ¬ F1 b → ¬ F2 b → A' b = some o
instance decBA (k : ByteArray) (l : List ByteArray) : Decidable (k ∈ l) := decidable_of_iff (l.any (fun a => decide (a = k)) = true) (by simp)
abbrev Cell := Option RV → Option RV → Option RV
def gcur (v w : RV) (C : Cell) (todo : TD) : ByteArray → Option RV := fun k => if k ∈ todo.map Prod.fst then at' v k else C (at' v k) (at' w k)
/-- What does not change. -/
structure Stat (I : FP) (A : View) (v w : RV) (r1 r2 : Nat) (F1 F2 : FP) (f1 f2 : FV) (Fk : ByteArray → FP) : Prop where
  disj : ∀ b, F1 b → ¬ F2 b
  dom1 : ∀ b, F1 b → A b ≠ none
  dom2 : ∀ b, F2 b → A b ≠ none
  in1 : F1 r1
  imm1 : ∀ b, F1 b → ¬ I b
  imm2 : ∀ b, F2 b → ¬ I b
  immA : ∀ b, I b → A b ≠ none
  in2 : F2 r2
  sub : ∀ k b, Fk k b → F2 b ∧ b ≠ r2
  pair : ∀ k k' b, k ≠ k' → Fk k b → ¬ Fk k' b
  w0 : ∀ k, at' w k = none → f2 k = none
  v0 : ∀ k, at' v k = none → f1 k = none
  v1 : ∀ k x, at' v k = some x → ∃ y, f1 k = some y ∧ (y = .nilIface ↔ kindOf x = 0)
  w1 : ∀ k x, at' w k = some x → ∃ y, f2 k = some y ∧ (y = .nilIface ↔ kindOf x = 0)
structure Half (I : FP) (A : View) (v w : RV) (C : Cell) (r1 r2 : Nat) (F1 F2 : FP) (o2 : Obj) (f2 : FV) (Fk : ByteArray → FP) (todo : TD) (D : View) (F : FP) : Prop where
  d2 : D r2 = some o2
  t : TF I D r1 (gcur v w C todo) F
  fd : ∀ p ∈ todo, ∀ b, Fk p.1 b → ¬ F b
  fr : ¬ F r2
  fs : ∀ b, F b → (F1 b ∨ F2 b ∨ A b = none) ∧ D b ≠ none
  ch : ∀ p ∈ todo, ∀ u, at' w p.1 = some u → ∃ y, f2 p.1 = some y ∧ OV I D u y (Fk p.1)
  out : Out A D F1 F2
  dom : ∀ b, A b ≠ none → D b ≠ none
section
variable {I : FP} {A : View} {v w : RV} {C : Cell} {r1 r2 : Nat} {F1 F2 : FP} {o2 : Obj} {f1 f2 : FV} {Fk : ByteArray → FP} {todo rest : TD} {k : ByteArray} {val : Value} {D : View} {F : FP}
theorem Half.le {D' : View} (h : Half I A v w C r1 r2 F1 F2 o2 f2 Fk todo D F) (hle : D ≤ D') : Half I A v w C r1 r2 F1 F2 o2 f2 Fk todo D' F :=
  ⟨hle _ _ h.d2, h.t.le hle, h.fd, h.fr, fun b hb => ⟨(h.fs b hb).1, fun hz => (h.fs b hb).2 (none_le hle hz)⟩, fun p hp u hu => let ⟨y, a, b⟩ := h.ch p hp u hu; ⟨y, a, b.le hle⟩, fun b o a c d => hle _ _ (h.out b o a c d), fun b hb hz => h.dom b hb (none_le hle hz)⟩
theorem Half.nI (hS : Stat I A v w r1 r2 F1 F2 f1 f2 Fk) (h : Half I A v w C r1 r2 F1 F2 o2 f2 Fk todo D F) : ∀ b, F b → ¬ I b := fun b hb hi => by
  rcases (h.fs b hb).1 with g | g | g
  · exact hS.imm1 b g hi
  · exact hS.imm2 b g hi
  · exact hS.immA b hi g
theorem mem_rest (hp : todo.Perm ((k, val) :: rest)) {p : ByteArray × Value} (h : p ∈ rest) : p ∈ todo := hp.symm.subset (List.mem_cons_of_mem _ h)
theorem mem_here (hp : todo.Perm ((k, val) :: rest)) : (k, val) ∈ todo := hp.symm.subset List.mem_cons_self
theorem nd_rest (hp : todo.Perm ((k, val) :: rest)) (hd : todo.Pairwise fun a b => a.1 ≠ b.1) : (rest.Pairwise fun a b => a.1 ≠ b.1) ∧ ∀ p ∈ rest, p.1 ≠ k := by
  have := hp.pairwise hd (fun {a b} hx hy => hx hy.symm)
  rw [List.pairwise_cons] at this
  exact ⟨this.2, fun p hp hx => this.1 p hp hx.symm⟩
theorem keys_rest (hp : todo.Perm ((k, val) :: rest)) (hd : todo.Pairwise fun a b => a.1 ≠ b.1) (a : ByteArray) : (a ∈ todo.map Prod.fst ↔ a = k ∨ a ∈ rest.map Prod.fst) ∧ k ∉ rest.map Prod.fst := by
  refine ⟨?_, fun h => ?_⟩
  · have := (hp.map Prod.fst).mem_iff (a := a)
    rw [this]
    simp
  · obtain ⟨p, hp', rfl⟩ := List.mem_map.1 h
    exact (nd_rest hp hd).2 p hp' rfl
theorem gcur_rest (hp : todo.Perm ((k, val) :: rest)) (hd : todo.Pairwise fun a b => a.1 ≠ b.1) (a : ByteArray) : gcur v w C rest a = if a = k then C (at' v k) (at' w k) else gcur v w C todo a := by
  obtain ⟨h1, h2⟩ := keys_rest hp hd a
  unfold gcur
  by_cases ha : a = k
  · subst ha
    rw [if_neg h2, if_pos rfl]
  · rw [if_neg ha]
    have : a ∈ todo.map Prod.fst ↔ a ∈ rest.map Prod.fst := by rw [h1]; simp [ha]
    simp only [this]
theorem gcur_here (hp : todo.Perm ((k, val) :: rest)) : gcur v w C todo k = at' v k := by
  unfold gcur
  rw [if_pos (List.mem_map.2 ⟨_, mem_here hp, rfl⟩)]
theorem Half.skip (h : Half I A v w C r1 r2 F1 F2 o2 f2 Fk todo D F) (hp : todo.Perm ((k, val) :: rest)) (hd : todo.Pairwise fun a b => a.1 ≠ b.1) (hc : C (at' v k) (at' w k) = at' v k) : Half I A v w C r1 r2 F1 F2 o2 f2 Fk rest D F := by
  refine ⟨h.d2, h.t.ext fun a => ?_, fun p q => h.fd p (mem_rest hp q), h.fr, h.fs, fun p q => h.ch p (mem_rest hp q), h.out, h.dom⟩
  rw [gcur_rest hp hd]
  split
  · rename_i ha; subst ha; rw [hc, gcur_here hp]
  · rfl
theorem Half.put {o o' : Obj} {f : FV} {u : RV} {y : Value} (hS : Stat I A v w r1 r2 F1 F2 f1 f2 Fk) (h : Half I A v w C r1 r2 F1 F2 o2 f2 Fk todo D F) (hp : todo.Perm ((k, val) :: rest)) (hd : todo.Pairwise fun a b => a.1 ≠ b.1)
    (hD : D r1 = some o) (hm : MF o f) (hu : at' w k = some u) (hy : f2 k = some y) (hc : C (at' v k) (at' w k) = some u) (ho : MF o' (f.put k y)) : Half I A v w C r1 r2 F1 F2 o2 f2 Fk rest (D.set r1 o') (fun b => F b ∨ Fk k b) := by
  have h12 : r2 ≠ r1 := fun hx => hS.disj r1 hS.in1 (hx ▸ hS.in2)
  obtain ⟨y', e1, hoy⟩ := h.ch _ (mem_here hp) u hu
  rw [hy, Option.some.injEq] at e1
  subst e1
  have hnd := nd_rest hp hd
  have hset : ∀ b o, b ≠ r1 → D b = some o → (D.set r1 o') b = some o := fun b o hb hx => by rw [set_other hb]; exact hx
  have hkr : ∀ a b, Fk a b → b ≠ r1 := fun a b hb hx => hS.disj r1 hS.in1 (hx ▸ (hS.sub a b hb).1)
  have hI : ∀ b o, I b → D b = some o → (D.set r1 o') b = some o := fun b o hb hx => hset b o (fun hy => hS.imm1 r1 hS.in1 (hy ▸ hb)) hx
  refine ⟨hset _ _ h12 h.d2, (h.t.put (hS.imm1 r1 hS.in1) hD hm hoy (fun b hb hx => h.fd _ (mem_here hp) b hx hb) ho).ext fun a => ?_, fun p q b hb => ?_, fun hx => ?_, fun b hb => ⟨?_, ?_⟩, fun p q x hx => ?_, fun b o a c d => hset _ _ (fun hx => c (hx ▸ hS.in1)) (h.out b o a c d), fun b hb hz => ?_⟩
  · rw [gcur_rest hp hd]
    unfold gput
    split
    · rw [hc]
    · rfl
  · rintro (hx | hx)
    · exact h.fd p (mem_rest hp q) b hb hx
    · exact hS.pair _ _ b (hnd.2 p q) hb hx
  · rcases hx with hx | hx
    · exact h.fr hx
    · exact (hS.sub _ _ hx).2 rfl
  · rcases hb with hb | hb
    · exact (h.fs b hb).1
    · exact .inr (.inl (hS.sub _ _ hb).1)
  · by_cases hbr : b = r1
    · rw [hbr, set_at]; simp
    · rw [set_other hbr]
      rcases hb with hb | hb
      · exact (h.fs b hb).2
      · exact h.dom b (hS.dom2 b (hS.sub _ _ hb).1)
  · obtain ⟨z, g1, g2⟩ := h.ch p (mem_rest hp q) x hx
    exact ⟨z, g1, g2.congr _ _ _ hI fun b o hb hx => hset b o (hkr _ _ hb) hx⟩
  · by_cases hbr : b = r1
    · rw [hbr, set_at] at hz; cases hz
    · rw [set_other hbr] at hz; exact h.dom b hb hz
theorem Half.del {o o' : Obj} {f : FV} (hS : Stat I A v w r1 r2 F1 F2 f1 f2 Fk) (h : Half I A v w C r1 r2 F1 F2 o2 f2 Fk todo D F) (hp : todo.Perm ((k, val) :: rest)) (hd : todo.Pairwise fun a b => a.1 ≠ b.1)
    (hD : D r1 = some o) (hm : MF o f) (hc : C (at' v k) (at' w k) = none) (ho : MF o' (f.del k)) : Half I A v w C r1 r2 F1 F2 o2 f2 Fk rest (D.set r1 o') F := by
  have h12 : r2 ≠ r1 := fun hx => hS.disj r1 hS.in1 (hx ▸ hS.in2)
  have hset : ∀ b o, b ≠ r1 → D b = some o → (D.set r1 o') b = some o := fun b o hb hx => by rw [set_other hb]; exact hx
  have hkr : ∀ a b, Fk a b → b ≠ r1 := fun a b hb hx => hS.disj r1 hS.in1 (hx ▸ (hS.sub a b hb).1)
  have hI : ∀ b o, I b → D b = some o → (D.set r1 o') b = some o := fun b o hb hx => hset b o (fun hy => hS.imm1 r1 hS.in1 (hy ▸ hb)) hx
  have hdm : ∀ b, D b ≠ none → (D.set r1 o') b ≠ none := fun b hb => by
    by_cases hbr : b = r1
    · rw [hbr, set_at]; simp
    · rw [set_other hbr]; exact hb
  refine ⟨hset _ _ h12 h.d2, (h.t.del (hS.imm1 r1 hS.in1) hD hm ho).ext fun a => ?_, fun p q => h.fd p (mem_rest hp q), h.fr, fun b hb => ⟨(h.fs b hb).1, hdm b (h.fs b hb).2⟩, fun p q x hx => ?_, fun b o a c d => hset _ _ (fun hx => c (hx ▸ hS.in1)) (h.out b o a c d), fun b hb => hdm b (h.dom b hb)⟩
  · rw [gcur_rest hp hd]
    unfold gdel
    split
    · rw [hc]
    · rfl
  · obtain ⟨z, g1, g2⟩ := h.ch p (mem_rest hp q) x hx
    exact ⟨z, g1, g2.congr _ _ _ hI fun b o hb hx => hset b o (hkr _ _ hb) hx⟩
/-- The child under a key has turned, by another table put into it. -/
theorem Half.deep {u z : RV} {D' : View} {G G' : FP} {y : Value} (hS : Stat I A v w r1 r2 F1 F2 f1 f2 Fk) (h : Half I A v w C r1 r2 F1 F2 o2 f2 Fk todo D F) (hp : todo.Perm ((k, val) :: rest)) (hd : todo.Pairwise fun a b => a.1 ≠ b.1)
    (hw : at' w k = some u) (hc : C (at' v k) (at' w k) = some z)
    (hG : ∀ b, G b → F b ∧ b ≠ r1)
    (hback : ∀ (B : View) (J : FP) (u' : RV) (G' : FP), OV J B u' y G' → (∀ b, I b → J b) → (∀ b o, I b → D b = some o → B b = some o) → (∀ b o, F b → D b = some o → ¬ G b → B b = some o) → (∀ b, G' b → G b ∨ ¬ F b) → TF J B r1 (gput (gcur v w C todo) k u') (fun b => F b ∨ G' b))
    (hov : OV I D' z y G') (hO : Out D D' G (Fk k)) (hD' : ∀ b, D b ≠ none → D' b ≠ none) (hG' : ∀ b, G' b → (G b ∨ Fk k b ∨ D b = none) ∧ D' b ≠ none) : Half I A v w C r1 r2 F1 F2 o2 f2 Fk rest D' (fun b => F b ∨ G' b) := by
  have hnd := nd_rest hp hd
  have hkF : ∀ b, Fk k b → ¬ F b := fun b hb => h.fd _ (mem_here hp) b hb
  have hin : ∀ b, A b ≠ none → D b ≠ none := h.dom
  have hnI : ∀ b, F b → ¬ I b := fun b hb hi => by
    rcases (h.fs b hb).1 with g | g | g
    · exact hS.imm1 b g hi
    · exact hS.imm2 b g hi
    · exact hS.immA b hi g
  have hI : ∀ b o, I b → D b = some o → D' b = some o := fun b o hb hx => hO b o hx (fun hg => hnI b (hG b hg).1 hb) fun hg => hS.imm2 b (hS.sub _ _ hg).1 hb
  refine ⟨hO _ _ h.d2 (fun hx => h.fr (hG _ hx).1) (fun hx => (hS.sub _ _ hx).2 rfl), (hback D' I _ G' hov (fun _ h => h) hI (fun b o hb hD hg => hO b o hD hg fun hx => hkF b hx hb) fun b hb => ?_).ext fun a => ?_, fun p q b hb => ?_, fun hx => ?_, fun b hb => ⟨?_, ?_⟩, fun p q z hz => ?_, fun b o a c d => ?_, fun b hb => hD' b (h.dom b hb)⟩
  · rcases (hG' b hb).1 with g | g | g
    · exact .inl g
    · exact .inr (hkF b g)
    · exact .inr fun hf => (h.fs b hf).2 g
  · rw [gcur_rest hp hd]
    unfold gput
    split
    · rw [hc]
    · rfl
  · rintro (hx | hx)
    · exact h.fd p (mem_rest hp q) b hb hx
    · rcases (hG' b hx).1 with g | g | g
      · exact h.fd p (mem_rest hp q) b hb (hG b g).1
      · exact hS.pair _ _ b (hnd.2 p q) hb g
      · exact hin b (hS.dom2 b (hS.sub _ _ hb).1) g
  · rcases hx with hx | hx
    · exact h.fr hx
    · rcases (hG' _ hx).1 with g | g | g
      · exact h.fr (hG _ g).1
      · exact (hS.sub _ _ g).2 rfl
      · rw [h.d2] at g; cases g
  · rcases hb with hb | hb
    · exact (h.fs b hb).1
    · rcases (hG' b hb).1 with g | g | g
      · exact (h.fs b (hG b g).1).1
      · exact .inr (.inl (hS.sub _ _ g).1)
      · refine .inr (.inr ?_)
        cases hA : A b with
        | none => rfl
        | some o => exact absurd g (hin b (by rw [hA]; simp))
  · rcases hb with hb | hb
    · exact hD' b (h.fs b hb).2
    · exact (hG' b hb).2
  · obtain ⟨y', g1, g2⟩ := h.ch p (mem_rest hp q) z hz
    refine ⟨y', g1, g2.congr _ _ _ hI fun b o hb hD => hO b o hD (fun hx => h.fd p (mem_rest hp q) b hb (hG b hx).1) fun hx => hS.pair _ _ b (hnd.2 p q) hb hx⟩
  · have hD := h.out b o a c d
    refine hO b o hD (fun hx => ?_) (fun hx => d (hS.sub _ _ hx).1)
    rcases (h.fs b (hG b hx).1).1 with g | g | g
    · exact c g
    · exact d g
    · rw [a] at g; cases g
end
end Go.Proofs.YtogfpbnbojhpoaaV

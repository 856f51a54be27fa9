/- Tables: globals that are put over others, half-way. -/
import Derived.Test.YtogfpbnbojhpoaaUQ
namespace Go.Proofs.YtogfpbnbojhpoaaV
open Go.RowKit
set_option linter.unusedSimpArgs false
set_option linter.unusedVariables false
/-- A map whose copy is a table that owns G beside itself. -/
def CP (I : FP) (A : View) (g : ByteArray → Option RV) (f : FV) (G : FP) : Prop :=
  ∀ (B : View) (r' : Nat) (o' : Obj), (∀ b o, I b → A b = some o → B b = some o) → (∀ b o, G b → A b = some o → B b = some o) → ¬ G r' → B r' = some o' → MF o' f → TF I B r' g (fun b => b = r' ∨ G b)
/-- Globals whose tables are copied: Fs is what their copies own, S all of it, R what is only read. -/
structure GT (I : FP) (A : View) (gw : ByteArray → Option RV) (rg : Nat) (Fs : ByteArray → FP) (S R : FP) : Prop where
  obj : ∃ og fg, A rg = some og ∧ MF og fg ∧ (∀ k, gw k = none → fg k = none) ∧ (∀ k u, gw k = some u → kindOf u ≠ 7 → ∃ y, fg k = some y ∧ OV I A u y (fun _ => False)) ∧
    ∀ k u, gw k = some u → kindOf u = 7 → ∃ r o f, fg k = some (.iface 63 (.map (some r))) ∧ R r ∧ A r = some o ∧ MF o f ∧ CP I A (at' u) f (Fs k)
  in2 : R rg
  sub : ∀ k b, Fs k b → S b
  pair : ∀ k k' b, k ≠ k' → Fs k b → ¬ Fs k' b
  disj : ∀ b, S b → ¬ R b
  dom : ∀ b, S b → A b ≠ none ∧ ¬ I b
  domR : ∀ b, R b → A b ≠ none
section
variable {I : FP} {A B : View} {v u : RV} {x y : Value} {F G : FP} {r : Nat} {g : ByteArray → Option RV}
theorem CP.deep (h : OV I A u (.iface 63 (.map (some r))) F) (h7 : kindOf u = 7) : ∃ o f, A r = some o ∧ MF o f ∧ F r ∧ CP I A (at' u) f (fun b => F b ∧ b ≠ r) := by
  obtain ⟨r', e, o, f, Fk, h2, h3, h4, h5, h6, h7', h8⟩ := h.tf h7
  simp only [Value.iface.injEq, Value.map.injEq, Option.some.injEq, true_and] at e
  subst e
  refine ⟨o, f, h3, h4, h2, fun B r' o' hI hG hr hB ho => ⟨o', f, Fk, .inl rfl, hB, ho, fun k b hb => ⟨.inr (h5 k b hb), fun hx => hr (hx ▸ h5 k b hb)⟩, h6, h7', fun k w hw => ?_⟩⟩
  obtain ⟨z, g1, g2⟩ := h8 k w hw
  exact ⟨z, g1, g2.congr _ _ _ hI fun b o hb hx => hG b o (h5 k b hb) hx⟩
theorem CP.flat (h : OV I A u (.iface 63 (.map (some r))) F) (h7 : kindOf u = 7) (hs : ∀ k w, at' u k = some w → kindOf w ≠ 7) : ∃ o f, A r = some o ∧ MF o f ∧ F r ∧ CP I A (at' u) f (fun _ => False) := by
  obtain ⟨r', e, o, f, Fk, h2, h3, h4, h5, h6, h7', h8⟩ := h.tf h7
  simp only [Value.iface.injEq, Value.map.injEq, Option.some.injEq, true_and] at e
  subst e
  refine ⟨o, f, h3, h4, h2, fun B r' o' hI _ _ hB ho => ⟨o', f, fun _ _ => False, .inl rfl, hB, ho, fun k b hb => hb.elim, fun _ _ _ _ hb => hb.elim, h7', fun k w hw => ?_⟩⟩
  obtain ⟨z, g1, g2⟩ := h8 k w hw
  exact ⟨z, g1, (OV.flat (G := fun _ => False) g2 (hs k w hw)).congr _ _ _ hI fun b o hb => hb.elim⟩
/-- Any tables are such. -/
theorem GT.deep (h : TF I A r g F) (hd : ∀ b, F b → A b ≠ none ∧ ¬ I b) : ∃ (Fs : ByteArray → FP) (S R : FP), GT I A g r Fs S R ∧ (∀ b, S b → F b) ∧ ∀ b, R b → F b := by
  obtain ⟨o, f, Fk, h2, h3, h4, h5, h6, h7, h8⟩ := h
  refine ⟨fun k b => Fk k b ∧ ∀ r', f k = some (.iface 63 (.map (some r'))) → b ≠ r', fun b => ∃ k, Fk k b ∧ ∀ r', f k = some (.iface 63 (.map (some r'))) → b ≠ r', fun b => b = r ∨ ∃ k, Fk k b ∧ f k = some (.iface 63 (.map (some b))), ⟨⟨o, f, h3, h4, h7, fun k u hu hk => ?_, fun k u hu hk => ?_⟩, .inl rfl, fun k b hb => ⟨k, hb⟩, fun k k' b hne hb hb' => h6 k k' b hne hb.1 hb'.1, fun b hb hb' => ?_, fun b hb => ?_, fun b hb => ?_⟩, fun b hb => ?_, fun b hb => ?_⟩
  · obtain ⟨y, e1, e2⟩ := h8 k u hu
    exact ⟨y, e1, e2.flat hk⟩
  · obtain ⟨y, e1, e2⟩ := h8 k u hu
    obtain ⟨r', rfl, _⟩ := e2.tf hk
    obtain ⟨o', f', g1, g2, g3, g4⟩ := CP.deep e2 hk
    refine ⟨r', o', f', e1, .inr ⟨k, g3, e1⟩, g1, g2, ?_⟩
    have : (fun b => Fk k b ∧ ∀ r'', f k = some (.iface 63 (.map (some r''))) → b ≠ r'') = fun b => Fk k b ∧ b ≠ r' := by
      funext b
      refine propext ⟨fun h => ⟨h.1, h.2 r' e1⟩, fun h => ⟨h.1, fun r'' e => ?_⟩⟩
      rw [e1] at e
      simp only [Option.some.injEq, Value.iface.injEq, Value.map.injEq, true_and] at e
      subst e
      exact h.2
    rw [this]
    exact g4
  · obtain ⟨k, hk, hn⟩ := hb
    rcases hb' with e | ⟨k', hk', e⟩
    · exact (h5 k b hk).2 e
    · by_cases hkk : k = k'
      · subst hkk
        exact hn b e rfl
      · exact h6 k k' b hkk hk hk'
  · obtain ⟨k, hk, _⟩ := hb
    exact hd b (h5 k b hk).1
  · rcases hb with e | ⟨k, hk, _⟩
    · subst e; rw [h3]; simp
    · exact (hd b (h5 k b hk).1).1
  · obtain ⟨k, hk, _⟩ := hb
    exact (h5 k b hk).1
  · rcases hb with e | ⟨k, hk, _⟩
    · rw [e]; exact h2
    · exact (h5 k b hk).1
/-- Tables without tables in their tables: nothing of them is handed over. -/
theorem GT.flat (h : TF I A r g F) (hs : ∀ k u, g k = some u → ∀ k' w, at' u k' = some w → kindOf w ≠ 7) (hd : ∀ b, F b → A b ≠ none) : GT I A g r (fun _ _ => False) (fun _ => False) F := by
  obtain ⟨o, f, Fk, h2, h3, h4, h5, h6, h7, h8⟩ := h
  refine ⟨⟨o, f, h3, h4, h7, fun k u hu hk => ?_, fun k u hu hk => ?_⟩, h2, fun k b hb => hb, fun _ _ _ _ hb => hb.elim, fun b hb => hb.elim, fun b hb => hb.elim, hd⟩
  · obtain ⟨y, e1, e2⟩ := h8 k u hu
    exact ⟨y, e1, e2.flat hk⟩
  · obtain ⟨y, e1, e2⟩ := h8 k u hu
    obtain ⟨r', rfl, _⟩ := e2.tf hk
    obtain ⟨o', f', g1, g2, g3, g4⟩ := CP.flat e2 hk (hs k u hu)
    exact ⟨r', o', f', e1, (h5 k r' g3).1, g1, g2, g4⟩
theorem GT.new {o : Obj} {S : FP} (hA : A r = some o) (hm : MF o fun _ => none) (hS : ∀ b, S b → A b ≠ none ∧ ¬ I b) (hn : ¬ S r) : GT I A (fun _ => none) r (fun _ _ => False) S (fun b => b = r) :=
  ⟨⟨o, _, hA, hm, fun _ _ => rfl, fun _ _ h _ => (by cases h), fun _ _ h _ => (by cases h)⟩, rfl, fun _ _ h => h.elim, fun _ _ _ _ h => h.elim, fun b hb hx => hn (hx ▸ hb), hS, fun b hb => by rw [hb, hA]; simp⟩
theorem CP.le {f : FV} (h : CP I A g f G) (hIA : ∀ b, I b → A b ≠ none) (hGA : ∀ b, G b → A b ≠ none) (hle : A ≤ B) : CP I B g f G := fun C r' o' h1 h2 => h C r' o' (fun b o hb hx => h1 b o hb (hle _ _ hx)) fun b o hb hx => h2 b o hb (hle _ _ hx)
theorem GT.le {Fs : ByteArray → FP} {S R : FP} (h : GT I A g r Fs S R) (hIA : ∀ b, I b → A b ≠ none) (hle : A ≤ B) : GT I B g r Fs S R := by
  obtain ⟨⟨og, fg, h1, h2, h3, h4, h5⟩, h6, h7, h8, h9, h10, h11⟩ := h
  refine ⟨⟨og, fg, hle _ _ h1, h2, h3, fun k u hu hk => ?_, fun k u hu hk => ?_⟩, h6, h7, h8, h9, fun b hb => ⟨fun hz => (h10 b hb).1 (none_le hle hz), (h10 b hb).2⟩, fun b hb hz => h11 b hb (none_le hle hz)⟩
  · obtain ⟨y, e1, e2⟩ := h4 k u hu hk
    exact ⟨y, e1, e2.le hle⟩
  · obtain ⟨r', o, f, e1, e2, e3, e4, e5⟩ := h5 k u hu hk
    exact ⟨r', o, f, e1, e2, hle _ _ e3, e4, e5.le hIA (fun b hb => (h10 b (h7 k b hb)).1) hle⟩
end
structure GH (I : FP) (A : View) (v w : RV) (rd : Nat) (F1 S R : FP) (Fs : ByteArray → FP) (todo : TD) (D : View) (F : FP) : Prop where
  t : TF I D rd (gcur v w cellG todo) F
  fd : ∀ p ∈ todo, ∀ b, Fs p.1 b → ¬ F b
  fs : ∀ b, F b → (F1 b ∨ S b ∨ A b = none) ∧ D b ≠ none
  keep : ∀ p ∈ todo, ∀ b o, Fs p.1 b → A b = some o → D b = some o
  out : Out A D F1 S
  dom : ∀ b, A b ≠ none → D b ≠ none
section
variable {I : FP} {A B : View} {v w : RV} {rd : Nat} {F1 S R : FP} {Fs : ByteArray → FP} {todo rest : TD} {k : ByteArray} {val : Value} {D : View} {F : FP}
theorem GH.skip (h : GH I A v w rd F1 S R Fs todo D F) (hp : todo.Perm ((k, val) :: rest)) (hd : todo.Pairwise fun a b => a.1 ≠ b.1) (hc : cellG (at' v k) (at' w k) = at' v k) : GH I A v w rd F1 S R Fs rest D F := by
  refine ⟨h.t.ext fun a => ?_, fun p q => h.fd p (mem_rest hp q), h.fs, fun p q => h.keep p (mem_rest hp q), h.out, h.dom⟩
  rw [gcur_rest hp hd]
  split
  · rename_i ha; subst ha; rw [hc, gcur_here hp]
  · rfl
theorem GH.le {D' : View} (h : GH I A v w rd F1 S R Fs todo D F) (hle : D ≤ D') : GH I A v w rd F1 S R Fs todo D' F :=
  ⟨h.t.le hle, h.fd, fun b hb => ⟨(h.fs b hb).1, fun hz => (h.fs b hb).2 (none_le hle hz)⟩, fun p q b o hb hx => hle _ _ (h.keep p q b o hb hx), fun b o a c d => hle _ _ (h.out b o a c d), fun b hb hz => h.dom b hb (none_le hle hz)⟩
theorem GH.nI {g : ByteArray → Option RV} {rg : Nat} (hT : GT I A g rg Fs S R) (h1 : ∀ b, F1 b → ¬ I b) (hIA : ∀ b, I b → A b ≠ none) (h : GH I A v w rd F1 S R Fs todo D F) : ∀ b, F b → ¬ I b := fun b hb hi => by
  rcases (h.fs b hb).1 with g | g | g
  · exact h1 b g hi
  · exact (hT.dom b g).2 hi
  · exact hIA b hi g
/-- What is only read stays. -/
theorem GH.same {g : ByteArray → Option RV} {rg : Nat} (hT : GT I A g rg Fs S R) (hR : ∀ b, F1 b → ¬ R b) (h : GH I A v w rd F1 S R Fs todo D F) : ∀ b o, R b → A b = some o → D b = some o := fun b o hb hx => h.out b o hx (fun h1 => hR b h1 hb) fun h2 => hT.disj b h2 hb
theorem GH.set {g : ByteArray → Option RV} {rg : Nat} {u' : RV} {o' : Obj} {G G' E : FP} (hT : GT I A g rg Fs S R) (h : GH I A v w rd F1 S R Fs todo D F) (hp : todo.Perm ((k, val) :: rest)) (hd : todo.Pairwise fun a b => a.1 ≠ b.1)
    (hback : TF I (B.set rd o') rd (gput (gcur v w cellG todo) k u') (fun b => F b ∨ G' b)) (hc : cellG (at' v k) (at' w k) = some u') (hG : ∀ b, G b → F b ∧ b ≠ rd) (hO : Out D B G E) (hE : ∀ b, E b → Fs k b ∨ D b = none)
    (hdm : ∀ b, D b ≠ none → B b ≠ none) (hG' : ∀ b, G' b → (F b ∨ Fs k b ∨ D b = none) ∧ B b ≠ none) : GH I A v w rd F1 S R Fs rest (B.set rd o') (fun b => F b ∨ G' b) := by
  have hnd := nd_rest hp hd
  have hFr : F rd := h.t.inn
  have hse : ∀ b, B b ≠ none → (B.set rd o') b ≠ none := fun b hb => by
    by_cases hbr : b = rd
    · rw [hbr, set_at]; simp
    · rw [set_other hbr]; exact hb
  have hdn : ∀ b, Fs k b → D b ≠ none := fun b hb => h.dom b (hT.dom b (hT.sub _ _ hb)).1
  refine ⟨hback.ext fun a => ?_, fun p q b hb => ?_, fun b hb => ?_, fun p q b o hb hx => ?_, fun b o ha h1 h2 => ?_, fun b hb => hse b (hdm b (h.dom b hb))⟩
  · rw [gcur_rest hp hd]
    unfold gput
    split
    · rw [hc]
    · rfl
  · rintro (hx | hx)
    · exact h.fd p (mem_rest hp q) b hb hx
    · rcases (hG' b hx).1 with hy | hy | hy
      · exact h.fd p (mem_rest hp q) b hb hy
      · exact hT.pair _ _ b (hnd.2 p q) hb hy
      · exact h.dom b (hT.dom b (hT.sub _ _ hb)).1 hy
  · rcases hb with hb | hb
    · exact ⟨(h.fs b hb).1, hse b (hdm b (h.fs b hb).2)⟩
    · refine ⟨?_, hse b (hG' b hb).2⟩
      rcases (hG' b hb).1 with hy | hy | hy
      · exact (h.fs b hy).1
      · exact .inr (.inl (hT.sub _ _ hy))
      · refine .inr (.inr ?_)
        cases hA : A b with
        | none => rfl
        | some o => exact absurd hy (h.dom b (by rw [hA]; simp))
  · have hnF := h.fd p (mem_rest hp q) b hb
    rw [set_other (fun hx => hnF (by rw [hx]; exact hFr))]
    refine hO b o (h.keep p (mem_rest hp q) b o hb hx) (fun hg => hnF (hG b hg).1) fun he => ?_
    rcases hE b he with hy | hy
    · exact hT.pair _ _ b (hnd.2 p q) hb hy
    · exact h.dom b (hT.dom b (hT.sub _ _ hb)).1 hy
  · have hbr : b ≠ rd := fun hx => by
      subst hx
      rcases (h.fs _ hFr).1 with hy | hy | hy
      · exact h1 hy
      · exact h2 hy
      · rw [hy] at ha; cases ha
    rw [set_other hbr]
    have hD := h.out b o ha h1 h2
    refine hO b o hD (fun hg => ?_) fun he => ?_
    · rcases (h.fs b (hG b hg).1).1 with hy | hy | hy
      · exact h1 hy
      · exact h2 hy
      · rw [hy] at ha; cases ha
    · rcases hE b he with hy | hy
      · exact h2 (hT.sub _ _ hy)
      · rw [hy] at hD; cases hD
end
end Go.Proofs.YtogfpbnbojhpoaaV

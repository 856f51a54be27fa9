/- Tables: trees of maps that are owned: each map in them has a block of its own (in F); what lies in lists lies in blocks that do not turn (in I). -/
import Derived.Test.YtogfpbnbojhpoaaUD
import Derived.Test.YtogfpbnbojhpoaaTU
import Derived.Test.YtogfpbnbojhpoaaV12
namespace Go.Proofs.YtogfpbnbojhpoaaV
open Go.RowKit
set_option linter.unusedSimpArgs false
set_option linter.unusedVariables false
theorem at_size {v u : RV} {s : ByteArray} (h : at' v s = some u) : SizeOf.sizeOf u < SizeOf.sizeOf v := by
  obtain ⟨k, b, i, f, t, keys, list, rfl, h7, j, h1, h2, h3, rfl⟩ := at_some h
  have := List.sizeOf_lt_of_mem (List.getElem_mem h2)
  simp
  omega
abbrev FP := Nat → Prop
/-- A value as the packages have it. -/
def OV (I : FP) (A : View) (v : RV) (x : Value) (F : FP) : Prop :=
  (kindOf v ≠ 7 ∧ ∃ D : View, D ≤ A ∧ (∀ b o, D b = some o → I b) ∧ AnyV D v x) ∨
  (kindOf v = 7 ∧ ∃ (r : Nat) (o : Obj) (f : FV) (Fk : ByteArray → FP), x = .iface 63 (.map (some r)) ∧ F r ∧ A r = some o ∧ MF o f ∧ (∀ k b, Fk k b → F b ∧ b ≠ r) ∧ (∀ k k' b, k ≠ k' → Fk k b → ¬ Fk k' b) ∧ (∀ k, at' v k = none → f k = none) ∧
    ∀ k u (_ : at' v k = some u), ∃ y, f k = some y ∧ OV I A u y (Fk k))
termination_by SizeOf.sizeOf v
decreasing_by
  rename_i h
  exact at_size h
/-- A map that is a table, told as a function. -/
def TF (I : FP) (A : View) (r : Nat) (g : ByteArray → Option RV) (F : FP) : Prop :=
  ∃ (o : Obj) (f : FV) (Fk : ByteArray → FP), F r ∧ A r = some o ∧ MF o f ∧ (∀ k b, Fk k b → F b ∧ b ≠ r) ∧ (∀ k k' b, k ≠ k' → Fk k b → ¬ Fk k' b) ∧ (∀ k, g k = none → f k = none) ∧ ∀ k u, g k = some u → ∃ y, f k = some y ∧ OV I A u y (Fk k)
section
variable {I J : FP} {A B : View} {v : RV} {x : Value} {F G : FP} {r : Nat} {g g' : ByteArray → Option RV}
theorem OV.tf (h : OV I A v x F) (h7 : kindOf v = 7) : ∃ r, x = .iface 63 (.map (some r)) ∧ TF I A r (at' v) F := by
  rw [OV] at h
  rcases h with ⟨h1, _⟩ | ⟨_, r, o, f, Fk, h1, h2, h3, h4, h5, h6, h7, h8⟩
  · exact absurd h7 h1
  · exact ⟨r, h1, o, f, Fk, h2, h3, h4, h5, h6, h7, h8⟩
theorem TF.ov (h7 : kindOf v = 7) (h : TF I A r (at' v) F) : OV I A v (.iface 63 (.map (some r))) F := by
  obtain ⟨o, f, Fk, h2, h3, h4, h5, h6, h7', h8⟩ := h
  rw [OV]
  exact .inr ⟨h7, r, o, f, Fk, rfl, h2, h3, h4, h5, h6, h7', h8⟩
theorem TF.ext (h : TF I A r g F) (e : ∀ k, g k = g' k) : TF I A r g' F := by
  have : g = g' := funext e
  rw [← this]; exact h
theorem OV.congr : ∀ (v : RV) (x : Value) (F : FP), OV I A v x F → (∀ b o, I b → A b = some o → B b = some o) → (∀ b o, F b → A b = some o → B b = some o) → OV I B v x F := by
  intro v
  induction hn : SizeOf.sizeOf v using Nat.strongRecOn generalizing v with
  | _ n ih =>
  intro x F h hI hAB
  rw [OV] at h ⊢
  rcases h with ⟨h1, D, h2, h3, h4⟩ | ⟨h7, r, o, f, Fk, h1, h2, h3, h4, h5, h6, h8, h9⟩
  · exact .inl ⟨h1, D, fun b o hb => hI b o (h3 b o hb) (h2 b o hb), h3, h4⟩
  · refine .inr ⟨h7, r, o, f, Fk, h1, h2, hAB _ _ h2 h3, h4, h5, h6, h8, fun k u hu => ?_⟩
    obtain ⟨y, g1, g2⟩ := h9 k u hu
    exact ⟨y, g1, ih _ (by rw [← hn]; exact at_size hu) u rfl y _ g2 hI fun b o hb => hAB b o (h5 k b hb).1⟩
theorem OV.imm : ∀ (v : RV) (x : Value) (F : FP), OV I A v x F → (∀ b, I b → J b) → OV J A v x F := by
  intro v
  induction hn : SizeOf.sizeOf v using Nat.strongRecOn generalizing v with
  | _ n ih =>
  intro x F h hIJ
  rw [OV] at h ⊢
  rcases h with ⟨h1, D, h2, h3, h4⟩ | ⟨h7, r, o, f, Fk, h1, h2, h3, h4, h5, h6, h8, h9⟩
  · exact .inl ⟨h1, D, h2, fun b o hb => hIJ b (h3 b o hb), h4⟩
  · refine .inr ⟨h7, r, o, f, Fk, h1, h2, h3, h4, h5, h6, h8, fun k u hu => ?_⟩
    obtain ⟨y, g1, g2⟩ := h9 k u hu
    exact ⟨y, g1, ih _ (by rw [← hn]; exact at_size hu) u rfl y _ g2 hIJ⟩
theorem OV.sub (h : OV I A v x F) (hFG : ∀ b, F b → G b) : OV I A v x G := by
  rw [OV] at h ⊢
  rcases h with ⟨h1, D, h2, h3, h4⟩ | ⟨h7, r, o, f, Fk, h1, h2, h3, h4, h5, h6, h8, h9⟩
  · exact .inl ⟨h1, D, h2, h3, h4⟩
  · exact .inr ⟨h7, r, o, f, Fk, h1, hFG _ h2, h3, h4, fun k b hb => ⟨hFG _ (h5 k b hb).1, (h5 k b hb).2⟩, h6, h8, h9⟩
/-- What is no table needs no blocks of its own. -/
theorem OV.flat (h : OV I A v x F) (h7 : kindOf v ≠ 7) : OV I A v x G := by
  rw [OV] at h ⊢
  rcases h with h | ⟨h, _⟩
  · exact .inl h
  · exact absurd h h7
theorem OV.le (h : OV I A v x F) (hle : A ≤ B) : OV I B v x F := OV.congr v x F h (fun b o _ hb => hle b o hb) fun b o _ hb => hle b o hb
theorem TF.congr (h : TF I A r g F) (hI : ∀ b o, I b → A b = some o → B b = some o) (hAB : ∀ b o, F b → A b = some o → B b = some o) : TF I B r g F := by
  obtain ⟨o, f, Fk, h2, h3, h4, h5, h6, h7, h8⟩ := h
  refine ⟨o, f, Fk, h2, hAB _ _ h2 h3, h4, h5, h6, h7, fun k u hu => ?_⟩
  obtain ⟨y, g1, g2⟩ := h8 k u hu
  exact ⟨y, g1, g2.congr _ _ _ hI fun b o hb => hAB b o (h5 k b hb).1⟩
theorem TF.imm (h : TF I A r g F) (hIJ : ∀ b, I b → J b) : TF J A r g F := by
  obtain ⟨o, f, Fk, h2, h3, h4, h5, h6, h7, h8⟩ := h
  refine ⟨o, f, Fk, h2, h3, h4, h5, h6, h7, fun k u hu => ?_⟩
  obtain ⟨y, g1, g2⟩ := h8 k u hu
  exact ⟨y, g1, g2.imm _ _ _ hIJ⟩
theorem TF.le (h : TF I A r g F) (hle : A ≤ B) : TF I B r g F := h.congr (fun b o _ hb => hle b o hb) fun b o _ hb => hle b o hb
theorem TF.sub (h : TF I A r g F) (hFG : ∀ b, F b → G b) : TF I A r g G := by
  obtain ⟨o, f, Fk, h2, h3, h4, h5, h6, h7, h8⟩ := h
  exact ⟨o, f, Fk, hFG _ h2, h3, h4, fun k b hb => ⟨hFG _ (h5 k b hb).1, (h5 k b hb).2⟩, h6, h7, h8⟩
theorem TF.inn (h : TF I A r g F) : F r := let ⟨_, _, _, h, _⟩ := h; h
theorem MF.fn {o : Obj} {f f' : FV} (h : MF o f) (h' : MF o f') : f = f' := by
  obtain ⟨es, c, h1, _, _, _, _, h2⟩ := h
  obtain ⟨es', c', h1', _, _, _, _, h2'⟩ := h'
  rw [h1] at h1'
  simp only [Obj.map.injEq] at h1'
  obtain ⟨rfl, rfl⟩ := h1'
  funext k
  rw [← h2, ← h2']
def gput (g : ByteArray → Option RV) (s : ByteArray) (u : RV) : ByteArray → Option RV := fun k => if k = s then some u else g k
def gdel (g : ByteArray → Option RV) (s : ByteArray) : ByteArray → Option RV := fun k => if k = s then none else g k
theorem TF.new {o : Obj} (hA : A r = some o) (h : MF o fun _ => none) : TF I A r (fun _ => none) (fun b => b = r) :=
  ⟨o, _, fun _ _ => False, rfl, hA, h, fun _ _ h => h.elim, fun _ _ _ _ h => h.elim, fun _ _ => rfl, fun _ _ h => by cases h⟩
def fput (Fk : ByteArray → FP) (s : ByteArray) (G : FP) : ByteArray → FP := fun k b => (k = s ∧ G b) ∨ (k ≠ s ∧ Fk k b)
theorem OV.here {Fk : ByteArray → FP} {s : ByteArray} (h : OV I A v x G) : OV I A v x (fput Fk s G s) := h.sub fun b hb => .inl ⟨rfl, hb⟩
theorem OV.there {Fk : ByteArray → FP} {s k : ByteArray} (h : OV I A v x (Fk k)) (hne : k ≠ s) : OV I A v x (fput Fk s G k) := h.sub fun b hb => .inr ⟨hne, hb⟩
theorem TF.put {o o' : Obj} {f : FV} {s : ByteArray} {u : RV} {y : Value} (h : TF I A r g F) (hI : ¬ I r) (hA : A r = some o) (hm : MF o f) (hu : OV I A u y G) (hd : ∀ b, F b → ¬ G b) (ho : MF o' (f.put s y)) :
    TF I (A.set r o') r (gput g s u) (fun b => F b ∨ G b) := by
  obtain ⟨o1, f1, Fk, h2, h3, h4, h5, h6, h7, h8⟩ := h
  rw [hA, Option.some.injEq] at h3
  subst h3
  obtain rfl := MF.fn h4 hm
  have hIr : ∀ b o, I b → A b = some o → (A.set r o') b = some o := fun b o hb hA => by
    rw [set_other (fun hx => hI (by rw [← hx]; exact hb))]; exact hA
  have hG : ∀ b o, G b → A b = some o → (A.set r o') b = some o := fun b o hb hA => by
    rw [set_other (fun hx => hd r h2 (by rw [← hx]; exact hb))]; exact hA
  have hF : ∀ k b o, Fk k b → A b = some o → (A.set r o') b = some o := fun k b o hb hA => by
    rw [set_other (h5 k b hb).2]; exact hA
  refine ⟨o', _, fput Fk s G, .inl h2, set_at _ _ _, ho, fun k b hb => ?_, fun k k' b hne hb hb' => ?_, fun k hk => ?_, fun k w hw => ?_⟩
  · rcases hb with ⟨_, hb⟩ | ⟨_, hb⟩
    · exact ⟨.inr hb, fun hx => hd r h2 (by rw [← hx]; exact hb)⟩
    · exact ⟨.inl (h5 k b hb).1, (h5 k b hb).2⟩
  · rcases hb with ⟨e1, hb⟩ | ⟨e1, hb⟩
    · rcases hb' with ⟨e2, hb'⟩ | ⟨e2, hb'⟩
      · exact hne (e1.trans e2.symm)
      · exact hd b (h5 k' b hb').1 hb
    · rcases hb' with ⟨e2, hb'⟩ | ⟨e2, hb'⟩
      · exact hd b (h5 k b hb).1 hb'
      · exact h6 k k' b hne hb hb'
  · unfold gput at hk
    split at hk
    · cases hk
    · rename_i hne
      unfold FV.put
      rw [if_neg hne]
      exact h7 k hk
  · unfold gput at hw
    split at hw
    · rename_i he
      simp only [Option.some.injEq] at hw
      subst hw he
      exact ⟨y, if_pos rfl, (hu.congr _ _ _ hIr hG).here⟩
    · rename_i hne
      obtain ⟨z, g1, g2⟩ := h8 k w hw
      exact ⟨z, (if_neg hne).trans g1, OV.there (g2.congr _ _ _ hIr (hF k)) hne⟩
theorem TF.del {o o' : Obj} {f : FV} {s : ByteArray} (h : TF I A r g F) (hI : ¬ I r) (hA : A r = some o) (hm : MF o f) (ho : MF o' (f.del s)) : TF I (A.set r o') r (gdel g s) F := by
  obtain ⟨o1, f1, Fk, h2, h3, h4, h5, h6, h7, h8⟩ := h
  rw [hA, Option.some.injEq] at h3
  subst h3
  obtain rfl := MF.fn h4 hm
  refine ⟨o', _, Fk, h2, set_at _ _ _, ho, h5, h6, fun k hk => ?_, fun k w hw => ?_⟩
  · unfold gdel at hk
    unfold FV.del
    split
    · rfl
    · rename_i hne
      rw [if_neg hne] at hk
      exact h7 k hk
  · unfold gdel at hw
    split at hw
    · cases hw
    · rename_i hne
      obtain ⟨z, g1, g2⟩ := h8 k w hw
      exact ⟨z, (if_neg hne).trans g1, g2.congr _ _ _ (fun b o hb hA => by rw [set_other (fun hx => hI (by rw [← hx]; exact hb))]; exact hA) fun b o hb hA => by rw [set_other (h5 k b hb).2]; exact hA⟩
theorem TF.get (h : TF I A r g F) : ∃ o f, A r = some o ∧ MF o f ∧ F r ∧ (∀ k, g k = none → f k = none) ∧ ∀ k u, g k = some u → ∃ y G, f k = some y ∧ OV I A u y G ∧ (∀ b, G b → F b ∧ b ≠ r) ∧
    -- the child may turn into another one
    ∀ (B : View) (J : FP) (u' : RV) (G' : FP), OV J B u' y G' → (∀ b, I b → J b) → (∀ b o, I b → A b = some o → B b = some o) → (∀ b o, F b → A b = some o → ¬ G b → B b = some o) → (∀ b, G' b → G b ∨ ¬ F b) → TF J B r (gput g k u') (fun b => F b ∨ G' b) := by
  obtain ⟨o, f, Fk, h2, h3, h4, h5, h6, h7, h8⟩ := h
  refine ⟨o, f, h3, h4, h2, h7, fun k u hu => ?_⟩
  obtain ⟨y, g1, g2⟩ := h8 k u hu
  refine ⟨y, Fk k, g1, g2, fun b hb => h5 k b hb, fun B J u' G' k1 hIJ hI k2 k3 => ?_⟩
  refine ⟨o, f, fput Fk k G', .inl h2, k2 _ _ h2 h3 fun hb => (h5 k r hb).2 rfl, h4, fun k' b hb => ?_, fun a a' b hne hb hb' => ?_, fun k' hk => ?_, fun k' w hw => ?_⟩
  · rcases hb with ⟨_, hb⟩ | ⟨_, hb⟩
    · refine ⟨.inr hb, fun hx => ?_⟩
      rcases k3 b hb with h | h
      · exact (h5 k b h).2 hx
      · rw [hx] at h; exact h h2
    · exact ⟨.inl (h5 k' b hb).1, (h5 k' b hb).2⟩
  · rcases hb with ⟨e1, hb⟩ | ⟨e1, hb⟩
    · rcases hb' with ⟨e2, hb'⟩ | ⟨e2, hb'⟩
      · exact hne (e1.trans e2.symm)
      · rcases k3 b hb with h | h
        · exact h6 k a' b (fun hx => e2 hx.symm) h hb'
        · exact h (h5 a' b hb').1
    · rcases hb' with ⟨e2, hb'⟩ | ⟨e2, hb'⟩
      · rcases k3 b hb' with h | h
        · exact h6 k a b (fun hx => e1 hx.symm) h hb
        · exact h (h5 a b hb).1
      · exact h6 a a' b hne hb hb'
  · unfold gput at hk
    split at hk
    · cases hk
    · exact h7 k' hk
  · unfold gput at hw
    split at hw
    · rename_i he
      subst he
      simp only [Option.some.injEq] at hw
      subst hw
      exact ⟨y, g1, k1.here⟩
    · rename_i hne
      obtain ⟨z, e1, e2⟩ := h8 k' w hw
      exact ⟨z, e1, OV.there ((e2.congr _ _ _ hI fun b o hb hA => k2 b o (h5 k' b hb).1 hA fun hx => h6 k' k b hne hb hx).imm _ _ _ hIJ) hne⟩
/-- Another value stands under a key; what stood there may be lost. -/
theorem TF.swap {o : Obj} {f : FV} (h : TF I A r g F) (hA : A r = some o) (hm : MF o f) (k : ByteArray) : ∃ G : FP, (∀ b, G b → F b ∧ b ≠ r) ∧ (∀ u, g k = some u → ∃ y, f k = some y ∧ OV I A u y G) ∧
    ∀ (B : View) (u' : RV) (y' : Value) (G' : FP) (o' : Obj), MF o' (f.put k y') → ¬ I r → (∀ b o, I b → A b = some o → B b = some o) → (∀ b o, F b → A b = some o → ¬ G b → B b = some o) → OV I B u' y' G' → (∀ b, G' b → G b ∨ ¬ F b) → TF I (B.set r o') r (gput g k u') (fun b => F b ∨ G' b) := by
  obtain ⟨o1, f1, Fk, h2, h3, h4, h5, h6, h7, h8⟩ := h
  rw [hA, Option.some.injEq] at h3
  subst h3
  obtain rfl := MF.fn h4 hm
  refine ⟨Fk k, fun b hb => h5 k b hb, fun u hu => h8 k u hu, fun B u' y' G' o' ho hIr hI k2 k1 k3 => ?_⟩
  have hG'r : ∀ b, G' b → b ≠ r := fun b hb hx => by
    rcases k3 b hb with h | h
    · exact (h5 k b h).2 hx
    · rw [hx] at h; exact h h2
  refine ⟨o', _, fput Fk k G', .inl h2, set_at _ _ _, ho, fun k' b hb => ?_, fun a a' b hne hb hb' => ?_, fun k' hk => ?_, fun k' w hw => ?_⟩
  · rcases hb with ⟨_, hb⟩ | ⟨_, hb⟩
    · exact ⟨.inr hb, hG'r b hb⟩
    · exact ⟨.inl (h5 k' b hb).1, (h5 k' b hb).2⟩
  · rcases hb with ⟨e1, hb⟩ | ⟨e1, hb⟩
    · rcases hb' with ⟨e2, hb'⟩ | ⟨e2, hb'⟩
      · exact hne (e1.trans e2.symm)
      · rcases k3 b hb with h | h
        · exact h6 k a' b (fun hx => e2 hx.symm) h hb'
        · exact h (h5 a' b hb').1
    · rcases hb' with ⟨e2, hb'⟩ | ⟨e2, hb'⟩
      · rcases k3 b hb' with h | h
        · exact h6 k a b (fun hx => e1 hx.symm) h hb
        · exact h (h5 a b hb).1
      · exact h6 a a' b hne hb hb'
  · unfold gput at hk
    split at hk
    · cases hk
    · rename_i hne
      exact (if_neg hne).trans (h7 k' hk)
  · have hIb : ∀ b o, I b → B b = some o → (B.set r o') b = some o := fun b o hb hx => by
      rw [set_other (fun hy => hIr (by rw [← hy]; exact hb))]; exact hx
    unfold gput at hw
    split at hw
    · rename_i he
      subst he
      simp only [Option.some.injEq] at hw
      subst hw
      exact ⟨y', if_pos rfl, (k1.congr _ _ _ hIb fun b o hb hx => by rw [set_other (hG'r b hb)]; exact hx).here⟩
    · rename_i hne
      obtain ⟨z, e1, e2⟩ := h8 k' w hw
      exact ⟨z, (if_neg hne).trans e1, OV.there ((e2.congr _ _ _ hI fun b o hb hA => k2 b o (h5 k' b hb).1 hA fun hx => h6 k' k b hne hb hx).congr _ _ _ hIb fun b o hb hx => by rw [set_other (h5 k' b hb).2]; exact hx) hne⟩
/-- A copy of the map alone, its children shared. -/
theorem TF.copy {o o' : Obj} {f : FV} {r' : Nat} (h : TF I A r g F) (hA : A r = some o) (hm : MF o f) (hle : A ≤ B) (hn : A r' = none) (hF : ∀ b, F b → A b ≠ none) (hB : B r' = some o') (ho : MF o' f) : TF I B r' g (fun b => b = r' ∨ (F b ∧ b ≠ r)) := by
  obtain ⟨o1, f1, Fk, h2, h3, h4, h5, h6, h7, h8⟩ := h
  rw [hA, Option.some.injEq] at h3
  subst h3
  obtain rfl := MF.fn h4 hm
  refine ⟨o', _, Fk, .inl rfl, hB, ho, fun k b hb => ⟨.inr (h5 k b hb), fun hx => ?_⟩, h6, h7, fun k u hu => ?_⟩
  · exact hF b (h5 k b hb).1 (by rw [hx]; exact hn)
  · obtain ⟨y, g1, g2⟩ := h8 k u hu
    exact ⟨y, g1, g2.le hle⟩
end
end Go.Proofs.YtogfpbnbojhpoaaV

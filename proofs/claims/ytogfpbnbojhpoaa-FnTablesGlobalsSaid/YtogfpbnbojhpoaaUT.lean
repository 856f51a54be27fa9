/- Tables: a map's copy. -/
import Derived.Test.YtogfpbnbojhpoaaUS
namespace Go.Proofs.YtogfpbnbojhpoaaV
open Go.RowKit
set_option linter.unusedSimpArgs false
set_option linter.unusedVariables false
/-- A map of its own that holds what another one holds. -/
def Copied (A : View) (f : FV) (res : Value) (A' : View) : Prop := ∃ r' o', res = .map (some r') ∧ A ≤ A' ∧ A r' = none ∧ A' r' = some o' ∧ MF o' f
theorem map_base {A : View} {l : List Nat} {r : Nat} {es : Array MapEntry} {c : Nat} (hP : Priv A l) (hA : A r = some (.map es c)) : ∀ L, addrs L = l → mapAt (ov A L) (.map (some r)) = some es.toList := fun L e => by
  simp only [mapAt]
  rw [ov_base (by rw [e]; exact hP) hA]
set_option maxRecDepth 20000 in
set_option maxHeartbeats 4000000 in
theorem copy82 (A : View) (r : Nat) (o : Obj) (f : FV) (hA : A r = some o) (hm : MF o f) :
    VCalls Try.prog 82 #[.map (some r)] A (Copied A f) := by
  obtain ⟨es0, c0, hoe, _⟩ := hm
  have hm : MF o f := ⟨es0, c0, hoe, ‹_›⟩
  have hAm := hoe ▸ hA
  refine xcalls Try.func82 rfl (by simp [Try.ntmps82]) ?_
  simp only [Try.f82]
  have hP : Priv A (addrs []) := Priv.nil A
  show xc _ _ _ _ _ _ (ov A [])
  refine xc_two fun N1 hN1 => ?_
  refine xc_reg1 1 rfl fun K hK => ?_
  simp only [show (List.range 1).map (·, true) = [(0, true)] from rfl, rslv_cons, rslv_nil, List.getElem?_toArray, List.getElem?_cons_zero, List.getElem?_cons_succ, gres]
  (refine seqX_hide2 fun R hR => ?_; simp [go_sem, map_base hP hAm]; refine hR _ _ _ ?_; clear hR R)
  rw [seqX_nil]
  refine hK _ _ _ ?_; clear hK K
  refine hN1 _ _ _ ?_
  refine xc_two fun N2 hN2 => ?_
  refine xc_reg1 4 rfl fun K hK => ?_
  simp only [show (List.range 4).map (·, true) = [(0, true), (1, true), (2, true), (3, true)] from rfl, rslv_cons, rslv_nil, List.getElem?_toArray, List.getElem?_cons_zero, List.getElem?_cons_succ, gres]
  iterate 2 (refine seqX_hide2 fun R hR => ?_; simp [go_sem, map_base hP hAm]; refine hR _ _ _ ?_; clear hR R)
  refine seqX_hide2 fun R hR => ?_
  simp [go_sem, map_base hP hAm]
  intro q8 hq8
  replace hP := hP.cons hq8
  clear hq8
  refine hR _ _ _ ?_; clear hR R
  (refine seqX_hide2 fun R hR => ?_; simp [go_sem, map_base hP hAm]; refine hR _ _ _ ?_; clear hR R)
  rw [seqX_nil]
  refine hK _ _ _ ?_; clear hK K
  refine hN2 _ _ _ ?_
  refine xc_two fun N3 hN3 => ?_
  refine xc_two fun N4 hN4 => ?_
  refine xc_reg1 2 rfl fun K hK => ?_
  simp only [show (List.range 2).map (·, true) = [(0, true), (1, true)] from rfl, rslv_cons, rslv_nil, List.getElem?_toArray, List.getElem?_cons_zero, List.getElem?_cons_succ, gres]
  (refine seqX_hide2 fun R hR => ?_; simp [go_sem, map_base hP hAm]; refine hR _ _ _ ?_; clear hR R)
  refine seqX_hide2 fun R hR => ?_
  simp [go_sem, map_base hP hAm]
  refine xrangeM (o := o) (f := f) hP (ov_base hP hA) hm (kt := 9) (et := 20) (by kernel_rfl) (by simp [go_sem]) ?_
  clear hP
  rintro q10 oi kv hkd hkm hI hP
  have d108 : q10 ≠ q8 := (hP.ne q8 (by simp [addrs])).1
  have d810 : q8 ≠ q10 := (hP.ne q8 (by simp [addrs])).2
  have hob0 : MF (.map #[] 0) (fun k => if k ∈ kv.map Prod.fst then none else f k) := MF.new.ext fun k => by
    split
    · rfl
    · rename_i hk
      cases hf : f k with
      | none => rfl
      | some y => exact absurd (List.mem_map.2 ⟨_, (hkm k y).2 hf, rfl⟩) hk
  refine hR _ _ _ ?_; clear hR R
  rw [seqX_nil]
  refine hK _ _ _ ?_; clear hK K
  refine hN4 _ _ _ ?_
  rw [xc_block]
  rw [xc_loop]
  refine vloopK (fun k' e ds A' => ∃ (todo : TD) (ob : Obj) (oi : Obj), k' = todo.length ∧ ds = [] ∧ A' = ov A [(q10, oi), (q8, ob)] ∧ Priv A [q10, q8] ∧ e 3 = .map (some q8) ∧ e 10 = .pointer (some ⟨q10, 0, none⟩) ∧ (MIt oi o r todo) ∧ (todo.Pairwise (fun a b => a.1 ≠ b.1)) ∧ (∀ p ∈ todo, f p.1 = some p.2) ∧ (MF ob (fun k => if k ∈ todo.map Prod.fst then none else f k))) _ ⟨kv, _, oi, rfl, rfl, rfl, hP, by simp [go_sem, map_base hP hAm, d108, d810], by simp [go_sem, map_base hP hAm, d108, d810], hI, hkd, fun p hp => (hkm p.1 p.2).1 hp, hob0⟩ ?_
  clear hP
  rintro k' e ds _ ⟨todo, ob, oi, rfl, rfl, rfl, hP, g3, g10, hI, hnd, hmem, hob⟩ J1 X1 hJ1 hX1
  refine xc_sound _ ?_
  refine xc_two fun N5 hN5 => ?_
  refine xc_reg1 2 rfl fun K hK => ?_
  simp only [show (List.range 2).map (·, true) = [(0, true), (1, true)] from rfl, rslv_cons, rslv_nil, List.getElem?_toArray, List.getElem?_cons_zero, List.getElem?_cons_succ, gres]
  refine seqX_hide2 fun R hR => ?_
  simp [go_sem, map_base hP hAm, d108, d810, g3, g10]
  refine xnextH (ov_base hP hA) hm hI (by simp [go_sem, g10]) (fun h0 => ?_) (fun pk pv rest oi' hp hI2 hAt => ?_)
  rotate_left
  · have hfk := hmem _ (mem_here hp)
    have hkr := keys_rest hp hnd
    refine hR _ _ _ ?_; clear hR R
    (refine seqX_hide2 fun R hR => ?_; simp [go_sem, map_base hP hAm, d108, d810, g3, g10]; refine hR _ _ _ ?_; clear hR R)
    rw [seqX_nil]
    refine hK _ _ _ ?_; clear hK K
    refine hN5 _ _ _ ?_
    refine xc_two fun N6 hN6 => ?_
    refine xc_iftrue (by simp [go_sem, map_base hP hAm, d108, d810, g3, g10]) ?_
    refine hN6 _ _ _ ?_
    rw [xc_block]
    refine xc_two fun N7 hN7 => ?_
    refine xc_reg1 5 rfl fun K hK => ?_
    simp only [show (List.range 5).map (·, true) = [(0, true), (1, true), (2, true), (3, true), (4, true)] from rfl, rslv_cons, rslv_nil, List.getElem?_toArray, List.getElem?_cons_zero, List.getElem?_cons_succ, gres]
    refine seqX_hide2 fun R hR => ?_
    simp [go_sem, map_base hP hAm, d108, d810, g3, g10]
    refine xentryH (ov_base hP hA) hAt (by simp [go_sem, g10]) ?_
    have hlen := hp.length_eq
    rw [List.length_cons] at hlen
    refine hR _ _ _ ?_; clear hR R
    iterate 4 (refine seqX_hide2 fun R hR => ?_; simp [go_sem, map_base hP hAm, d108, d810, g3, g10]; refine hR _ _ _ ?_; clear hR R)
    rw [seqX_nil]
    refine hK _ _ _ ?_; clear hK K
    refine hN7 _ _ _ ?_
    refine xc_reg1 4 rfl fun K hK => ?_
    simp only [show (List.range 4).map (·, true) = [(0, true), (1, true), (2, true), (3, true)] from rfl, rslv_cons, rslv_nil, List.getElem?_toArray, List.getElem?_cons_zero, List.getElem?_cons_succ, gres]
    iterate 3 (refine seqX_hide2 fun R hR => ?_; simp [go_sem, map_base hP hAm, d108, d810, g3, g10]; refine hR _ _ _ ?_; clear hR R)
    refine seqX_hide2 fun R hR => ?_
    simp [go_sem, map_base hP hAm, d108, d810, g3, g10]
    refine mapset_goal 1 hP rfl hob (by simp [strMap, ti63, ti9]) ?_
    clear hP
    rintro ob' hob' hP
    simp only [List.set_cons_zero, List.set_cons_succ, addrs_cons, addrs_nil] at hP ⊢
    refine hR _ _ _ ?_; clear hR R
    rw [seqX_nil]
    refine hK _ _ _ ?_; clear hK K
    refine hJ1 ((rest).length) _ _ _ (by omega) ⟨rest, ob', oi', rfl, rfl, rfl, hP, by simp [go_sem, map_base hP hAm, d108, d810, g3, g10], by simp [go_sem, map_base hP hAm, d108, d810, g3, g10], hI2, (nd_rest hp hnd).1, fun q hq => hmem q (mem_rest hp hq), hob'.ext fun k => ?_⟩
    obtain ⟨e1, e2⟩ := hkr k
    unfold FV.put
    by_cases hk : k = pk
    · subst hk
      rw [if_pos rfl, if_neg e2]
      exact hfk.symm
    · have : (k ∈ todo.map Prod.fst) ↔ k ∈ rest.map Prod.fst := by rw [e1]; simp [hk]
      rw [if_neg hk]
      simp only [this]
  subst h0
  refine hR _ _ _ ?_; clear hR R
  (refine seqX_hide2 fun R hR => ?_; simp [go_sem, map_base hP hAm, d108, d810, g3, g10]; refine hR _ _ _ ?_; clear hR R)
  rw [seqX_nil]
  refine hK _ _ _ ?_; clear hK K
  refine hN5 _ _ _ ?_
  refine xc_two fun N6 hN6 => ?_
  refine xc_iffalse (by simp [go_sem, map_base hP hAm, d108, d810, g3, g10]) ?_
  refine hX1 _ _ _ _ ?_
  refine hN3 _ _ _ ?_
  refine xc_two fun N7 hN7 => ?_
  refine xc_reg1 2 rfl fun K hK => ?_
  simp only [show (List.range 2).map (·, true) = [(0, true), (1, true)] from rfl, rslv_cons, rslv_nil, List.getElem?_toArray, List.getElem?_cons_zero, List.getElem?_cons_succ, gres]
  iterate 2 (refine seqX_hide2 fun R hR => ?_; simp [go_sem, map_base hP hAm, d108, d810, g3, g10]; refine hR _ _ _ ?_; clear hR R)
  rw [seqX_nil]
  refine hK _ _ _ ?_; clear hK K
  refine hN7 _ _ _ ?_
  simp [go_sem, map_base hP hAm, d108, d810, g3, g10]
  refine ⟨q8, ob, rfl, ?_, hP.no (by simp [addrs]), ?_, hob.ext fun k => by simp⟩
  · exact le_ov hP
  · rw [ov_get]
    simp [lkL, d810]
end Go.Proofs.YtogfpbnbojhpoaaV

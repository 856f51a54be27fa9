/- Tables: coalesceTablesFullKey, of two tables. -/
import Derived.Test.YtogfpbnbojhpoaaUK
namespace Go.Proofs.YtogfpbnbojhpoaaV
open Go.RowKit
set_option linter.unusedSimpArgs false
set_option linter.unusedVariables false
def A67 (w : RV) : Prop := ∀ (I : FP) (A : View) (v : RV) (r1 r2 : Nat) (F1 F2 : FP) (s : ByteArray) (mg : Bool) (lv lv' : Nat),
  TF I A r1 (at' v) F1 → TF I A r2 (at' w) F2 → (∀ b, F1 b → ¬ F2 b) → (∀ b, F1 b → A b ≠ none ∧ ¬ I b) → (∀ b, F2 b → A b ≠ none ∧ ¬ I b) → (∀ b, I b → A b ≠ none) → kindOf v = 7 → kindOf w = 7 → Good v lv → Good w lv' → KB v → KB w → lv' ≤ 60 → s.size ≤ (60 - lv') * 2251799813685248 →
  VCalls Try.prog 67 #[.func (.func 68) #[] #[], .map (some r1), .map (some r2), .string s, .bool mg] A fun r A' => r = .map (some r1) ∧ Out A A' F1 F2 ∧ (∀ b, A b ≠ none → A' b ≠ none) ∧ ∃ F', TF I A' r1 (at' (coalR v mg w)) F' ∧ ∀ b, F' b → (F1 b ∨ F2 b ∨ A b = none) ∧ A' b ≠ none
def nnB : Option Value → Option Value
  | some (.iface _ _) => some (.bool true)
  | _ => none
def isN : Option Value → Bool
  | some .nilIface => true
  | _ => false
theorem isN_iff {x : Option Value} : isN x = true ↔ x = some .nilIface := by
  constructor
  · intro h
    unfold isN at h
    split at h
    · rfl
    · cases h
  · rintro rfl; rfl
set_option maxRecDepth 20000 in
set_option maxHeartbeats 8000000 in
theorem coal67_step (w : RV) (ih : ∀ k u, at' w k = some u → A67 u) : A67 w := by
  intro I A v r1 r2 F1 F2 s mg lv lv' hT1 hT2 hdisj hdm1 hdm2 hIA h71 h72 hG hG' hkb hkb' hlv hsz
  obtain ⟨o1, f1, Fk1, i1, hA1, hm1, s1, p1, z1, c1⟩ := hT1
  obtain ⟨o2, f2, Fk, i2, hA2, hm2, s2, p2, z2, c2⟩ := hT2
  have hdom1 : ∀ b, F1 b → A b ≠ none := fun b hb => (hdm1 b hb).1
  have hdom2 : ∀ b, F2 b → A b ≠ none := fun b hb => (hdm2 b hb).1
  have h12 : r1 ≠ r2 := fun hx => hdisj r1 i1 (hx ▸ i2)
  have nil1 : ∀ k x, at' v k = some x → ∃ y, f1 k = some y ∧ (y = .nilIface ↔ kindOf x = 0) := fun k x hx => let ⟨y, a, b⟩ := c1 k x hx; ⟨y, a, b.isNil⟩
  have nil2 : ∀ k x, at' w k = some x → ∃ y, f2 k = some y ∧ (y = .nilIface ↔ kindOf x = 0) := fun k x hx => let ⟨y, a, b⟩ := c2 k x hx; ⟨y, a, b.isNil⟩
  have hS : Stat I A v w r1 r2 F1 F2 f1 f2 Fk := ⟨hdisj, hdom1, hdom2, i1, fun b hb => (hdm1 b hb).2, fun b hb => (hdm2 b hb).2, hIA, i2, s2, p2, z2, z1, nil1, nil2⟩
  have ifc2 : ∀ k y, f2 k = some y → y = .nilIface ∨ ∃ t z, y = .iface t z := fun k y hy => by
    cases hw : at' w k with
    | none => rw [z2 k hw] at hy; cases hy
    | some u =>
      obtain ⟨y', a, b⟩ := c2 k u hw
      rw [hy, Option.some.injEq] at a
      subst a
      exact b.iface
  have ifc1 : ∀ k y, f1 k = some y → y = .nilIface ∨ ∃ t z, y = .iface t z := fun k y hy => by
    cases hw : at' v k with
    | none => rw [z1 k hw] at hy; cases hy
    | some u =>
      obtain ⟨y', a, b⟩ := c1 k u hw
      rw [hy, Option.some.injEq] at a
      subst a
      exact b.iface
  refine xcalls Try.func67 rfl (by simp [Try.ntmps67]) ?_
  simp only [Try.f67]
  have hP : Priv A (addrs []) := Priv.nil A
  show xc _ _ _ _ _ _ (ov A [])
  refine xc_two fun N1 hN1 => ?_
  refine xc_reg1 1 rfl fun K hK => ?_
  simp only [show (List.range 1).map (·, true) = [(0, true)] from rfl, rslv_cons, rslv_nil, List.getElem?_toArray, List.getElem?_cons_zero, List.getElem?_cons_succ, gres]
  (refine seqX_hide2 fun R hR => ?_; simp [go_sem]; refine hR _ _ _ ?_; clear hR R)
  rw [seqX_nil]
  refine hK _ _ _ ?_; clear hK K
  refine hN1 _ _ _ ?_
  refine xc_two fun N2 hN2 => ?_
  refine xc_two fun N3 hN3 => ?_
  refine xc_reg1 2 rfl fun K hK => ?_
  simp only [show (List.range 2).map (·, true) = [(0, true), (1, true)] from rfl, rslv_cons, rslv_nil, List.getElem?_toArray, List.getElem?_cons_zero, List.getElem?_cons_succ, gres]
  iterate 2 (refine seqX_hide2 fun R hR => ?_; simp [go_sem]; refine hR _ _ _ ?_; clear hR R)
  rw [seqX_nil]
  refine hK _ _ _ ?_; clear hK K
  refine hN3 _ _ _ ?_
  refine xc_iffalse (by simp [go_sem]) ?_
  refine hN2 _ _ _ ?_
  refine xc_two fun N4 hN4 => ?_
  refine xc_two fun N5 hN5 => ?_
  refine xc_reg1 2 rfl fun K hK => ?_
  simp only [show (List.range 2).map (·, true) = [(0, true), (1, true)] from rfl, rslv_cons, rslv_nil, List.getElem?_toArray, List.getElem?_cons_zero, List.getElem?_cons_succ, gres]
  iterate 2 (refine seqX_hide2 fun R hR => ?_; simp [go_sem]; refine hR _ _ _ ?_; clear hR R)
  rw [seqX_nil]
  refine hK _ _ _ ?_; clear hK K
  refine hN5 _ _ _ ?_
  refine xc_iffalse (by simp [go_sem]) ?_
  refine hN4 _ _ _ ?_
  refine xc_two fun N6 hN6 => ?_
  refine xc_reg1 2 rfl fun K hK => ?_
  simp only [show (List.range 2).map (·, true) = [(0, true), (1, true)] from rfl, rslv_cons, rslv_nil, List.getElem?_toArray, List.getElem?_cons_zero, List.getElem?_cons_succ, gres]
  refine seqX_hide2 fun R hR => ?_
  simp [go_sem]
  intro q27 hq27
  replace hP := hP.cons hq27
  clear hq27
  refine hR _ _ _ ?_; clear hR R
  (refine seqX_hide2 fun R hR => ?_; simp [go_sem]; refine hR _ _ _ ?_; clear hR R)
  rw [seqX_nil]
  refine hK _ _ _ ?_; clear hK K
  refine hN6 _ _ _ ?_
  refine xc_two fun N7 hN7 => ?_
  refine xc_two fun N8 hN8 => ?_
  refine xc_reg1 2 rfl fun K hK => ?_
  simp only [show (List.range 2).map (·, true) = [(0, true), (1, true)] from rfl, rslv_cons, rslv_nil, List.getElem?_toArray, List.getElem?_cons_zero, List.getElem?_cons_succ, gres]
  (refine seqX_hide2 fun R hR => ?_; simp [go_sem]; refine hR _ _ _ ?_; clear hR R)
  refine seqX_hide2 fun R hR => ?_
  simp [go_sem]
  refine xrangeM (o := o2) (f := f2) hP (ov_base hP hA2) hm2 (kt := 9) (et := 20) (by kernel_rfl) (by simp [go_sem]) ?_
  clear hP
  rintro q29 oi kv hkd hkm hI hP
  have d2927 : q29 ≠ q27 := (hP.ne q27 (by simp [addrs])).1
  have d2729 : q27 ≠ q29 := (hP.ne q27 (by simp [addrs])).2
  have hob0 : MF (.map #[] 0) (fun k => if k ∈ kv.map Prod.fst then none else nnB (f2 k)) := MF.new.ext fun k => by
    split
    · rfl
    · rename_i hk
      cases hf : f2 k with
      | none => rfl
      | some y => exact absurd (List.mem_map.2 ⟨_, (hkm k y).2 hf, rfl⟩) hk
  refine hR _ _ _ ?_; clear hR R
  rw [seqX_nil]
  refine hK _ _ _ ?_; clear hK K
  refine hN8 _ _ _ ?_
  rw [xc_block]
  rw [xc_loop]
  refine vloopK (fun k' e ds A' => ∃ (todo : TD) (ob : Obj) (oi : Obj), k' = todo.length ∧ ds = [] ∧ A' = ov A [(q29, oi), (q27, ob)] ∧ Priv A [q29, q27] ∧ e 0 = .func (.func 68) #[] #[] ∧ e 1 = .map (some r1) ∧ e 2 = .map (some r2) ∧ e 3 = .string s ∧ e 4 = .bool mg ∧ e 11 = .map (some q27) ∧ e 29 = .pointer (some ⟨q29, 0, none⟩) ∧ (MIt oi o2 r2 todo) ∧ (todo.Pairwise (fun a b => a.1 ≠ b.1)) ∧ (∀ p ∈ todo, f2 p.1 = some p.2) ∧ (MF ob (fun k => if k ∈ todo.map Prod.fst then none else nnB (f2 k)))) _ ⟨kv, _, oi, rfl, rfl, rfl, hP, by simp [go_sem, d2927, d2729], by simp [go_sem, d2927, d2729], by simp [go_sem, d2927, d2729], by simp [go_sem, d2927, d2729], by simp [go_sem, d2927, d2729], by simp [go_sem, d2927, d2729], by simp [go_sem, d2927, d2729], hI, hkd, fun p hp => (hkm p.1 p.2).1 hp, hob0⟩ ?_
  clear hP
  rintro k' e ds _ ⟨todo, ob, oi, rfl, rfl, rfl, hP, g0, g1, g2, g3, g4, g11, g29, hI, hnd, hmem, hob⟩ J1 X1 hJ1 hX1
  refine xc_sound _ ?_
  refine xc_two fun N9 hN9 => ?_
  refine xc_reg1 2 rfl fun K hK => ?_
  simp only [show (List.range 2).map (·, true) = [(0, true), (1, true)] from rfl, rslv_cons, rslv_nil, List.getElem?_toArray, List.getElem?_cons_zero, List.getElem?_cons_succ, gres]
  refine seqX_hide2 fun R hR => ?_
  simp [go_sem, d2927, d2729, g0, g1, g2, g3, g4, g11, g29]
  refine xnextH (ov_base hP hA2) hm2 hI (by simp [go_sem, g29]) (fun h0 => ?_) (fun pk pv rest oi' hp hI2 hAt => ?_)
  rotate_left
  · have hfk := hmem _ (mem_here hp)
    have hifc := ifc2 _ _ hfk
    have hkr := keys_rest hp hnd
    refine hR _ _ _ ?_; clear hR R
    (refine seqX_hide2 fun R hR => ?_; simp [go_sem, d2927, d2729, g0, g1, g2, g3, g4, g11, g29]; refine hR _ _ _ ?_; clear hR R)
    rw [seqX_nil]
    refine hK _ _ _ ?_; clear hK K
    refine hN9 _ _ _ ?_
    refine xc_two fun N10 hN10 => ?_
    refine xc_iftrue (by simp [go_sem, d2927, d2729, g0, g1, g2, g3, g4, g11, g29]) ?_
    refine hN10 _ _ _ ?_
    rw [xc_block]
    refine xc_two fun N11 hN11 => ?_
    refine xc_reg1 5 rfl fun K hK => ?_
    simp only [show (List.range 5).map (·, true) = [(0, true), (1, true), (2, true), (3, true), (4, true)] from rfl, rslv_cons, rslv_nil, List.getElem?_toArray, List.getElem?_cons_zero, List.getElem?_cons_succ, gres]
    refine seqX_hide2 fun R hR => ?_
    simp [go_sem, d2927, d2729, g0, g1, g2, g3, g4, g11, g29]
    refine xentryH (ov_base hP hA2) hAt (by simp [go_sem, g29]) ?_
    have hlen := hp.length_eq
    rw [List.length_cons] at hlen
    rcases hifc with rfl | ⟨ty, z, rfl⟩
    · skip
      refine hR _ _ _ ?_; clear hR R
      iterate 4 (refine seqX_hide2 fun R hR => ?_; simp [go_sem, d2927, d2729, g0, g1, g2, g3, g4, g11, g29]; refine hR _ _ _ ?_; clear hR R)
      rw [seqX_nil]
      refine hK _ _ _ ?_; clear hK K
      refine hN11 _ _ _ ?_
      refine xc_two fun N12 hN12 => ?_
      refine xc_reg1 2 rfl fun K hK => ?_
      simp only [show (List.range 2).map (·, true) = [(0, true), (1, true)] from rfl, rslv_cons, rslv_nil, List.getElem?_toArray, List.getElem?_cons_zero, List.getElem?_cons_succ, gres]
      iterate 2 (refine seqX_hide2 fun R hR => ?_; simp [go_sem, d2927, d2729, g0, g1, g2, g3, g4, g11, g29]; refine hR _ _ _ ?_; clear hR R)
      rw [seqX_nil]
      refine hK _ _ _ ?_; clear hK K
      refine hN12 _ _ _ ?_
      refine xc_iffalse (by simp [go_sem, d2927, d2729, g0, g1, g2, g3, g4, g11, g29]) ?_
      refine hJ1 ((rest).length) _ _ _ (by omega) ⟨rest, ob, oi', rfl, rfl, rfl, hP, by simp [go_sem, d2927, d2729, g0, g1, g2, g3, g4, g11, g29], by simp [go_sem, d2927, d2729, g0, g1, g2, g3, g4, g11, g29], by simp [go_sem, d2927, d2729, g0, g1, g2, g3, g4, g11, g29], by simp [go_sem, d2927, d2729, g0, g1, g2, g3, g4, g11, g29], by simp [go_sem, d2927, d2729, g0, g1, g2, g3, g4, g11, g29], by simp [go_sem, d2927, d2729, g0, g1, g2, g3, g4, g11, g29], by simp [go_sem, d2927, d2729, g0, g1, g2, g3, g4, g11, g29], hI2, (nd_rest hp hnd).1, fun q hq => hmem q (mem_rest hp hq), hob.ext fun k => ?_⟩
      obtain ⟨e1, e2⟩ := hkr k
      by_cases hk : k = pk
      · subst hk
        rw [if_pos (e1.2 (.inl rfl)), if_neg e2, hfk]
        rfl
      · have : (k ∈ todo.map Prod.fst) ↔ k ∈ rest.map Prod.fst := by rw [e1]; simp [hk]
        simp only [this]
    · skip
      refine hR _ _ _ ?_; clear hR R
      iterate 4 (refine seqX_hide2 fun R hR => ?_; simp [go_sem, d2927, d2729, g0, g1, g2, g3, g4, g11, g29]; refine hR _ _ _ ?_; clear hR R)
      rw [seqX_nil]
      refine hK _ _ _ ?_; clear hK K
      refine hN11 _ _ _ ?_
      refine xc_two fun N12 hN12 => ?_
      refine xc_reg1 2 rfl fun K hK => ?_
      simp only [show (List.range 2).map (·, true) = [(0, true), (1, true)] from rfl, rslv_cons, rslv_nil, List.getElem?_toArray, List.getElem?_cons_zero, List.getElem?_cons_succ, gres]
      iterate 2 (refine seqX_hide2 fun R hR => ?_; simp [go_sem, d2927, d2729, g0, g1, g2, g3, g4, g11, g29]; refine hR _ _ _ ?_; clear hR R)
      rw [seqX_nil]
      refine hK _ _ _ ?_; clear hK K
      refine hN12 _ _ _ ?_
      refine xc_iftrue (by simp [go_sem, d2927, d2729, g0, g1, g2, g3, g4, g11, g29]) ?_
      refine xc_reg1 3 rfl fun K hK => ?_
      simp only [show (List.range 3).map (·, true) = [(0, true), (1, true), (2, true)] from rfl, rslv_cons, rslv_nil, List.getElem?_toArray, List.getElem?_cons_zero, List.getElem?_cons_succ, gres]
      iterate 2 (refine seqX_hide2 fun R hR => ?_; simp [go_sem, d2927, d2729, g0, g1, g2, g3, g4, g11, g29]; refine hR _ _ _ ?_; clear hR R)
      refine seqX_hide2 fun R hR => ?_
      simp [go_sem, d2927, d2729, g0, g1, g2, g3, g4, g11, g29]
      refine mapset_goal 1 hP rfl hob (by simp [strMap, ti120, ti9]) ?_
      clear hP
      rintro ob' hob' hP
      simp only [List.set_cons_zero, List.set_cons_succ, addrs_cons, addrs_nil] at hP ⊢
      refine hR _ _ _ ?_; clear hR R
      rw [seqX_nil]
      refine hK _ _ _ ?_; clear hK K
      refine hJ1 ((rest).length) _ _ _ (by omega) ⟨rest, ob', oi', rfl, rfl, rfl, hP, by simp [go_sem, d2927, d2729, g0, g1, g2, g3, g4, g11, g29], by simp [go_sem, d2927, d2729, g0, g1, g2, g3, g4, g11, g29], by simp [go_sem, d2927, d2729, g0, g1, g2, g3, g4, g11, g29], by simp [go_sem, d2927, d2729, g0, g1, g2, g3, g4, g11, g29], by simp [go_sem, d2927, d2729, g0, g1, g2, g3, g4, g11, g29], by simp [go_sem, d2927, d2729, g0, g1, g2, g3, g4, g11, g29], by simp [go_sem, d2927, d2729, g0, g1, g2, g3, g4, g11, g29], hI2, (nd_rest hp hnd).1, fun q hq => hmem q (mem_rest hp hq), hob'.ext fun k => ?_⟩
      obtain ⟨e1, e2⟩ := hkr k
      unfold FV.put
      by_cases hk : k = pk
      · subst hk
        rw [if_pos rfl, if_neg e2, hfk]
        rfl
      · have : (k ∈ todo.map Prod.fst) ↔ k ∈ rest.map Prod.fst := by rw [e1]; simp [hk]
        rw [if_neg hk]
        simp only [this]
  subst h0
  refine hR _ _ _ ?_; clear hR R
  (refine seqX_hide2 fun R hR => ?_; simp [go_sem, d2927, d2729, g0, g1, g2, g3, g4, g11, g29]; refine hR _ _ _ ?_; clear hR R)
  rw [seqX_nil]
  refine hK _ _ _ ?_; clear hK K
  refine hN9 _ _ _ ?_
  refine xc_two fun N10 hN10 => ?_
  refine xc_iffalse (by simp [go_sem, d2927, d2729, g0, g1, g2, g3, g4, g11, g29]) ?_
  refine hX1 _ _ _ _ ?_
  refine hN7 _ _ _ ?_
  refine xc_two fun N11 hN11 => ?_
  refine xc_two fun N12 hN12 => ?_
  refine xc_reg1 2 rfl fun K hK => ?_
  simp only [show (List.range 2).map (·, true) = [(0, true), (1, true)] from rfl, rslv_cons, rslv_nil, List.getElem?_toArray, List.getElem?_cons_zero, List.getElem?_cons_succ, gres]
  (refine seqX_hide2 fun R hR => ?_; simp [go_sem, d2927, d2729, g0, g1, g2, g3, g4, g11, g29]; refine hR _ _ _ ?_; clear hR R)
  refine seqX_hide2 fun R hR => ?_
  simp [go_sem, d2927, d2729, g0, g1, g2, g3, g4, g11, g29]
  refine sink_goal 0 hP rfl fun hPn lq29 nq29 => ?_
  clear hP; have hP := hPn; clear hPn
  simp only [List.eraseIdx_cons_zero, List.eraseIdx_cons_succ, addrs_cons, addrs_nil] at hP ⊢
  have hobF : MF ob (fun k => nnB (f2 k)) := hob.ext fun k => by simp
  generalize hBe : A.set q29 oi = B0 at lq29 hP ⊢
  have hB1 := lq29 _ _ hA1
  have hB2 := lq29 _ _ hA2
  refine xrangeM (o := o1) (f := f1) hP (ov_base hP hB1) hm1 (kt := 9) (et := 20) (by kernel_rfl) (by simp [go_sem]) ?_
  clear hkd hkm hI hnd hmem hob hob0
  clear hP
  rintro q40 oi kv hkd hkm hI hP
  have d4027 : q40 ≠ q27 := (hP.ne q27 (by simp [addrs])).1
  have d2740 : q27 ≠ q40 := (hP.ne q27 (by simp [addrs])).2
  refine hR _ _ _ ?_; clear hR R
  rw [seqX_nil]
  refine hK _ _ _ ?_; clear hK K
  refine hN12 _ _ _ ?_
  rw [xc_block]
  rw [xc_loop]
  refine vloopK (fun k' e ds A' => ∃ (todo : TD) (D : View) (om : Obj) (oi : Obj), k' = todo.length ∧ ds = [] ∧ A' = ov D [(q40, oi), (q27, ob)] ∧ Priv D [q40, q27] ∧ e 0 = .func (.func 68) #[] #[] ∧ e 1 = .map (some r1) ∧ e 2 = .map (some r2) ∧ e 3 = .string s ∧ e 4 = .bool mg ∧ e 11 = .map (some q27) ∧ e 40 = .pointer (some ⟨q40, 0, none⟩) ∧ (MIt oi o1 r1 todo) ∧ (todo.Pairwise (fun a b => a.1 ≠ b.1)) ∧ (∀ p ∈ todo, f1 p.1 = some p.2) ∧ (D r1 = some o1) ∧ (D r2 = some om) ∧ (MF om (fun k => if k ∉ todo.map Prod.fst ∧ isN (f1 k) = true then some .nilIface else f2 k)) ∧ (∀ b o, b ≠ r2 → A b = some o → D b = some o) ∧ (∀ b, A b ≠ none → D b ≠ none)) _ ⟨kv, B0, o2, oi, rfl, rfl, rfl, hP, by simp [go_sem, d2927, d2729, g0, g1, g2, g3, g4, g11, g29, d4027, d2740], by simp [go_sem, d2927, d2729, g0, g1, g2, g3, g4, g11, g29, d4027, d2740], by simp [go_sem, d2927, d2729, g0, g1, g2, g3, g4, g11, g29, d4027, d2740], by simp [go_sem, d2927, d2729, g0, g1, g2, g3, g4, g11, g29, d4027, d2740], by simp [go_sem, d2927, d2729, g0, g1, g2, g3, g4, g11, g29, d4027, d2740], by simp [go_sem, d2927, d2729, g0, g1, g2, g3, g4, g11, g29, d4027, d2740], by simp [go_sem, d2927, d2729, g0, g1, g2, g3, g4, g11, g29, d4027, d2740], hI, hkd, fun p hp => (hkm p.1 p.2).1 hp, hB1, hB2, hm2.ext fun k => (if_neg fun hx => hx.1 (List.mem_map.2 ⟨_, (hkm k _).2 (isN_iff.1 hx.2), rfl⟩)).symm, fun b o _ hx => lq29 _ _ hx, fun b hb hz => hb (none_le lq29 hz)⟩ ?_
  clear g0 g1 g2 g3 g4 g11 g29
  clear hP
  rintro k' e ds _ ⟨todo, D, om, oi, rfl, rfl, rfl, hP, g0, g1, g2, g3, g4, g11, g40, hI, hnd, hmem, hD1, hD2, hom, hold, hdmD⟩ J1 X1 hJ1 hX1
  refine xc_sound _ ?_
  refine xc_two fun N13 hN13 => ?_
  refine xc_reg1 2 rfl fun K hK => ?_
  simp only [show (List.range 2).map (·, true) = [(0, true), (1, true)] from rfl, rslv_cons, rslv_nil, List.getElem?_toArray, List.getElem?_cons_zero, List.getElem?_cons_succ, gres]
  refine seqX_hide2 fun R hR => ?_
  simp [go_sem, d2927, d2729, d4027, d2740, g0, g1, g2, g3, g4, g11, g40]
  refine xnextH (ov_base hP hD1) hm1 hI (by simp [go_sem, g40]) (fun h0 => ?_) (fun pk pv rest oi' hp hI2 hAt => ?_)
  rotate_left
  · have hfk := hmem _ (mem_here hp)
    have hifc := ifc1 _ _ hfk
    have hkr := keys_rest hp hnd
    refine hR _ _ _ ?_; clear hR R
    (refine seqX_hide2 fun R hR => ?_; simp [go_sem, d2927, d2729, d4027, d2740, g0, g1, g2, g3, g4, g11, g40]; refine hR _ _ _ ?_; clear hR R)
    rw [seqX_nil]
    refine hK _ _ _ ?_; clear hK K
    refine hN13 _ _ _ ?_
    refine xc_two fun N14 hN14 => ?_
    refine xc_iftrue (by simp [go_sem, d2927, d2729, d4027, d2740, g0, g1, g2, g3, g4, g11, g40]) ?_
    refine hN14 _ _ _ ?_
    rw [xc_block]
    refine xc_two fun N15 hN15 => ?_
    refine xc_reg1 5 rfl fun K hK => ?_
    simp only [show (List.range 5).map (·, true) = [(0, true), (1, true), (2, true), (3, true), (4, true)] from rfl, rslv_cons, rslv_nil, List.getElem?_toArray, List.getElem?_cons_zero, List.getElem?_cons_succ, gres]
    refine seqX_hide2 fun R hR => ?_
    simp [go_sem, d2927, d2729, d4027, d2740, g0, g1, g2, g3, g4, g11, g40]
    refine xentryH (ov_base hP hD1) hAt (by simp [go_sem, g40]) ?_
    have hlen := hp.length_eq
    rw [List.length_cons] at hlen
    rcases hifc with rfl | ⟨ty, z, rfl⟩
    · skip
      refine hR _ _ _ ?_; clear hR R
      iterate 4 (refine seqX_hide2 fun R hR => ?_; simp [go_sem, d2927, d2729, d4027, d2740, g0, g1, g2, g3, g4, g11, g40]; refine hR _ _ _ ?_; clear hR R)
      rw [seqX_nil]
      refine hK _ _ _ ?_; clear hK K
      refine hN15 _ _ _ ?_
      refine xc_two fun N16 hN16 => ?_
      refine xc_reg1 2 rfl fun K hK => ?_
      simp only [show (List.range 2).map (·, true) = [(0, true), (1, true)] from rfl, rslv_cons, rslv_nil, List.getElem?_toArray, List.getElem?_cons_zero, List.getElem?_cons_succ, gres]
      iterate 2 (refine seqX_hide2 fun R hR => ?_; simp [go_sem, d2927, d2729, d4027, d2740, g0, g1, g2, g3, g4, g11, g40]; refine hR _ _ _ ?_; clear hR R)
      rw [seqX_nil]
      refine hK _ _ _ ?_; clear hK K
      refine hN16 _ _ _ ?_
      refine xc_iftrue (by simp [go_sem, d2927, d2729, d4027, d2740, g0, g1, g2, g3, g4, g11, g40]) ?_
      refine xc_reg1 3 rfl fun K hK => ?_
      simp only [show (List.range 3).map (·, true) = [(0, true), (1, true), (2, true)] from rfl, rslv_cons, rslv_nil, List.getElem?_toArray, List.getElem?_cons_zero, List.getElem?_cons_succ, gres]
      iterate 2 (refine seqX_hide2 fun R hR => ?_; simp [go_sem, d2927, d2729, d4027, d2740, g0, g1, g2, g3, g4, g11, g40]; refine hR _ _ _ ?_; clear hR R)
      refine seqX_hide2 fun R hR => ?_
      simp [go_sem, d2927, d2729, d4027, d2740, g0, g1, g2, g3, g4, g11, g40]
      refine mapset_bgoal hP hD2 hom (by simp [strMap, ti63, ti9]) ?_
      clear hP
      rintro om' hom' hP
      refine hR _ _ _ ?_; clear hR R
      rw [seqX_nil]
      refine hK _ _ _ ?_; clear hK K
      refine hJ1 ((rest).length) _ _ _ (by omega) ⟨rest, _, om', oi', rfl, rfl, rfl, hP, by simp [go_sem, d2927, d2729, d4027, d2740, g0, g1, g2, g3, g4, g11, g40], by simp [go_sem, d2927, d2729, d4027, d2740, g0, g1, g2, g3, g4, g11, g40], by simp [go_sem, d2927, d2729, d4027, d2740, g0, g1, g2, g3, g4, g11, g40], by simp [go_sem, d2927, d2729, d4027, d2740, g0, g1, g2, g3, g4, g11, g40], by simp [go_sem, d2927, d2729, d4027, d2740, g0, g1, g2, g3, g4, g11, g40], by simp [go_sem, d2927, d2729, d4027, d2740, g0, g1, g2, g3, g4, g11, g40], by simp [go_sem, d2927, d2729, d4027, d2740, g0, g1, g2, g3, g4, g11, g40], hI2, (nd_rest hp hnd).1, fun q hq => hmem q (mem_rest hp hq), by rw [set_other h12]; exact hD1, set_at _ _ _, hom'.ext fun k => ?_, fun b o hb hx => by rw [set_other hb]; exact hold b o hb hx, fun b hb hz => ?_⟩
      · obtain ⟨e1, e2⟩ := hkr k
        unfold FV.put
        by_cases hk : k = pk
        · subst hk
          rw [if_pos rfl, if_pos ⟨e2, isN_iff.2 hfk⟩]
        · have : (k ∈ todo.map Prod.fst) ↔ k ∈ rest.map Prod.fst := by rw [e1]; simp [hk]
          rw [if_neg hk]
          simp only [this]
      · by_cases hbr : b = r2
        · rw [hbr, set_at] at hz; cases hz
        · rw [set_other hbr] at hz; exact hdmD b hb hz
    · skip
      refine hR _ _ _ ?_; clear hR R
      iterate 4 (refine seqX_hide2 fun R hR => ?_; simp [go_sem, d2927, d2729, d4027, d2740, g0, g1, g2, g3, g4, g11, g40]; refine hR _ _ _ ?_; clear hR R)
      rw [seqX_nil]
      refine hK _ _ _ ?_; clear hK K
      refine hN15 _ _ _ ?_
      refine xc_two fun N16 hN16 => ?_
      refine xc_reg1 2 rfl fun K hK => ?_
      simp only [show (List.range 2).map (·, true) = [(0, true), (1, true)] from rfl, rslv_cons, rslv_nil, List.getElem?_toArray, List.getElem?_cons_zero, List.getElem?_cons_succ, gres]
      iterate 2 (refine seqX_hide2 fun R hR => ?_; simp [go_sem, d2927, d2729, d4027, d2740, g0, g1, g2, g3, g4, g11, g40]; refine hR _ _ _ ?_; clear hR R)
      rw [seqX_nil]
      refine hK _ _ _ ?_; clear hK K
      refine hN16 _ _ _ ?_
      refine xc_iffalse (by simp [go_sem, d2927, d2729, d4027, d2740, g0, g1, g2, g3, g4, g11, g40]) ?_
      refine hJ1 ((rest).length) _ _ _ (by omega) ⟨rest, D, om, oi', rfl, rfl, rfl, hP, by simp [go_sem, d2927, d2729, d4027, d2740, g0, g1, g2, g3, g4, g11, g40], by simp [go_sem, d2927, d2729, d4027, d2740, g0, g1, g2, g3, g4, g11, g40], by simp [go_sem, d2927, d2729, d4027, d2740, g0, g1, g2, g3, g4, g11, g40], by simp [go_sem, d2927, d2729, d4027, d2740, g0, g1, g2, g3, g4, g11, g40], by simp [go_sem, d2927, d2729, d4027, d2740, g0, g1, g2, g3, g4, g11, g40], by simp [go_sem, d2927, d2729, d4027, d2740, g0, g1, g2, g3, g4, g11, g40], by simp [go_sem, d2927, d2729, d4027, d2740, g0, g1, g2, g3, g4, g11, g40], hI2, (nd_rest hp hnd).1, fun q hq => hmem q (mem_rest hp hq), hD1, hD2, hom.ext fun k => ?_, hold, hdmD⟩
      obtain ⟨e1, e2⟩ := hkr k
      by_cases hk : k = pk
      · subst hk
        rw [if_neg (fun hx => hx.1 (e1.2 (.inl rfl))), if_neg (fun hx => by rw [hfk] at hx; cases hx.2)]
      · have : (k ∈ todo.map Prod.fst) ↔ k ∈ rest.map Prod.fst := by rw [e1]; simp [hk]
        simp only [this]
  subst h0
  refine hR _ _ _ ?_; clear hR R
  (refine seqX_hide2 fun R hR => ?_; simp [go_sem, d2927, d2729, d4027, d2740, g0, g1, g2, g3, g4, g11, g40]; refine hR _ _ _ ?_; clear hR R)
  rw [seqX_nil]
  refine hK _ _ _ ?_; clear hK K
  refine hN13 _ _ _ ?_
  refine xc_two fun N14 hN14 => ?_
  refine xc_iffalse (by simp [go_sem, d2927, d2729, d4027, d2740, g0, g1, g2, g3, g4, g11, g40]) ?_
  refine hX1 _ _ _ _ ?_
  refine hN11 _ _ _ ?_
  refine xc_two fun N15 hN15 => ?_
  refine xc_two fun N16 hN16 => ?_
  refine xc_reg1 2 rfl fun K hK => ?_
  simp only [show (List.range 2).map (·, true) = [(0, true), (1, true)] from rfl, rslv_cons, rslv_nil, List.getElem?_toArray, List.getElem?_cons_zero, List.getElem?_cons_succ, gres]
  (refine seqX_hide2 fun R hR => ?_; simp [go_sem, d2927, d2729, d4027, d2740, g0, g1, g2, g3, g4, g11, g40]; refine hR _ _ _ ?_; clear hR R)
  refine seqX_hide2 fun R hR => ?_
  simp [go_sem, d2927, d2729, d4027, d2740, g0, g1, g2, g3, g4, g11, g40]
  refine sink_goal 0 hP rfl fun hPn lq40 nq40 => ?_
  clear hP; have hP := hPn; clear hPn
  simp only [List.eraseIdx_cons_zero, List.eraseIdx_cons_succ, addrs_cons, addrs_nil] at hP ⊢
  have homF : MF om (fun k => if isN (f1 k) = true then some .nilIface else f2 k) := hom.ext fun k => by simp
  have hD1' := lq40 _ _ hD1
  have hD2' := lq40 _ _ hD2
  have hold3 : ∀ b o, b ≠ r2 → A b = some o → (D.set q40 oi) b = some o := fun b o hb hx => lq40 _ _ (hold b o hb hx)
  have hdm3 : ∀ b, A b ≠ none → (D.set q40 oi) b ≠ none := fun b hb hz => hdmD b hb (none_le lq40 hz)
  generalize D.set q40 oi = D3 at hP hD1' hD2' hold3 hdm3 ⊢
  clear hD1 hD2 hold hdmD lq40 nq40 hI hmem hnd hom hkd hkm hB1 hB2 lq29 nq29 hBe
  have hF12 : ∀ b, F1 b → b ≠ r2 := fun b hb hx => hdisj b hb (hx ▸ i2)
  refine xrangeM (o := om) (f := fun k => if isN (f1 k) = true then some .nilIface else f2 k) hP (ov_base hP hD2') homF (kt := 9) (et := 20) (by kernel_rfl) (by simp [go_sem]) ?_
  clear hP
  rintro q51 oi kv hkd hkm hI hP
  have d5127 : q51 ≠ q27 := (hP.ne q27 (by simp [addrs])).1
  have d2751 : q27 ≠ q51 := (hP.ne q27 (by simp [addrs])).2
  have hH0 : Half I A v w (cell mg) r1 r2 F1 F2 om f2 Fk kv D3 F1 := by
    refine ⟨hD2', ?_, fun p _ b hb hx => hdisj b hx (s2 _ b hb).1, fun hx => hF12 _ hx rfl, fun b hb => ⟨.inl hb, hdm3 b (hdom1 b hb)⟩, fun p _ u hu => ?_, fun b o ha h1 h2 => hold3 b o (fun hx => h2 (hx ▸ i2)) ha, hdm3⟩
    · have hT : TF I A r1 (at' v) F1 := ⟨o1, f1, Fk1, i1, hA1, hm1, s1, p1, z1, c1⟩
      refine (hT.congr (fun b o hb ha => hold3 b o (fun hx => (hdm2 r2 i2).2 (hx ▸ hb)) ha) fun b o hb ha => hold3 b o (hF12 b hb) ha).ext fun k => ?_
      unfold gcur
      split
      · rfl
      · rename_i hk
        cases hw : at' w k with
        | none => rw [cell]
        | some u =>
          exfalso
          obtain ⟨y, e1, _⟩ := c2 k u hw
          cases hn : isN (f1 k) with
          | true => exact hk (List.mem_map.2 ⟨(k, .nilIface), (hkm k _).2 (by rw [hn]; rfl), rfl⟩)
          | false => exact hk (List.mem_map.2 ⟨(k, y), (hkm k _).2 (by rw [hn]; exact e1), rfl⟩)
    · obtain ⟨y, e1, e2⟩ := c2 p.1 u hu
      exact ⟨y, e1, e2.congr _ _ _ (fun b o hb ha => hold3 b o (fun hx => (hdm2 r2 i2).2 (hx ▸ hb)) ha) fun b o hb ha => hold3 b o (s2 _ b hb).2 ha⟩
  refine hR _ _ _ ?_; clear hR R
  rw [seqX_nil]
  refine hK _ _ _ ?_; clear hK K
  refine hN16 _ _ _ ?_
  rw [xc_block]
  rw [xc_loop]
  refine vloopK (fun k' e ds A' => ∃ (todo : TD) (D : View) (F : FP) (oi : Obj), k' = todo.length ∧ ds = [] ∧ A' = ov D [(q51, oi), (q27, ob)] ∧ Priv D [q51, q27] ∧ e 0 = .func (.func 68) #[] #[] ∧ e 1 = .map (some r1) ∧ e 2 = .map (some r2) ∧ e 3 = .string s ∧ e 4 = .bool mg ∧ e 11 = .map (some q27) ∧ e 51 = .pointer (some ⟨q51, 0, none⟩) ∧ (MIt oi om r2 todo) ∧ (todo.Pairwise (fun a b => a.1 ≠ b.1)) ∧ (∀ p ∈ todo, (if isN (f1 p.1) = true then some .nilIface else f2 p.1) = some p.2) ∧ (Half I A v w (cell mg) r1 r2 F1 F2 om f2 Fk todo D F)) _ ⟨kv, D3, F1, oi, rfl, rfl, rfl, hP, by simp [go_sem, d2927, d2729, d4027, d2740, g0, g1, g2, g3, g4, g11, g40, d5127, d2751], by simp [go_sem, d2927, d2729, d4027, d2740, g0, g1, g2, g3, g4, g11, g40, d5127, d2751], by simp [go_sem, d2927, d2729, d4027, d2740, g0, g1, g2, g3, g4, g11, g40, d5127, d2751], by simp [go_sem, d2927, d2729, d4027, d2740, g0, g1, g2, g3, g4, g11, g40, d5127, d2751], by simp [go_sem, d2927, d2729, d4027, d2740, g0, g1, g2, g3, g4, g11, g40, d5127, d2751], by simp [go_sem, d2927, d2729, d4027, d2740, g0, g1, g2, g3, g4, g11, g40, d5127, d2751], by simp [go_sem, d2927, d2729, d4027, d2740, g0, g1, g2, g3, g4, g11, g40, d5127, d2751], hI, hkd, fun p hp => (hkm p.1 p.2).1 hp, hH0⟩ ?_
  clear g0 g1 g2 g3 g4 g11 g40
  clear hP
  rintro k' e ds _ ⟨todo, D, F, oi, rfl, rfl, rfl, hP, g0, g1, g2, g3, g4, g11, g51, hI, hnd, hmem, hH⟩ J1 X1 hJ1 hX1
  refine xc_sound _ ?_
  refine xc_two fun N17 hN17 => ?_
  refine xc_reg1 2 rfl fun K hK => ?_
  simp only [show (List.range 2).map (·, true) = [(0, true), (1, true)] from rfl, rslv_cons, rslv_nil, List.getElem?_toArray, List.getElem?_cons_zero, List.getElem?_cons_succ, gres]
  refine seqX_hide2 fun R hR => ?_
  simp [go_sem, d2927, d2729, d4027, d2740, d5127, d2751, g0, g1, g2, g3, g4, g11, g51]
  refine xnextH (ov_base hP hH.d2) homF hI (by simp [go_sem, g51]) (fun h0 => ?_) (fun pk pv rest oi' hp hI2 hAt => ?_)
  rotate_left
  · have hfk := hmem _ (mem_here hp)
    simp only at hfk
    have hlen := hp.length_eq
    rw [List.length_cons] at hlen
    have hmem' : ∀ p ∈ rest, (if isN (f1 p.1) = true then some .nilIface else f2 p.1) = some p.2 := fun q hq => hmem q (mem_rest hp hq)
    have hnd' := (nd_rest hp hnd).1
    have hlv1 : 0 < lv' := (good7 h72 hG').elim fun _ h => h.elim fun _ h => h.elim fun _ h => h.elim fun _ h => h.elim fun _ h => h.elim fun _ h => h.2.2.2
    have hpk : pk.size ≤ 1125899906842624 := by
      cases hw : at' w pk with
      | some u => exact (hkb'.at hw).2
      | none =>
        cases hv : at' v pk with
        | some x => exact (hkb.at hv).2
        | none =>
          rw [z1 pk hv, z2 pk hw] at hfk
          simp [isN] at hfk
    have hsb : s.size + pk.size + 1 ≤ (60 - (lv' - 1)) * 2251799813685248 := by
      have e : 60 - (lv' - 1) = (60 - lv') + 1 := by omega
      rw [e, Nat.add_mul]
      omega
    have hsb2 : (60 - (lv' - 1)) * 2251799813685248 ≤ 9223372036854775807 := Nat.le_trans (Nat.mul_le_mul_right _ (show 60 - (lv' - 1) ≤ 60 by omega)) (by decide)
    refine hR _ _ _ ?_; clear hR R
    (refine seqX_hide2 fun R hR => ?_; simp [go_sem, d2927, d2729, d4027, d2740, d5127, d2751, g0, g1, g2, g3, g4, g11, g51]; refine hR _ _ _ ?_; clear hR R)
    rw [seqX_nil]
    refine hK _ _ _ ?_; clear hK K
    refine hN17 _ _ _ ?_
    refine xc_two fun N18 hN18 => ?_
    refine xc_iftrue (by simp [go_sem, d2927, d2729, d4027, d2740, d5127, d2751, g0, g1, g2, g3, g4, g11, g51]) ?_
    refine hN18 _ _ _ ?_
    rw [xc_block]
    refine xc_two fun N19 hN19 => ?_
    refine xc_reg1 5 rfl fun K hK => ?_
    simp only [show (List.range 5).map (·, true) = [(0, true), (1, true), (2, true), (3, true), (4, true)] from rfl, rslv_cons, rslv_nil, List.getElem?_toArray, List.getElem?_cons_zero, List.getElem?_cons_succ, gres]
    refine seqX_hide2 fun R hR => ?_
    simp [go_sem, d2927, d2729, d4027, d2740, d5127, d2751, g0, g1, g2, g3, g4, g11, g51]
    refine xentryH (ov_base hP hH.d2) hAt (by simp [go_sem, g51]) ?_
    refine hR _ _ _ ?_; clear hR R
    iterate 4 (refine seqX_hide2 fun R hR => ?_; simp [go_sem, d2927, d2729, d4027, d2740, d5127, d2751, g0, g1, g2, g3, g4, g11, g51]; refine hR _ _ _ ?_; clear hR R)
    rw [seqX_nil]
    refine hK _ _ _ ?_; clear hK K
    refine hN19 _ _ _ ?_
    refine xc_two fun N20 hN20 => ?_
    refine xc_reg1 4 rfl fun K hK => ?_
    simp only [show (List.range 4).map (·, true) = [(0, true), (1, true), (2, true), (3, true)] from rfl, rslv_cons, rslv_nil, List.getElem?_toArray, List.getElem?_cons_zero, List.getElem?_cons_succ, gres]
    iterate 2 (refine seqX_hide2 fun R hR => ?_; simp [go_sem, d2927, d2729, d4027, d2740, d5127, d2751, g0, g1, g2, g3, g4, g11, g51]; refine hR _ _ _ ?_; clear hR R)
    refine seqX_hide2 fun R hR => ?_
    simp [go_sem, d2927, d2729, d4027, d2740, d5127, d2751, g0, g1, g2, g3, g4, g11, g51]
    refine call_same hP (concat79 D s pk (by omega)) ?_
    rintro _ ⟨s', rfl, hs'⟩
    obtain ⟨oT, fT, gT1, gT2, gT3, gT4, gT5⟩ := hH.t.get
    have hgh := gcur_here (v := v) (w := w) (C := cell mg) hp
    cases hv : at' v pk with
    | none =>
      have hfT := gT4 pk (hgh.trans hv)
      have hN : isN (f1 pk) = false := by rw [z1 pk hv]; rfl
      rw [hN] at hfk
      simp only [Bool.false_eq_true, if_false] at hfk
      refine hR _ _ _ ?_; clear hR R
      (refine seqX_hide2 fun R hR => ?_; simp [go_sem, d2927, d2729, d4027, d2740, d5127, d2751, g0, g1, g2, g3, g4, g11, g51, mlk ti63 ti9 (z := .nilIface) (by simp [zeroOf, ti20]) hP gT1 gT2, mlkI ti120 ti9 (z := .bool false) (by simp [zeroOf, ti4]) hobF, hfT]; refine hR _ _ _ ?_; clear hR R)
      rw [seqX_nil]
      refine hK _ _ _ ?_; clear hK K
      refine hN20 _ _ _ ?_
      refine xc_two fun N21 hN21 => ?_
      refine xc_reg1 8 rfl fun K hK => ?_
      simp only [show (List.range 8).map (·, true) = [(0, true), (1, true), (2, true), (3, true), (4, true), (5, true), (6, true), (7, true)] from rfl, rslv_cons, rslv_nil, List.getElem?_toArray, List.getElem?_cons_zero, List.getElem?_cons_succ, gres]
      iterate 8 (refine seqX_hide2 fun R hR => ?_; simp [go_sem, d2927, d2729, d4027, d2740, d5127, d2751, g0, g1, g2, g3, g4, g11, g51, mlk ti63 ti9 (z := .nilIface) (by simp [zeroOf, ti20]) hP gT1 gT2, mlkI ti120 ti9 (z := .bool false) (by simp [zeroOf, ti4]) hobF, hfT]; refine hR _ _ _ ?_; clear hR R)
      rw [seqX_nil]
      refine hK _ _ _ ?_; clear hK K
      refine hN21 _ _ _ ?_
      refine xc_two fun N22 hN22 => ?_
      refine xc_reg1 14 rfl fun K hK => ?_
      simp only [show (List.range 14).map (·, true) = [(0, true), (1, true), (2, true), (3, true), (4, true), (5, true), (6, true), (7, true), (8, true), (9, true), (10, true), (11, true), (12, true), (13, true)] from rfl, rslv_cons, rslv_nil, List.getElem?_toArray, List.getElem?_cons_zero, List.getElem?_cons_succ, gres]
      iterate 14 (refine seqX_hide2 fun R hR => ?_; simp [go_sem, d2927, d2729, d4027, d2740, d5127, d2751, g0, g1, g2, g3, g4, g11, g51, mlk ti63 ti9 (z := .nilIface) (by simp [zeroOf, ti20]) hP gT1 gT2, mlkI ti120 ti9 (z := .bool false) (by simp [zeroOf, ti4]) hobF, hfT]; refine hR _ _ _ ?_; clear hR R)
      rw [seqX_nil]
      refine hK _ _ _ ?_; clear hK K
      refine hN22 _ _ _ ?_
      refine xc_iffalse (by simp [go_sem, d2927, d2729, d4027, d2740, d5127, d2751, g0, g1, g2, g3, g4, g11, g51, mlk ti63 ti9 (z := .nilIface) (by simp [zeroOf, ti20]) hP gT1 gT2, mlkI ti120 ti9 (z := .bool false) (by simp [zeroOf, ti4]) hobF, hfT]) ?_
      refine xc_two fun N23 hN23 => ?_
      refine xc_reg1 2 rfl fun K hK => ?_
      simp only [show (List.range 2).map (·, true) = [(0, true), (1, true)] from rfl, rslv_cons, rslv_nil, List.getElem?_toArray, List.getElem?_cons_zero, List.getElem?_cons_succ, gres]
      iterate 2 (refine seqX_hide2 fun R hR => ?_; simp [go_sem, d2927, d2729, d4027, d2740, d5127, d2751, g0, g1, g2, g3, g4, g11, g51, mlk ti63 ti9 (z := .nilIface) (by simp [zeroOf, ti20]) hP gT1 gT2, mlkI ti120 ti9 (z := .bool false) (by simp [zeroOf, ti4]) hobF, hfT]; refine hR _ _ _ ?_; clear hR R)
      rw [seqX_nil]
      refine hK _ _ _ ?_; clear hK K
      refine hN23 _ _ _ ?_
      refine xc_iftrue (by simp [go_sem, d2927, d2729, d4027, d2740, d5127, d2751, g0, g1, g2, g3, g4, g11, g51, mlk ti63 ti9 (z := .nilIface) (by simp [zeroOf, ti20]) hP gT1 gT2, mlkI ti120 ti9 (z := .bool false) (by simp [zeroOf, ti4]) hobF, hfT]) ?_
      refine xc_reg1 4 rfl fun K hK => ?_
      simp only [show (List.range 4).map (·, true) = [(0, true), (1, true), (2, true), (3, true)] from rfl, rslv_cons, rslv_nil, List.getElem?_toArray, List.getElem?_cons_zero, List.getElem?_cons_succ, gres]
      iterate 3 (refine seqX_hide2 fun R hR => ?_; simp [go_sem, d2927, d2729, d4027, d2740, d5127, d2751, g0, g1, g2, g3, g4, g11, g51, mlk ti63 ti9 (z := .nilIface) (by simp [zeroOf, ti20]) hP gT1 gT2, mlkI ti120 ti9 (z := .bool false) (by simp [zeroOf, ti4]) hobF, hfT]; refine hR _ _ _ ?_; clear hR R)
      refine seqX_hide2 fun R hR => ?_
      simp [go_sem, d2927, d2729, d4027, d2740, d5127, d2751, g0, g1, g2, g3, g4, g11, g51, mlk ti63 ti9 (z := .nilIface) (by simp [zeroOf, ti20]) hP gT1 gT2, mlkI ti120 ti9 (z := .bool false) (by simp [zeroOf, ti4]) hobF, hfT]
      refine mapset_bgoal hP gT1 gT2 (by simp [strMap, ti63, ti9]) ?_
      clear hP
      rintro o' ho' hP
      refine hR _ _ _ ?_; clear hR R
      rw [seqX_nil]
      refine hK _ _ _ ?_; clear hK K
      cases hw : at' w pk with
      | none => rw [z2 pk hw] at hfk; cases hfk
      | some u =>
        refine hJ1 ((rest).length) _ _ _ (by omega) ⟨rest, _, fun b => F b ∨ Fk pk b, oi', rfl, rfl, rfl, hP, by simp [go_sem, d2927, d2729, d4027, d2740, d5127, d2751, g0, g1, g2, g3, g4, g11, g51, mlkI ti120 ti9 (z := .bool false) (by simp [zeroOf, ti4]) hobF, hfT], by simp [go_sem, d2927, d2729, d4027, d2740, d5127, d2751, g0, g1, g2, g3, g4, g11, g51, mlkI ti120 ti9 (z := .bool false) (by simp [zeroOf, ti4]) hobF, hfT], by simp [go_sem, d2927, d2729, d4027, d2740, d5127, d2751, g0, g1, g2, g3, g4, g11, g51, mlkI ti120 ti9 (z := .bool false) (by simp [zeroOf, ti4]) hobF, hfT], by simp [go_sem, d2927, d2729, d4027, d2740, d5127, d2751, g0, g1, g2, g3, g4, g11, g51, mlkI ti120 ti9 (z := .bool false) (by simp [zeroOf, ti4]) hobF, hfT], by simp [go_sem, d2927, d2729, d4027, d2740, d5127, d2751, g0, g1, g2, g3, g4, g11, g51, mlkI ti120 ti9 (z := .bool false) (by simp [zeroOf, ti4]) hobF, hfT], by simp [go_sem, d2927, d2729, d4027, d2740, d5127, d2751, g0, g1, g2, g3, g4, g11, g51, mlkI ti120 ti9 (z := .bool false) (by simp [zeroOf, ti4]) hobF, hfT], by simp [go_sem, d2927, d2729, d4027, d2740, d5127, d2751, g0, g1, g2, g3, g4, g11, g51, mlkI ti120 ti9 (z := .bool false) (by simp [zeroOf, ti4]) hobF, hfT], hI2, hnd', hmem', Half.put hS hH hp hnd gT1 gT2 hw hfk (by rw [hv, hw]; rfl) ho'⟩
    | some x =>
      obtain ⟨yv, G, hfT, hov, hGs, hback⟩ := gT5 pk x (hgh.trans hv)
      have hyi := hov.iface
      obtain ⟨y1, hf1, hy1⟩ := nil1 pk x hv
      by_cases hx0 : kindOf x = 0
      · have hyn := hov.isNil.2 hx0
        subst hyn
        have hN : isN (f1 pk) = true := by rw [hf1, hy1.2 hx0]; rfl
        rw [hN] at hfk
        simp only [if_true, Option.some.injEq] at hfk
        subst hfk
        refine hR _ _ _ ?_; clear hR R
        (refine seqX_hide2 fun R hR => ?_; simp [go_sem, d2927, d2729, d4027, d2740, d5127, d2751, g0, g1, g2, g3, g4, g11, g51, mlk ti63 ti9 (z := .nilIface) (by simp [zeroOf, ti20]) hP gT1 gT2, mlkI ti120 ti9 (z := .bool false) (by simp [zeroOf, ti4]) hobF, hfT]; refine hR _ _ _ ?_; clear hR R)
        rw [seqX_nil]
        refine hK _ _ _ ?_; clear hK K
        refine hN20 _ _ _ ?_
        refine xc_two fun N21 hN21 => ?_
        refine xc_reg1 8 rfl fun K hK => ?_
        simp only [show (List.range 8).map (·, true) = [(0, true), (1, true), (2, true), (3, true), (4, true), (5, true), (6, true), (7, true)] from rfl, rslv_cons, rslv_nil, List.getElem?_toArray, List.getElem?_cons_zero, List.getElem?_cons_succ, gres]
        iterate 8 (refine seqX_hide2 fun R hR => ?_; simp [go_sem, d2927, d2729, d4027, d2740, d5127, d2751, g0, g1, g2, g3, g4, g11, g51, mlk ti63 ti9 (z := .nilIface) (by simp [zeroOf, ti20]) hP gT1 gT2, mlkI ti120 ti9 (z := .bool false) (by simp [zeroOf, ti4]) hobF, hfT]; refine hR _ _ _ ?_; clear hR R)
        rw [seqX_nil]
        refine hK _ _ _ ?_; clear hK K
        refine hN21 _ _ _ ?_
        refine xc_two fun N22 hN22 => ?_
        have nf : ∀  (e : Env), Priv D [q51, q27] → e 0 = .func (.func 68) #[] #[] → e 1 = .map (some r1) → e 2 = .map (some r2) → e 3 = .string s → e 4 = .bool mg → e 11 = .map (some q27) → e 16 = .string pk → e 17 = .nilIface → e 18 = .string s' → e 19 = .nilIface → e 20 = .bool true → e 51 = .pointer (some ⟨q51, 0, none⟩) → e 79 = .bool false → (cell mg (at' v pk) (at' w pk) = at' v pk) → N22 e [] (ov D [(q51, oi'), (q27, ob)]) := by
          clear g0 g1 g2 g3 g4 g11 g51
          clear hP
          intro e hP g0 g1 g2 g3 g4 g11 g16 g17 g18 g19 g20 g51 g79 hc
          refine hN22 _ _ _ ?_
          refine xc_iffalse (by simp [go_sem, d2927, d2729, d4027, d2740, d5127, d2751, mlk ti63 ti9 (z := .nilIface) (by simp [zeroOf, ti20]) hP gT1 gT2, mlkI ti120 ti9 (z := .bool false) (by simp [zeroOf, ti4]) hobF, hfT, g0, g1, g2, g3, g4, g11, g16, g17, g18, g19, g20, g51, g79]) ?_
          refine xc_two fun N23 hN23 => ?_
          refine xc_reg1 2 rfl fun K hK => ?_
          simp only [show (List.range 2).map (·, true) = [(0, true), (1, true)] from rfl, rslv_cons, rslv_nil, List.getElem?_toArray, List.getElem?_cons_zero, List.getElem?_cons_succ, gres]
          iterate 2 (refine seqX_hide2 fun R hR => ?_; simp [go_sem, d2927, d2729, d4027, d2740, d5127, d2751, mlk ti63 ti9 (z := .nilIface) (by simp [zeroOf, ti20]) hP gT1 gT2, mlkI ti120 ti9 (z := .bool false) (by simp [zeroOf, ti4]) hobF, hfT, g0, g1, g2, g3, g4, g11, g16, g17, g18, g19, g20, g51, g79]; refine hR _ _ _ ?_; clear hR R)
          rw [seqX_nil]
          refine hK _ _ _ ?_; clear hK K
          refine hN23 _ _ _ ?_
          refine xc_iffalse (by simp [go_sem, d2927, d2729, d4027, d2740, d5127, d2751, mlk ti63 ti9 (z := .nilIface) (by simp [zeroOf, ti20]) hP gT1 gT2, mlkI ti120 ti9 (z := .bool false) (by simp [zeroOf, ti4]) hobF, hfT, g0, g1, g2, g3, g4, g11, g16, g17, g18, g19, g20, g51, g79]) ?_
          refine xc_two fun N24 hN24 => ?_
          refine xc_reg1 2 rfl fun K hK => ?_
          simp only [show (List.range 2).map (·, true) = [(0, true), (1, true)] from rfl, rslv_cons, rslv_nil, List.getElem?_toArray, List.getElem?_cons_zero, List.getElem?_cons_succ, gres]
          (refine seqX_hide2 fun R hR => ?_; simp [go_sem, d2927, d2729, d4027, d2740, d5127, d2751, mlk ti63 ti9 (z := .nilIface) (by simp [zeroOf, ti20]) hP gT1 gT2, mlkI ti120 ti9 (z := .bool false) (by simp [zeroOf, ti4]) hobF, hfT, g0, g1, g2, g3, g4, g11, g16, g17, g18, g19, g20, g51, g79]; refine hR _ _ _ ?_; clear hR R)
          refine seqX_hide2 fun R hR => ?_
          simp [go_sem, d2927, d2729, d4027, d2740, d5127, d2751, mlk ti63 ti9 (z := .nilIface) (by simp [zeroOf, ti20]) hP gT1 gT2, mlkI ti120 ti9 (z := .bool false) (by simp [zeroOf, ti4]) hobF, hfT, g0, g1, g2, g3, g4, g11, g16, g17, g18, g19, g20, g51, g79]
          refine call_same hP (istable80 D .nilIface (.inl rfl)) ?_
          rintro _ rfl
          refine hR _ _ _ ?_; clear hR R
          rw [seqX_nil]
          refine hK _ _ _ ?_; clear hK K
          refine hN24 _ _ _ ?_
          refine xc_iffalse (by simp [go_sem, d2927, d2729, d4027, d2740, d5127, d2751, mlk ti63 ti9 (z := .nilIface) (by simp [zeroOf, ti20]) hP gT1 gT2, mlkI ti120 ti9 (z := .bool false) (by simp [zeroOf, ti4]) hobF, hfT, g0, g1, g2, g3, g4, g11, g16, g17, g18, g19, g20, g51, g79, is63]) ?_
          refine xc_two fun N25 hN25 => ?_
          refine xc_reg1 6 rfl fun K hK => ?_
          simp only [show (List.range 6).map (·, true) = [(0, true), (1, true), (2, true), (3, true), (4, true), (5, true)] from rfl, rslv_cons, rslv_nil, List.getElem?_toArray, List.getElem?_cons_zero, List.getElem?_cons_succ, gres]
          (refine seqX_hide2 fun R hR => ?_; simp [go_sem, d2927, d2729, d4027, d2740, d5127, d2751, mlk ti63 ti9 (z := .nilIface) (by simp [zeroOf, ti20]) hP gT1 gT2, mlkI ti120 ti9 (z := .bool false) (by simp [zeroOf, ti4]) hobF, hfT, g0, g1, g2, g3, g4, g11, g16, g17, g18, g19, g20, g51, g79, is63]; refine hR _ _ _ ?_; clear hR R)
          refine seqX_hide2 fun R hR => ?_
          simp [go_sem, d2927, d2729, d4027, d2740, d5127, d2751, mlk ti63 ti9 (z := .nilIface) (by simp [zeroOf, ti20]) hP gT1 gT2, mlkI ti120 ti9 (z := .bool false) (by simp [zeroOf, ti4]) hobF, hfT, g0, g1, g2, g3, g4, g11, g16, g17, g18, g19, g20, g51, g79, is63]
          refine call_same hP (istable80 D .nilIface (.inl rfl)) ?_
          rintro _ rfl
          refine hR _ _ _ ?_; clear hR R
          iterate 4 (refine seqX_hide2 fun R hR => ?_; simp [go_sem, d2927, d2729, d4027, d2740, d5127, d2751, mlk ti63 ti9 (z := .nilIface) (by simp [zeroOf, ti20]) hP gT1 gT2, mlkI ti120 ti9 (z := .bool false) (by simp [zeroOf, ti4]) hobF, hfT, g0, g1, g2, g3, g4, g11, g16, g17, g18, g19, g20, g51, g79, is63]; refine hR _ _ _ ?_; clear hR R)
          rw [seqX_nil]
          refine hK _ _ _ ?_; clear hK K
          refine hN25 _ _ _ ?_
          refine xc_iffalse (by simp [go_sem, d2927, d2729, d4027, d2740, d5127, d2751, mlk ti63 ti9 (z := .nilIface) (by simp [zeroOf, ti20]) hP gT1 gT2, mlkI ti120 ti9 (z := .bool false) (by simp [zeroOf, ti4]) hobF, hfT, g0, g1, g2, g3, g4, g11, g16, g17, g18, g19, g20, g51, g79, is63]) ?_
          refine hJ1 ((rest).length) _ _ _ (by omega) ⟨rest, D, F, oi', rfl, rfl, rfl, hP, by simp [go_sem, d2927, d2729, d4027, d2740, d5127, d2751, mlk ti63 ti9 (z := .nilIface) (by simp [zeroOf, ti20]) hP gT1 gT2, mlkI ti120 ti9 (z := .bool false) (by simp [zeroOf, ti4]) hobF, hfT, g0, g1, g2, g3, g4, g11, g16, g17, g18, g19, g20, g51, g79, is63], by simp [go_sem, d2927, d2729, d4027, d2740, d5127, d2751, mlk ti63 ti9 (z := .nilIface) (by simp [zeroOf, ti20]) hP gT1 gT2, mlkI ti120 ti9 (z := .bool false) (by simp [zeroOf, ti4]) hobF, hfT, g0, g1, g2, g3, g4, g11, g16, g17, g18, g19, g20, g51, g79, is63], by simp [go_sem, d2927, d2729, d4027, d2740, d5127, d2751, mlk ti63 ti9 (z := .nilIface) (by simp [zeroOf, ti20]) hP gT1 gT2, mlkI ti120 ti9 (z := .bool false) (by simp [zeroOf, ti4]) hobF, hfT, g0, g1, g2, g3, g4, g11, g16, g17, g18, g19, g20, g51, g79, is63], by simp [go_sem, d2927, d2729, d4027, d2740, d5127, d2751, mlk ti63 ti9 (z := .nilIface) (by simp [zeroOf, ti20]) hP gT1 gT2, mlkI ti120 ti9 (z := .bool false) (by simp [zeroOf, ti4]) hobF, hfT, g0, g1, g2, g3, g4, g11, g16, g17, g18, g19, g20, g51, g79, is63], by simp [go_sem, d2927, d2729, d4027, d2740, d5127, d2751, mlk ti63 ti9 (z := .nilIface) (by simp [zeroOf, ti20]) hP gT1 gT2, mlkI ti120 ti9 (z := .bool false) (by simp [zeroOf, ti4]) hobF, hfT, g0, g1, g2, g3, g4, g11, g16, g17, g18, g19, g20, g51, g79, is63], by simp [go_sem, d2927, d2729, d4027, d2740, d5127, d2751, mlk ti63 ti9 (z := .nilIface) (by simp [zeroOf, ti20]) hP gT1 gT2, mlkI ti120 ti9 (z := .bool false) (by simp [zeroOf, ti4]) hobF, hfT, g0, g1, g2, g3, g4, g11, g16, g17, g18, g19, g20, g51, g79, is63], by simp [go_sem, d2927, d2729, d4027, d2740, d5127, d2751, mlk ti63 ti9 (z := .nilIface) (by simp [zeroOf, ti20]) hP gT1 gT2, mlkI ti120 ti9 (z := .bool false) (by simp [zeroOf, ti4]) hobF, hfT, g0, g1, g2, g3, g4, g11, g16, g17, g18, g19, g20, g51, g79, is63], hI2, hnd', hmem', hH.skip hp hnd hc⟩
        cases mg with
        | true =>
          refine xc_reg1 14 rfl fun K hK => ?_
          simp only [show (List.range 14).map (·, true) = [(0, true), (1, true), (2, true), (3, true), (4, true), (5, true), (6, true), (7, true), (8, true), (9, true), (10, true), (11, true), (12, true), (13, true)] from rfl, rslv_cons, rslv_nil, List.getElem?_toArray, List.getElem?_cons_zero, List.getElem?_cons_succ, gres]
          iterate 14 (refine seqX_hide2 fun R hR => ?_; simp [go_sem, d2927, d2729, d4027, d2740, d5127, d2751, g0, g1, g2, g3, g4, g11, g51, mlk ti63 ti9 (z := .nilIface) (by simp [zeroOf, ti20]) hP gT1 gT2, mlkI ti120 ti9 (z := .bool false) (by simp [zeroOf, ti4]) hobF, hfT]; refine hR _ _ _ ?_; clear hR R)
          rw [seqX_nil]
          refine hK _ _ _ ?_; clear hK K
          exact nf  _ hP (by simp [go_sem, d2927, d2729, d4027, d2740, d5127, d2751, g0, g1, g2, g3, g4, g11, g51, mlk ti63 ti9 (z := .nilIface) (by simp [zeroOf, ti20]) hP gT1 gT2, mlkI ti120 ti9 (z := .bool false) (by simp [zeroOf, ti4]) hobF, hfT]) (by simp [go_sem, d2927, d2729, d4027, d2740, d5127, d2751, g0, g1, g2, g3, g4, g11, g51, mlk ti63 ti9 (z := .nilIface) (by simp [zeroOf, ti20]) hP gT1 gT2, mlkI ti120 ti9 (z := .bool false) (by simp [zeroOf, ti4]) hobF, hfT]) (by simp [go_sem, d2927, d2729, d4027, d2740, d5127, d2751, g0, g1, g2, g3, g4, g11, g51, mlk ti63 ti9 (z := .nilIface) (by simp [zeroOf, ti20]) hP gT1 gT2, mlkI ti120 ti9 (z := .bool false) (by simp [zeroOf, ti4]) hobF, hfT]) (by simp [go_sem, d2927, d2729, d4027, d2740, d5127, d2751, g0, g1, g2, g3, g4, g11, g51, mlk ti63 ti9 (z := .nilIface) (by simp [zeroOf, ti20]) hP gT1 gT2, mlkI ti120 ti9 (z := .bool false) (by simp [zeroOf, ti4]) hobF, hfT]) (by simp [go_sem, d2927, d2729, d4027, d2740, d5127, d2751, g0, g1, g2, g3, g4, g11, g51, mlk ti63 ti9 (z := .nilIface) (by simp [zeroOf, ti20]) hP gT1 gT2, mlkI ti120 ti9 (z := .bool false) (by simp [zeroOf, ti4]) hobF, hfT]) (by simp [go_sem, d2927, d2729, d4027, d2740, d5127, d2751, g0, g1, g2, g3, g4, g11, g51, mlk ti63 ti9 (z := .nilIface) (by simp [zeroOf, ti20]) hP gT1 gT2, mlkI ti120 ti9 (z := .bool false) (by simp [zeroOf, ti4]) hobF, hfT]) (by simp [go_sem, d2927, d2729, d4027, d2740, d5127, d2751, g0, g1, g2, g3, g4, g11, g51, mlk ti63 ti9 (z := .nilIface) (by simp [zeroOf, ti20]) hP gT1 gT2, mlkI ti120 ti9 (z := .bool false) (by simp [zeroOf, ti4]) hobF, hfT]) (by simp [go_sem, d2927, d2729, d4027, d2740, d5127, d2751, g0, g1, g2, g3, g4, g11, g51, mlk ti63 ti9 (z := .nilIface) (by simp [zeroOf, ti20]) hP gT1 gT2, mlkI ti120 ti9 (z := .bool false) (by simp [zeroOf, ti4]) hobF, hfT]) (by simp [go_sem, d2927, d2729, d4027, d2740, d5127, d2751, g0, g1, g2, g3, g4, g11, g51, mlk ti63 ti9 (z := .nilIface) (by simp [zeroOf, ti20]) hP gT1 gT2, mlkI ti120 ti9 (z := .bool false) (by simp [zeroOf, ti4]) hobF, hfT]) (by simp [go_sem, d2927, d2729, d4027, d2740, d5127, d2751, g0, g1, g2, g3, g4, g11, g51, mlk ti63 ti9 (z := .nilIface) (by simp [zeroOf, ti20]) hP gT1 gT2, mlkI ti120 ti9 (z := .bool false) (by simp [zeroOf, ti4]) hobF, hfT]) (by simp [go_sem, d2927, d2729, d4027, d2740, d5127, d2751, g0, g1, g2, g3, g4, g11, g51, mlk ti63 ti9 (z := .nilIface) (by simp [zeroOf, ti20]) hP gT1 gT2, mlkI ti120 ti9 (z := .bool false) (by simp [zeroOf, ti4]) hobF, hfT]) (by simp [go_sem, d2927, d2729, d4027, d2740, d5127, d2751, g0, g1, g2, g3, g4, g11, g51, mlk ti63 ti9 (z := .nilIface) (by simp [zeroOf, ti20]) hP gT1 gT2, mlkI ti120 ti9 (z := .bool false) (by simp [zeroOf, ti4]) hobF, hfT]) (by simp [go_sem, d2927, d2729, d4027, d2740, d5127, d2751, g0, g1, g2, g3, g4, g11, g51, mlk ti63 ti9 (z := .nilIface) (by simp [zeroOf, ti20]) hP gT1 gT2, mlkI ti120 ti9 (z := .bool false) (by simp [zeroOf, ti4]) hobF, hfT]) (by rw [hv]; cases at' w pk <;> simp [cell, hx0])
        | false =>
          cases hw : at' w pk with
          | none =>
            have hf2 : nnB (f2 pk) = none := by rw [z2 pk hw]; rfl
            refine xc_reg1 14 rfl fun K hK => ?_
            simp only [show (List.range 14).map (·, true) = [(0, true), (1, true), (2, true), (3, true), (4, true), (5, true), (6, true), (7, true), (8, true), (9, true), (10, true), (11, true), (12, true), (13, true)] from rfl, rslv_cons, rslv_nil, List.getElem?_toArray, List.getElem?_cons_zero, List.getElem?_cons_succ, gres]
            iterate 14 (refine seqX_hide2 fun R hR => ?_; simp [go_sem, d2927, d2729, d4027, d2740, d5127, d2751, g0, g1, g2, g3, g4, g11, g51, mlk ti63 ti9 (z := .nilIface) (by simp [zeroOf, ti20]) hP gT1 gT2, mlkI ti120 ti9 (z := .bool false) (by simp [zeroOf, ti4]) hobF, hfT, hf2]; refine hR _ _ _ ?_; clear hR R)
            rw [seqX_nil]
            refine hK _ _ _ ?_; clear hK K
            exact nf  _ hP (by simp [go_sem, d2927, d2729, d4027, d2740, d5127, d2751, g0, g1, g2, g3, g4, g11, g51, mlk ti63 ti9 (z := .nilIface) (by simp [zeroOf, ti20]) hP gT1 gT2, mlkI ti120 ti9 (z := .bool false) (by simp [zeroOf, ti4]) hobF, hfT, hf2]) (by simp [go_sem, d2927, d2729, d4027, d2740, d5127, d2751, g0, g1, g2, g3, g4, g11, g51, mlk ti63 ti9 (z := .nilIface) (by simp [zeroOf, ti20]) hP gT1 gT2, mlkI ti120 ti9 (z := .bool false) (by simp [zeroOf, ti4]) hobF, hfT, hf2]) (by simp [go_sem, d2927, d2729, d4027, d2740, d5127, d2751, g0, g1, g2, g3, g4, g11, g51, mlk ti63 ti9 (z := .nilIface) (by simp [zeroOf, ti20]) hP gT1 gT2, mlkI ti120 ti9 (z := .bool false) (by simp [zeroOf, ti4]) hobF, hfT, hf2]) (by simp [go_sem, d2927, d2729, d4027, d2740, d5127, d2751, g0, g1, g2, g3, g4, g11, g51, mlk ti63 ti9 (z := .nilIface) (by simp [zeroOf, ti20]) hP gT1 gT2, mlkI ti120 ti9 (z := .bool false) (by simp [zeroOf, ti4]) hobF, hfT, hf2]) (by simp [go_sem, d2927, d2729, d4027, d2740, d5127, d2751, g0, g1, g2, g3, g4, g11, g51, mlk ti63 ti9 (z := .nilIface) (by simp [zeroOf, ti20]) hP gT1 gT2, mlkI ti120 ti9 (z := .bool false) (by simp [zeroOf, ti4]) hobF, hfT, hf2]) (by simp [go_sem, d2927, d2729, d4027, d2740, d5127, d2751, g0, g1, g2, g3, g4, g11, g51, mlk ti63 ti9 (z := .nilIface) (by simp [zeroOf, ti20]) hP gT1 gT2, mlkI ti120 ti9 (z := .bool false) (by simp [zeroOf, ti4]) hobF, hfT, hf2]) (by simp [go_sem, d2927, d2729, d4027, d2740, d5127, d2751, g0, g1, g2, g3, g4, g11, g51, mlk ti63 ti9 (z := .nilIface) (by simp [zeroOf, ti20]) hP gT1 gT2, mlkI ti120 ti9 (z := .bool false) (by simp [zeroOf, ti4]) hobF, hfT, hf2]) (by simp [go_sem, d2927, d2729, d4027, d2740, d5127, d2751, g0, g1, g2, g3, g4, g11, g51, mlk ti63 ti9 (z := .nilIface) (by simp [zeroOf, ti20]) hP gT1 gT2, mlkI ti120 ti9 (z := .bool false) (by simp [zeroOf, ti4]) hobF, hfT, hf2]) (by simp [go_sem, d2927, d2729, d4027, d2740, d5127, d2751, g0, g1, g2, g3, g4, g11, g51, mlk ti63 ti9 (z := .nilIface) (by simp [zeroOf, ti20]) hP gT1 gT2, mlkI ti120 ti9 (z := .bool false) (by simp [zeroOf, ti4]) hobF, hfT, hf2]) (by simp [go_sem, d2927, d2729, d4027, d2740, d5127, d2751, g0, g1, g2, g3, g4, g11, g51, mlk ti63 ti9 (z := .nilIface) (by simp [zeroOf, ti20]) hP gT1 gT2, mlkI ti120 ti9 (z := .bool false) (by simp [zeroOf, ti4]) hobF, hfT, hf2]) (by simp [go_sem, d2927, d2729, d4027, d2740, d5127, d2751, g0, g1, g2, g3, g4, g11, g51, mlk ti63 ti9 (z := .nilIface) (by simp [zeroOf, ti20]) hP gT1 gT2, mlkI ti120 ti9 (z := .bool false) (by simp [zeroOf, ti4]) hobF, hfT, hf2]) (by simp [go_sem, d2927, d2729, d4027, d2740, d5127, d2751, g0, g1, g2, g3, g4, g11, g51, mlk ti63 ti9 (z := .nilIface) (by simp [zeroOf, ti20]) hP gT1 gT2, mlkI ti120 ti9 (z := .bool false) (by simp [zeroOf, ti4]) hobF, hfT, hf2]) (by simp [go_sem, d2927, d2729, d4027, d2740, d5127, d2751, g0, g1, g2, g3, g4, g11, g51, mlk ti63 ti9 (z := .nilIface) (by simp [zeroOf, ti20]) hP gT1 gT2, mlkI ti120 ti9 (z := .bool false) (by simp [zeroOf, ti4]) hobF, hfT, hf2]) (by rw [hv, hw]; rfl)
          | some u =>
            obtain ⟨y2, hf2, hy2⟩ := nil2 pk u hw
            by_cases hu0 : kindOf u = 0
            · have hf3 : nnB (f2 pk) = none := by rw [hf2, hy2.2 hu0]; rfl
              refine xc_reg1 14 rfl fun K hK => ?_
              simp only [show (List.range 14).map (·, true) = [(0, true), (1, true), (2, true), (3, true), (4, true), (5, true), (6, true), (7, true), (8, true), (9, true), (10, true), (11, true), (12, true), (13, true)] from rfl, rslv_cons, rslv_nil, List.getElem?_toArray, List.getElem?_cons_zero, List.getElem?_cons_succ, gres]
              iterate 14 (refine seqX_hide2 fun R hR => ?_; simp [go_sem, d2927, d2729, d4027, d2740, d5127, d2751, g0, g1, g2, g3, g4, g11, g51, mlk ti63 ti9 (z := .nilIface) (by simp [zeroOf, ti20]) hP gT1 gT2, mlkI ti120 ti9 (z := .bool false) (by simp [zeroOf, ti4]) hobF, hfT, hf3]; refine hR _ _ _ ?_; clear hR R)
              rw [seqX_nil]
              refine hK _ _ _ ?_; clear hK K
              exact nf  _ hP (by simp [go_sem, d2927, d2729, d4027, d2740, d5127, d2751, g0, g1, g2, g3, g4, g11, g51, mlk ti63 ti9 (z := .nilIface) (by simp [zeroOf, ti20]) hP gT1 gT2, mlkI ti120 ti9 (z := .bool false) (by simp [zeroOf, ti4]) hobF, hfT, hf3]) (by simp [go_sem, d2927, d2729, d4027, d2740, d5127, d2751, g0, g1, g2, g3, g4, g11, g51, mlk ti63 ti9 (z := .nilIface) (by simp [zeroOf, ti20]) hP gT1 gT2, mlkI ti120 ti9 (z := .bool false) (by simp [zeroOf, ti4]) hobF, hfT, hf3]) (by simp [go_sem, d2927, d2729, d4027, d2740, d5127, d2751, g0, g1, g2, g3, g4, g11, g51, mlk ti63 ti9 (z := .nilIface) (by simp [zeroOf, ti20]) hP gT1 gT2, mlkI ti120 ti9 (z := .bool false) (by simp [zeroOf, ti4]) hobF, hfT, hf3]) (by simp [go_sem, d2927, d2729, d4027, d2740, d5127, d2751, g0, g1, g2, g3, g4, g11, g51, mlk ti63 ti9 (z := .nilIface) (by simp [zeroOf, ti20]) hP gT1 gT2, mlkI ti120 ti9 (z := .bool false) (by simp [zeroOf, ti4]) hobF, hfT, hf3]) (by simp [go_sem, d2927, d2729, d4027, d2740, d5127, d2751, g0, g1, g2, g3, g4, g11, g51, mlk ti63 ti9 (z := .nilIface) (by simp [zeroOf, ti20]) hP gT1 gT2, mlkI ti120 ti9 (z := .bool false) (by simp [zeroOf, ti4]) hobF, hfT, hf3]) (by simp [go_sem, d2927, d2729, d4027, d2740, d5127, d2751, g0, g1, g2, g3, g4, g11, g51, mlk ti63 ti9 (z := .nilIface) (by simp [zeroOf, ti20]) hP gT1 gT2, mlkI ti120 ti9 (z := .bool false) (by simp [zeroOf, ti4]) hobF, hfT, hf3]) (by simp [go_sem, d2927, d2729, d4027, d2740, d5127, d2751, g0, g1, g2, g3, g4, g11, g51, mlk ti63 ti9 (z := .nilIface) (by simp [zeroOf, ti20]) hP gT1 gT2, mlkI ti120 ti9 (z := .bool false) (by simp [zeroOf, ti4]) hobF, hfT, hf3]) (by simp [go_sem, d2927, d2729, d4027, d2740, d5127, d2751, g0, g1, g2, g3, g4, g11, g51, mlk ti63 ti9 (z := .nilIface) (by simp [zeroOf, ti20]) hP gT1 gT2, mlkI ti120 ti9 (z := .bool false) (by simp [zeroOf, ti4]) hobF, hfT, hf3]) (by simp [go_sem, d2927, d2729, d4027, d2740, d5127, d2751, g0, g1, g2, g3, g4, g11, g51, mlk ti63 ti9 (z := .nilIface) (by simp [zeroOf, ti20]) hP gT1 gT2, mlkI ti120 ti9 (z := .bool false) (by simp [zeroOf, ti4]) hobF, hfT, hf3]) (by simp [go_sem, d2927, d2729, d4027, d2740, d5127, d2751, g0, g1, g2, g3, g4, g11, g51, mlk ti63 ti9 (z := .nilIface) (by simp [zeroOf, ti20]) hP gT1 gT2, mlkI ti120 ti9 (z := .bool false) (by simp [zeroOf, ti4]) hobF, hfT, hf3]) (by simp [go_sem, d2927, d2729, d4027, d2740, d5127, d2751, g0, g1, g2, g3, g4, g11, g51, mlk ti63 ti9 (z := .nilIface) (by simp [zeroOf, ti20]) hP gT1 gT2, mlkI ti120 ti9 (z := .bool false) (by simp [zeroOf, ti4]) hobF, hfT, hf3]) (by simp [go_sem, d2927, d2729, d4027, d2740, d5127, d2751, g0, g1, g2, g3, g4, g11, g51, mlk ti63 ti9 (z := .nilIface) (by simp [zeroOf, ti20]) hP gT1 gT2, mlkI ti120 ti9 (z := .bool false) (by simp [zeroOf, ti4]) hobF, hfT, hf3]) (by simp [go_sem, d2927, d2729, d4027, d2740, d5127, d2751, g0, g1, g2, g3, g4, g11, g51, mlk ti63 ti9 (z := .nilIface) (by simp [zeroOf, ti20]) hP gT1 gT2, mlkI ti120 ti9 (z := .bool false) (by simp [zeroOf, ti4]) hobF, hfT, hf3]) (by rw [hv, hw]; simp [cell, hx0, hu0])
            · have hf3 : nnB (f2 pk) = some (.bool true) := by
                rcases ifc2 pk y2 hf2 with rfl | ⟨ty, z, rfl⟩
                · exact absurd (hy2.1 rfl) hu0
                · rw [hf2]; rfl
              refine xc_reg1 14 rfl fun K hK => ?_
              simp only [show (List.range 14).map (·, true) = [(0, true), (1, true), (2, true), (3, true), (4, true), (5, true), (6, true), (7, true), (8, true), (9, true), (10, true), (11, true), (12, true), (13, true)] from rfl, rslv_cons, rslv_nil, List.getElem?_toArray, List.getElem?_cons_zero, List.getElem?_cons_succ, gres]
              iterate 14 (refine seqX_hide2 fun R hR => ?_; simp [go_sem, d2927, d2729, d4027, d2740, d5127, d2751, g0, g1, g2, g3, g4, g11, g51, mlk ti63 ti9 (z := .nilIface) (by simp [zeroOf, ti20]) hP gT1 gT2, mlkI ti120 ti9 (z := .bool false) (by simp [zeroOf, ti4]) hobF, hfT, hf3]; refine hR _ _ _ ?_; clear hR R)
              rw [seqX_nil]
              refine hK _ _ _ ?_; clear hK K
              refine hN22 _ _ _ ?_
              refine xc_iftrue (by simp [go_sem, d2927, d2729, d4027, d2740, d5127, d2751, g0, g1, g2, g3, g4, g11, g51, mlk ti63 ti9 (z := .nilIface) (by simp [zeroOf, ti20]) hP gT1 gT2, mlkI ti120 ti9 (z := .bool false) (by simp [zeroOf, ti4]) hobF, hfT, hf3]) ?_
              refine xc_reg1 3 rfl fun K hK => ?_
              simp only [show (List.range 3).map (·, true) = [(0, true), (1, true), (2, true)] from rfl, rslv_cons, rslv_nil, List.getElem?_toArray, List.getElem?_cons_zero, List.getElem?_cons_succ, gres]
              iterate 2 (refine seqX_hide2 fun R hR => ?_; simp [go_sem, d2927, d2729, d4027, d2740, d5127, d2751, g0, g1, g2, g3, g4, g11, g51, mlk ti63 ti9 (z := .nilIface) (by simp [zeroOf, ti20]) hP gT1 gT2, mlkI ti120 ti9 (z := .bool false) (by simp [zeroOf, ti4]) hobF, hfT, hf3]; refine hR _ _ _ ?_; clear hR R)
              refine seqX_hide2 fun R hR => ?_
              simp [go_sem, d2927, d2729, d4027, d2740, d5127, d2751, g0, g1, g2, g3, g4, g11, g51, mlk ti63 ti9 (z := .nilIface) (by simp [zeroOf, ti20]) hP gT1 gT2, mlkI ti120 ti9 (z := .bool false) (by simp [zeroOf, ti4]) hobF, hfT, hf3]
              refine mapdel_bgoal hP gT1 gT2 (by simp [strMap, ti63, ti9]) ?_
              clear hP
              rintro o' ho' hP
              refine hR _ _ _ ?_; clear hR R
              rw [seqX_nil]
              refine hK _ _ _ ?_; clear hK K
              refine hJ1 ((rest).length) _ _ _ (by omega) ⟨rest, _, F, oi', rfl, rfl, rfl, hP, by simp [go_sem, d2927, d2729, d4027, d2740, d5127, d2751, g0, g1, g2, g3, g4, g11, g51, mlkI ti120 ti9 (z := .bool false) (by simp [zeroOf, ti4]) hobF, hfT, hf3], by simp [go_sem, d2927, d2729, d4027, d2740, d5127, d2751, g0, g1, g2, g3, g4, g11, g51, mlkI ti120 ti9 (z := .bool false) (by simp [zeroOf, ti4]) hobF, hfT, hf3], by simp [go_sem, d2927, d2729, d4027, d2740, d5127, d2751, g0, g1, g2, g3, g4, g11, g51, mlkI ti120 ti9 (z := .bool false) (by simp [zeroOf, ti4]) hobF, hfT, hf3], by simp [go_sem, d2927, d2729, d4027, d2740, d5127, d2751, g0, g1, g2, g3, g4, g11, g51, mlkI ti120 ti9 (z := .bool false) (by simp [zeroOf, ti4]) hobF, hfT, hf3], by simp [go_sem, d2927, d2729, d4027, d2740, d5127, d2751, g0, g1, g2, g3, g4, g11, g51, mlkI ti120 ti9 (z := .bool false) (by simp [zeroOf, ti4]) hobF, hfT, hf3], by simp [go_sem, d2927, d2729, d4027, d2740, d5127, d2751, g0, g1, g2, g3, g4, g11, g51, mlkI ti120 ti9 (z := .bool false) (by simp [zeroOf, ti4]) hobF, hfT, hf3], by simp [go_sem, d2927, d2729, d4027, d2740, d5127, d2751, g0, g1, g2, g3, g4, g11, g51, mlkI ti120 ti9 (z := .bool false) (by simp [zeroOf, ti4]) hobF, hfT, hf3], hI2, hnd', hmem', Half.del hS hH hp hnd gT1 gT2 (by rw [hv, hw]; simp [cell, hx0, hu0]) ho'⟩
      · have hN : isN (f1 pk) = false := by
          cases hb : isN (f1 pk) with
          | false => rfl
          | true =>
            have := isN_iff.1 hb
            rw [hf1, Option.some.injEq] at this
            exact absurd (hy1.1 this) hx0
        rw [hN] at hfk
        simp only [Bool.false_eq_true, if_false] at hfk
        cases hw : at' w pk with
        | none => rw [z2 pk hw] at hfk; cases hfk
        | some u =>
        obtain ⟨y2, e2, hu⟩ := hH.ch _ (mem_here hp) u hw
        simp only at e2
        rw [hfk, Option.some.injEq] at e2
        subst e2
        have hpvi := hu.iface
        rcases hyi with rfl | ⟨ty, yz, rfl⟩
        · exact absurd (hov.isNil.1 rfl) hx0
        have huis := hu.is63
        have hpm := hu.cells
        simp only [Value.cells] at hpm
        have hxis := hov.is63
        have hskip : ¬ (kindOf x = 7 ∧ kindOf u = 7) → cell mg (at' v pk) (at' w pk) = at' v pk := fun h => by
          rw [hv, hw]
          simp only [cell]
          rw [if_neg (fun hx => hx0 hx.1), if_neg (fun hx => hx0 hx.1), if_neg h]
        refine hR _ _ _ ?_; clear hR R
        (refine seqX_hide2 fun R hR => ?_; simp [go_sem, d2927, d2729, d4027, d2740, d5127, d2751, g0, g1, g2, g3, g4, g11, g51, mlk ti63 ti9 (z := .nilIface) (by simp [zeroOf, ti20]) hP gT1 gT2, mlkI ti120 ti9 (z := .bool false) (by simp [zeroOf, ti4]) hobF, hfT]; refine hR _ _ _ ?_; clear hR R)
        rw [seqX_nil]
        refine hK _ _ _ ?_; clear hK K
        refine hN20 _ _ _ ?_
        refine xc_two fun N21 hN21 => ?_
        refine xc_reg1 8 rfl fun K hK => ?_
        simp only [show (List.range 8).map (·, true) = [(0, true), (1, true), (2, true), (3, true), (4, true), (5, true), (6, true), (7, true)] from rfl, rslv_cons, rslv_nil, List.getElem?_toArray, List.getElem?_cons_zero, List.getElem?_cons_succ, gres]
        iterate 8 (refine seqX_hide2 fun R hR => ?_; simp [go_sem, d2927, d2729, d4027, d2740, d5127, d2751, g0, g1, g2, g3, g4, g11, g51, mlk ti63 ti9 (z := .nilIface) (by simp [zeroOf, ti20]) hP gT1 gT2, mlkI ti120 ti9 (z := .bool false) (by simp [zeroOf, ti4]) hobF, hfT]; refine hR _ _ _ ?_; clear hR R)
        rw [seqX_nil]
        refine hK _ _ _ ?_; clear hK K
        refine hN21 _ _ _ ?_
        refine xc_two fun N22 hN22 => ?_
        have nf : ∀  (e : Env), Priv D [q51, q27] → e 0 = .func (.func 68) #[] #[] → e 1 = .map (some r1) → e 2 = .map (some r2) → e 3 = .string s → e 4 = .bool mg → e 11 = .map (some q27) → e 16 = .string pk → e 17 = pv → e 18 = .string s' → e 19 = .iface ty yz → e 20 = .bool true → e 51 = .pointer (some ⟨q51, 0, none⟩) → e 79 = .bool false → N22 e [] (ov D [(q51, oi'), (q27, ob)]) := by
          clear g0 g1 g2 g3 g4 g11 g51
          clear hP
          intro e hP g0 g1 g2 g3 g4 g11 g16 g17 g18 g19 g20 g51 g79
          refine hN22 _ _ _ ?_
          refine xc_iffalse (by simp [go_sem, d2927, d2729, d4027, d2740, d5127, d2751, mlk ti63 ti9 (z := .nilIface) (by simp [zeroOf, ti20]) hP gT1 gT2, mlkI ti120 ti9 (z := .bool false) (by simp [zeroOf, ti4]) hobF, hfT, g0, g1, g2, g3, g4, g11, g16, g17, g18, g19, g20, g51, g79]) ?_
          refine xc_two fun N23 hN23 => ?_
          refine xc_reg1 2 rfl fun K hK => ?_
          simp only [show (List.range 2).map (·, true) = [(0, true), (1, true)] from rfl, rslv_cons, rslv_nil, List.getElem?_toArray, List.getElem?_cons_zero, List.getElem?_cons_succ, gres]
          iterate 2 (refine seqX_hide2 fun R hR => ?_; simp [go_sem, d2927, d2729, d4027, d2740, d5127, d2751, mlk ti63 ti9 (z := .nilIface) (by simp [zeroOf, ti20]) hP gT1 gT2, mlkI ti120 ti9 (z := .bool false) (by simp [zeroOf, ti4]) hobF, hfT, g0, g1, g2, g3, g4, g11, g16, g17, g18, g19, g20, g51, g79]; refine hR _ _ _ ?_; clear hR R)
          rw [seqX_nil]
          refine hK _ _ _ ?_; clear hK K
          refine hN23 _ _ _ ?_
          refine xc_iffalse (by simp [go_sem, d2927, d2729, d4027, d2740, d5127, d2751, mlk ti63 ti9 (z := .nilIface) (by simp [zeroOf, ti20]) hP gT1 gT2, mlkI ti120 ti9 (z := .bool false) (by simp [zeroOf, ti4]) hobF, hfT, g0, g1, g2, g3, g4, g11, g16, g17, g18, g19, g20, g51, g79]) ?_
          refine xc_two fun N24 hN24 => ?_
          refine xc_reg1 2 rfl fun K hK => ?_
          simp only [show (List.range 2).map (·, true) = [(0, true), (1, true)] from rfl, rslv_cons, rslv_nil, List.getElem?_toArray, List.getElem?_cons_zero, List.getElem?_cons_succ, gres]
          (refine seqX_hide2 fun R hR => ?_; simp [go_sem, d2927, d2729, d4027, d2740, d5127, d2751, mlk ti63 ti9 (z := .nilIface) (by simp [zeroOf, ti20]) hP gT1 gT2, mlkI ti120 ti9 (z := .bool false) (by simp [zeroOf, ti4]) hobF, hfT, g0, g1, g2, g3, g4, g11, g16, g17, g18, g19, g20, g51, g79]; refine hR _ _ _ ?_; clear hR R)
          refine seqX_hide2 fun R hR => ?_
          simp [go_sem, d2927, d2729, d4027, d2740, d5127, d2751, mlk ti63 ti9 (z := .nilIface) (by simp [zeroOf, ti20]) hP gT1 gT2, mlkI ti120 ti9 (z := .bool false) (by simp [zeroOf, ti4]) hobF, hfT, g0, g1, g2, g3, g4, g11, g16, g17, g18, g19, g20, g51, g79]
          refine call_same hP (istable80 D pv hpvi) ?_
          rintro _ rfl
          by_cases hu7 : kindOf u = 7
          · rw [decide_eq_true hu7] at huis
            refine hR _ _ _ ?_; clear hR R
            rw [seqX_nil]
            refine hK _ _ _ ?_; clear hK K
            refine hN24 _ _ _ ?_
            refine xc_iftrue (by simp [go_sem, d2927, d2729, d4027, d2740, d5127, d2751, mlk ti63 ti9 (z := .nilIface) (by simp [zeroOf, ti20]) hP gT1 gT2, mlkI ti120 ti9 (z := .bool false) (by simp [zeroOf, ti4]) hobF, hfT, g0, g1, g2, g3, g4, g11, g16, g17, g18, g19, g20, g51, g79, huis]) ?_
            refine xc_two fun N25 hN25 => ?_
            refine xc_reg1 2 rfl fun K hK => ?_
            simp only [show (List.range 2).map (·, true) = [(0, true), (1, true)] from rfl, rslv_cons, rslv_nil, List.getElem?_toArray, List.getElem?_cons_zero, List.getElem?_cons_succ, gres]
            (refine seqX_hide2 fun R hR => ?_; simp [go_sem, d2927, d2729, d4027, d2740, d5127, d2751, mlk ti63 ti9 (z := .nilIface) (by simp [zeroOf, ti20]) hP gT1 gT2, mlkI ti120 ti9 (z := .bool false) (by simp [zeroOf, ti4]) hobF, hfT, g0, g1, g2, g3, g4, g11, g16, g17, g18, g19, g20, g51, g79, huis]; refine hR _ _ _ ?_; clear hR R)
            refine seqX_hide2 fun R hR => ?_
            simp [go_sem, d2927, d2729, d4027, d2740, d5127, d2751, mlk ti63 ti9 (z := .nilIface) (by simp [zeroOf, ti20]) hP gT1 gT2, mlkI ti120 ti9 (z := .bool false) (by simp [zeroOf, ti4]) hobF, hfT, g0, g1, g2, g3, g4, g11, g16, g17, g18, g19, g20, g51, g79, huis]
            refine call_same hP (istable80 D (.iface ty yz) (.inr ⟨_, _, rfl⟩)) ?_
            rintro _ rfl
            by_cases hx7 : kindOf x = 7
            · rw [decide_eq_true hx7] at hxis
              refine hR _ _ _ ?_; clear hR R
              rw [seqX_nil]
              refine hK _ _ _ ?_; clear hK K
              refine hN25 _ _ _ ?_
              obtain ⟨r1', e1, hTx⟩ := hov.tf hx7
              obtain ⟨r2', e2, hTu⟩ := hu.tf hu7
              simp only [Value.iface.injEq] at e1
              obtain ⟨rfl, rfl⟩ := e1
              subst e2
              refine xc_iftrue (by simp [go_sem, d2927, d2729, d4027, d2740, d5127, d2751, mlk ti63 ti9 (z := .nilIface) (by simp [zeroOf, ti20]) hP gT1 gT2, mlkI ti120 ti9 (z := .bool false) (by simp [zeroOf, ti4]) hobF, hfT, g0, g1, g2, g3, g4, g11, g16, g17, g18, g19, g20, g51, g79, huis, hxis]) ?_
              rw [xc_draws]
              refine vdrawK [(0, true), (1, true), (2, true), (3, true), (4, true), (5, true), (6, true), (7, false)] (ov D [(q51, oi'), (q27, ob)]) mixed (by kernel_rfl) (View.le_refl _) fun K hK => ?_
              simp only [rslv_cons, rslv_nil, List.getElem?_toArray, List.getElem?_cons_zero, List.getElem?_cons_succ, gres]
              iterate 7 (refine seqR_hide fun R hR => ?_; simp [go_sem, d2927, d2729, d4027, d2740, d5127, d2751, mlk ti63 ti9 (z := .nilIface) (by simp [zeroOf, ti20]) hP gT1 gT2, mlkI ti120 ti9 (z := .bool false) (by simp [zeroOf, ti4]) hobF, hfT, g0, g1, g2, g3, g4, g11, g16, g17, g18, g19, g20, g51, g79, huis, hxis]; refine hR _ _ _ ?_; clear hR R)
              refine seqR_hide fun R hR => ?_
              simp [go_sem, d2927, d2729, d4027, d2740, d5127, d2751, mlk ti63 ti9 (z := .nilIface) (by simp [zeroOf, ti20]) hP gT1 gT2, mlkI ti120 ti9 (z := .bool false) (by simp [zeroOf, ti4]) hobF, hfT, g0, g1, g2, g3, g4, g11, g16, g17, g18, g19, g20, g51, g79, huis, hxis]
              refine call_ov hP (ih pk u hw I D x r1' r2' G (Fk pk) s' mg (lv - 1) (lv' - 1) hTx hTu (fun b hb hx => hH.fd _ (mem_here hp) b hx (hGs b hb).1) (fun b hb => ⟨(hH.fs b (hGs b hb).1).2, Half.nI hS hH b (hGs b hb).1⟩) (fun b hb => ⟨hH.dom b (hdom2 b (s2 _ b hb).1), (hdm2 b (s2 _ b hb).1).2⟩) (fun b hb => hH.dom b (hIA b hb)) hx7 hu7 (good_at hG hv) (good_at hG' hw) (hkb.at hv).1 (hkb'.at hw).1 (by omega) (by omega)) ?_
              clear hP
              rintro _ D' ⟨rfl, hO, hdm, F', hT', hF'⟩ hP
              refine hR _ _ _ ?_; clear hR R
              rw [seqR_nil]
              refine hK _ _ _ ?_; clear hK K
              refine hJ1 ((rest).length) _ _ _ (by omega) ⟨rest, D', fun b => F b ∨ F' b, oi', rfl, rfl, rfl, hP, by simp [go_sem, d2927, d2729, d4027, d2740, d5127, d2751, mlkI ti120 ti9 (z := .bool false) (by simp [zeroOf, ti4]) hobF, hfT, g0, g1, g2, g3, g4, g11, g16, g17, g18, g19, g20, g51, g79, huis, hxis], by simp [go_sem, d2927, d2729, d4027, d2740, d5127, d2751, mlkI ti120 ti9 (z := .bool false) (by simp [zeroOf, ti4]) hobF, hfT, g0, g1, g2, g3, g4, g11, g16, g17, g18, g19, g20, g51, g79, huis, hxis], by simp [go_sem, d2927, d2729, d4027, d2740, d5127, d2751, mlkI ti120 ti9 (z := .bool false) (by simp [zeroOf, ti4]) hobF, hfT, g0, g1, g2, g3, g4, g11, g16, g17, g18, g19, g20, g51, g79, huis, hxis], by simp [go_sem, d2927, d2729, d4027, d2740, d5127, d2751, mlkI ti120 ti9 (z := .bool false) (by simp [zeroOf, ti4]) hobF, hfT, g0, g1, g2, g3, g4, g11, g16, g17, g18, g19, g20, g51, g79, huis, hxis], by simp [go_sem, d2927, d2729, d4027, d2740, d5127, d2751, mlkI ti120 ti9 (z := .bool false) (by simp [zeroOf, ti4]) hobF, hfT, g0, g1, g2, g3, g4, g11, g16, g17, g18, g19, g20, g51, g79, huis, hxis], by simp [go_sem, d2927, d2729, d4027, d2740, d5127, d2751, mlkI ti120 ti9 (z := .bool false) (by simp [zeroOf, ti4]) hobF, hfT, g0, g1, g2, g3, g4, g11, g16, g17, g18, g19, g20, g51, g79, huis, hxis], by simp [go_sem, d2927, d2729, d4027, d2740, d5127, d2751, mlkI ti120 ti9 (z := .bool false) (by simp [zeroOf, ti4]) hobF, hfT, g0, g1, g2, g3, g4, g11, g16, g17, g18, g19, g20, g51, g79, huis, hxis], hI2, hnd', hmem', Half.deep hS hH hp hnd hw (by rw [hv, hw]; simp [cell, hx0, hx7, hu7]) hGs hback (TF.ov (kind_coalR hx7 hu7 (good_at hG' hw)) hT') hO hdm hF'⟩
            · rw [decide_eq_false hx7] at hxis
              refine hR _ _ _ ?_; clear hR R
              rw [seqX_nil]
              refine hK _ _ _ ?_; clear hK K
              refine hN25 _ _ _ ?_
              refine xc_iffalse (by simp [go_sem, d2927, d2729, d4027, d2740, d5127, d2751, mlk ti63 ti9 (z := .nilIface) (by simp [zeroOf, ti20]) hP gT1 gT2, mlkI ti120 ti9 (z := .bool false) (by simp [zeroOf, ti4]) hobF, hfT, g0, g1, g2, g3, g4, g11, g16, g17, g18, g19, g20, g51, g79, huis, hxis, hpm]) ?_
              refine xc_reg1 6 rfl fun K hK => ?_
              simp only [show (List.range 6).map (·, true) = [(0, true), (1, true), (2, true), (3, true), (4, true), (5, true)] from rfl, rslv_cons, rslv_nil, List.getElem?_toArray, List.getElem?_cons_zero, List.getElem?_cons_succ, gres]
              iterate 4 (refine seqX_hide2 fun R hR => ?_; simp [go_sem, d2927, d2729, d4027, d2740, d5127, d2751, mlk ti63 ti9 (z := .nilIface) (by simp [zeroOf, ti20]) hP gT1 gT2, mlkI ti120 ti9 (z := .bool false) (by simp [zeroOf, ti4]) hobF, hfT, g0, g1, g2, g3, g4, g11, g16, g17, g18, g19, g20, g51, g79, huis, hxis, hpm]; refine hR _ _ _ ?_; clear hR R)
              refine seqX_hide2 fun R hR => ?_
              simp [go_sem, d2927, d2729, d4027, d2740, d5127, d2751, mlk ti63 ti9 (z := .nilIface) (by simp [zeroOf, ti20]) hP gT1 gT2, mlkI ti120 ti9 (z := .bool false) (by simp [zeroOf, ti4]) hobF, hfT, g0, g1, g2, g3, g4, g11, g16, g17, g18, g19, g20, g51, g79, huis, hxis, hpm]
              intro q103 hq103
              replace hP := hP.cons hq103
              clear hq103
              have d10351 : q103 ≠ q51 := (hP.ne q51 (by simp [addrs])).1
              have d51103 : q51 ≠ q103 := (hP.ne q51 (by simp [addrs])).2
              have d10327 : q103 ≠ q27 := (hP.ne q27 (by simp [addrs])).1
              have d27103 : q27 ≠ q103 := (hP.ne q27 (by simp [addrs])).2
              refine hR _ _ _ ?_; clear hR R
              refine seqX_hide2 fun R hR => ?_
              simp [go_sem, d2927, d2729, d4027, d2740, d5127, d2751, mlk ti63 ti9 (z := .nilIface) (by simp [zeroOf, ti20]) hP gT1 gT2, mlkI ti120 ti9 (z := .bool false) (by simp [zeroOf, ti4]) hobF, hfT, g0, g1, g2, g3, g4, g11, g16, g17, g18, g19, g20, g51, g79, huis, hxis, hpm, d10351, d51103, d10327, d27103]
              refine call_same hP (printf68 D _ _) ?_
              rintro _ rfl
              refine hR _ _ _ ?_; clear hR R
              rw [seqX_nil]
              refine hK _ _ _ ?_; clear hK K
              refine sink_goal 0 hP rfl fun hPn lq103 nq103 => ?_
              clear hP; have hP := hPn; clear hPn
              simp only [List.eraseIdx_cons_zero, List.eraseIdx_cons_succ, addrs_cons, addrs_nil] at hP ⊢
              refine hJ1 ((rest).length) _ _ _ (by omega) ⟨rest, _, F, oi', rfl, rfl, rfl, hP, by simp [go_sem, d2927, d2729, d4027, d2740, d5127, d2751, mlkI ti120 ti9 (z := .bool false) (by simp [zeroOf, ti4]) hobF, hfT, g0, g1, g2, g3, g4, g11, g16, g17, g18, g19, g20, g51, g79, huis, hxis, hpm, d10351, d51103, d10327, d27103], by simp [go_sem, d2927, d2729, d4027, d2740, d5127, d2751, mlkI ti120 ti9 (z := .bool false) (by simp [zeroOf, ti4]) hobF, hfT, g0, g1, g2, g3, g4, g11, g16, g17, g18, g19, g20, g51, g79, huis, hxis, hpm, d10351, d51103, d10327, d27103], by simp [go_sem, d2927, d2729, d4027, d2740, d5127, d2751, mlkI ti120 ti9 (z := .bool false) (by simp [zeroOf, ti4]) hobF, hfT, g0, g1, g2, g3, g4, g11, g16, g17, g18, g19, g20, g51, g79, huis, hxis, hpm, d10351, d51103, d10327, d27103], by simp [go_sem, d2927, d2729, d4027, d2740, d5127, d2751, mlkI ti120 ti9 (z := .bool false) (by simp [zeroOf, ti4]) hobF, hfT, g0, g1, g2, g3, g4, g11, g16, g17, g18, g19, g20, g51, g79, huis, hxis, hpm, d10351, d51103, d10327, d27103], by simp [go_sem, d2927, d2729, d4027, d2740, d5127, d2751, mlkI ti120 ti9 (z := .bool false) (by simp [zeroOf, ti4]) hobF, hfT, g0, g1, g2, g3, g4, g11, g16, g17, g18, g19, g20, g51, g79, huis, hxis, hpm, d10351, d51103, d10327, d27103], by simp [go_sem, d2927, d2729, d4027, d2740, d5127, d2751, mlkI ti120 ti9 (z := .bool false) (by simp [zeroOf, ti4]) hobF, hfT, g0, g1, g2, g3, g4, g11, g16, g17, g18, g19, g20, g51, g79, huis, hxis, hpm, d10351, d51103, d10327, d27103], by simp [go_sem, d2927, d2729, d4027, d2740, d5127, d2751, mlkI ti120 ti9 (z := .bool false) (by simp [zeroOf, ti4]) hobF, hfT, g0, g1, g2, g3, g4, g11, g16, g17, g18, g19, g20, g51, g79, huis, hxis, hpm, d10351, d51103, d10327, d27103], hI2, hnd', hmem', (hH.skip hp hnd (hskip fun h => hx7 h.1)).le lq103⟩
          · rw [decide_eq_false hu7] at huis
            refine hR _ _ _ ?_; clear hR R
            rw [seqX_nil]
            refine hK _ _ _ ?_; clear hK K
            refine hN24 _ _ _ ?_
            refine xc_iffalse (by simp [go_sem, d2927, d2729, d4027, d2740, d5127, d2751, mlk ti63 ti9 (z := .nilIface) (by simp [zeroOf, ti20]) hP gT1 gT2, mlkI ti120 ti9 (z := .bool false) (by simp [zeroOf, ti4]) hobF, hfT, g0, g1, g2, g3, g4, g11, g16, g17, g18, g19, g20, g51, g79, huis]) ?_
            refine xc_two fun N25 hN25 => ?_
            refine xc_reg1 6 rfl fun K hK => ?_
            simp only [show (List.range 6).map (·, true) = [(0, true), (1, true), (2, true), (3, true), (4, true), (5, true)] from rfl, rslv_cons, rslv_nil, List.getElem?_toArray, List.getElem?_cons_zero, List.getElem?_cons_succ, gres]
            (refine seqX_hide2 fun R hR => ?_; simp [go_sem, d2927, d2729, d4027, d2740, d5127, d2751, mlk ti63 ti9 (z := .nilIface) (by simp [zeroOf, ti20]) hP gT1 gT2, mlkI ti120 ti9 (z := .bool false) (by simp [zeroOf, ti4]) hobF, hfT, g0, g1, g2, g3, g4, g11, g16, g17, g18, g19, g20, g51, g79, huis]; refine hR _ _ _ ?_; clear hR R)
            refine seqX_hide2 fun R hR => ?_
            simp [go_sem, d2927, d2729, d4027, d2740, d5127, d2751, mlk ti63 ti9 (z := .nilIface) (by simp [zeroOf, ti20]) hP gT1 gT2, mlkI ti120 ti9 (z := .bool false) (by simp [zeroOf, ti4]) hobF, hfT, g0, g1, g2, g3, g4, g11, g16, g17, g18, g19, g20, g51, g79, huis]
            refine call_same hP (istable80 D (.iface ty yz) (.inr ⟨_, _, rfl⟩)) ?_
            rintro _ rfl
            by_cases hx7 : kindOf x = 7
            · rw [decide_eq_true hx7] at hxis
              rcases hpvi with rfl | ⟨pt, pz, rfl⟩
              · skip
                refine hR _ _ _ ?_; clear hR R
                iterate 4 (refine seqX_hide2 fun R hR => ?_; simp [go_sem, d2927, d2729, d4027, d2740, d5127, d2751, mlk ti63 ti9 (z := .nilIface) (by simp [zeroOf, ti20]) hP gT1 gT2, mlkI ti120 ti9 (z := .bool false) (by simp [zeroOf, ti4]) hobF, hfT, g0, g1, g2, g3, g4, g11, g16, g17, g18, g19, g20, g51, g79, huis, hxis]; refine hR _ _ _ ?_; clear hR R)
                rw [seqX_nil]
                refine hK _ _ _ ?_; clear hK K
                refine hN25 _ _ _ ?_
                refine xc_iffalse (by simp [go_sem, d2927, d2729, d4027, d2740, d5127, d2751, mlk ti63 ti9 (z := .nilIface) (by simp [zeroOf, ti20]) hP gT1 gT2, mlkI ti120 ti9 (z := .bool false) (by simp [zeroOf, ti4]) hobF, hfT, g0, g1, g2, g3, g4, g11, g16, g17, g18, g19, g20, g51, g79, huis, hxis]) ?_
                refine hJ1 ((rest).length) _ _ _ (by omega) ⟨rest, D, F, oi', rfl, rfl, rfl, hP, by simp [go_sem, d2927, d2729, d4027, d2740, d5127, d2751, mlk ti63 ti9 (z := .nilIface) (by simp [zeroOf, ti20]) hP gT1 gT2, mlkI ti120 ti9 (z := .bool false) (by simp [zeroOf, ti4]) hobF, hfT, g0, g1, g2, g3, g4, g11, g16, g17, g18, g19, g20, g51, g79, huis, hxis], by simp [go_sem, d2927, d2729, d4027, d2740, d5127, d2751, mlk ti63 ti9 (z := .nilIface) (by simp [zeroOf, ti20]) hP gT1 gT2, mlkI ti120 ti9 (z := .bool false) (by simp [zeroOf, ti4]) hobF, hfT, g0, g1, g2, g3, g4, g11, g16, g17, g18, g19, g20, g51, g79, huis, hxis], by simp [go_sem, d2927, d2729, d4027, d2740, d5127, d2751, mlk ti63 ti9 (z := .nilIface) (by simp [zeroOf, ti20]) hP gT1 gT2, mlkI ti120 ti9 (z := .bool false) (by simp [zeroOf, ti4]) hobF, hfT, g0, g1, g2, g3, g4, g11, g16, g17, g18, g19, g20, g51, g79, huis, hxis], by simp [go_sem, d2927, d2729, d4027, d2740, d5127, d2751, mlk ti63 ti9 (z := .nilIface) (by simp [zeroOf, ti20]) hP gT1 gT2, mlkI ti120 ti9 (z := .bool false) (by simp [zeroOf, ti4]) hobF, hfT, g0, g1, g2, g3, g4, g11, g16, g17, g18, g19, g20, g51, g79, huis, hxis], by simp [go_sem, d2927, d2729, d4027, d2740, d5127, d2751, mlk ti63 ti9 (z := .nilIface) (by simp [zeroOf, ti20]) hP gT1 gT2, mlkI ti120 ti9 (z := .bool false) (by simp [zeroOf, ti4]) hobF, hfT, g0, g1, g2, g3, g4, g11, g16, g17, g18, g19, g20, g51, g79, huis, hxis], by simp [go_sem, d2927, d2729, d4027, d2740, d5127, d2751, mlk ti63 ti9 (z := .nilIface) (by simp [zeroOf, ti20]) hP gT1 gT2, mlkI ti120 ti9 (z := .bool false) (by simp [zeroOf, ti4]) hobF, hfT, g0, g1, g2, g3, g4, g11, g16, g17, g18, g19, g20, g51, g79, huis, hxis], by simp [go_sem, d2927, d2729, d4027, d2740, d5127, d2751, mlk ti63 ti9 (z := .nilIface) (by simp [zeroOf, ti20]) hP gT1 gT2, mlkI ti120 ti9 (z := .bool false) (by simp [zeroOf, ti4]) hobF, hfT, g0, g1, g2, g3, g4, g11, g16, g17, g18, g19, g20, g51, g79, huis, hxis], hI2, hnd', hmem', hH.skip hp hnd (hskip fun h => hu7 h.2)⟩
              · skip
                refine hR _ _ _ ?_; clear hR R
                iterate 4 (refine seqX_hide2 fun R hR => ?_; simp [go_sem, d2927, d2729, d4027, d2740, d5127, d2751, mlk ti63 ti9 (z := .nilIface) (by simp [zeroOf, ti20]) hP gT1 gT2, mlkI ti120 ti9 (z := .bool false) (by simp [zeroOf, ti4]) hobF, hfT, g0, g1, g2, g3, g4, g11, g16, g17, g18, g19, g20, g51, g79, huis, hxis]; refine hR _ _ _ ?_; clear hR R)
                rw [seqX_nil]
                refine hK _ _ _ ?_; clear hK K
                refine hN25 _ _ _ ?_
                refine xc_iftrue (by simp [go_sem, d2927, d2729, d4027, d2740, d5127, d2751, mlk ti63 ti9 (z := .nilIface) (by simp [zeroOf, ti20]) hP gT1 gT2, mlkI ti120 ti9 (z := .bool false) (by simp [zeroOf, ti4]) hobF, hfT, g0, g1, g2, g3, g4, g11, g16, g17, g18, g19, g20, g51, g79, huis, hxis]) ?_
                refine xc_reg1 6 rfl fun K hK => ?_
                simp only [show (List.range 6).map (·, true) = [(0, true), (1, true), (2, true), (3, true), (4, true), (5, true)] from rfl, rslv_cons, rslv_nil, List.getElem?_toArray, List.getElem?_cons_zero, List.getElem?_cons_succ, gres]
                iterate 4 (refine seqX_hide2 fun R hR => ?_; simp [go_sem, d2927, d2729, d4027, d2740, d5127, d2751, mlk ti63 ti9 (z := .nilIface) (by simp [zeroOf, ti20]) hP gT1 gT2, mlkI ti120 ti9 (z := .bool false) (by simp [zeroOf, ti4]) hobF, hfT, g0, g1, g2, g3, g4, g11, g16, g17, g18, g19, g20, g51, g79, huis, hxis]; refine hR _ _ _ ?_; clear hR R)
                refine seqX_hide2 fun R hR => ?_
                simp [go_sem, d2927, d2729, d4027, d2740, d5127, d2751, mlk ti63 ti9 (z := .nilIface) (by simp [zeroOf, ti20]) hP gT1 gT2, mlkI ti120 ti9 (z := .bool false) (by simp [zeroOf, ti4]) hobF, hfT, g0, g1, g2, g3, g4, g11, g16, g17, g18, g19, g20, g51, g79, huis, hxis]
                intro q115 hq115
                replace hP := hP.cons hq115
                clear hq115
                have d11551 : q115 ≠ q51 := (hP.ne q51 (by simp [addrs])).1
                have d51115 : q51 ≠ q115 := (hP.ne q51 (by simp [addrs])).2
                have d11527 : q115 ≠ q27 := (hP.ne q27 (by simp [addrs])).1
                have d27115 : q27 ≠ q115 := (hP.ne q27 (by simp [addrs])).2
                refine hR _ _ _ ?_; clear hR R
                refine seqX_hide2 fun R hR => ?_
                simp [go_sem, d2927, d2729, d4027, d2740, d5127, d2751, mlk ti63 ti9 (z := .nilIface) (by simp [zeroOf, ti20]) hP gT1 gT2, mlkI ti120 ti9 (z := .bool false) (by simp [zeroOf, ti4]) hobF, hfT, g0, g1, g2, g3, g4, g11, g16, g17, g18, g19, g20, g51, g79, huis, hxis, d11551, d51115, d11527, d27115]
                refine call_same hP (printf68 D _ _) ?_
                rintro _ rfl
                refine hR _ _ _ ?_; clear hR R
                rw [seqX_nil]
                refine hK _ _ _ ?_; clear hK K
                refine sink_goal 0 hP rfl fun hPn lq115 nq115 => ?_
                clear hP; have hP := hPn; clear hPn
                simp only [List.eraseIdx_cons_zero, List.eraseIdx_cons_succ, addrs_cons, addrs_nil] at hP ⊢
                refine hJ1 ((rest).length) _ _ _ (by omega) ⟨rest, _, F, oi', rfl, rfl, rfl, hP, by simp [go_sem, d2927, d2729, d4027, d2740, d5127, d2751, mlkI ti120 ti9 (z := .bool false) (by simp [zeroOf, ti4]) hobF, hfT, g0, g1, g2, g3, g4, g11, g16, g17, g18, g19, g20, g51, g79, huis, hxis, d11551, d51115, d11527, d27115], by simp [go_sem, d2927, d2729, d4027, d2740, d5127, d2751, mlkI ti120 ti9 (z := .bool false) (by simp [zeroOf, ti4]) hobF, hfT, g0, g1, g2, g3, g4, g11, g16, g17, g18, g19, g20, g51, g79, huis, hxis, d11551, d51115, d11527, d27115], by simp [go_sem, d2927, d2729, d4027, d2740, d5127, d2751, mlkI ti120 ti9 (z := .bool false) (by simp [zeroOf, ti4]) hobF, hfT, g0, g1, g2, g3, g4, g11, g16, g17, g18, g19, g20, g51, g79, huis, hxis, d11551, d51115, d11527, d27115], by simp [go_sem, d2927, d2729, d4027, d2740, d5127, d2751, mlkI ti120 ti9 (z := .bool false) (by simp [zeroOf, ti4]) hobF, hfT, g0, g1, g2, g3, g4, g11, g16, g17, g18, g19, g20, g51, g79, huis, hxis, d11551, d51115, d11527, d27115], by simp [go_sem, d2927, d2729, d4027, d2740, d5127, d2751, mlkI ti120 ti9 (z := .bool false) (by simp [zeroOf, ti4]) hobF, hfT, g0, g1, g2, g3, g4, g11, g16, g17, g18, g19, g20, g51, g79, huis, hxis, d11551, d51115, d11527, d27115], by simp [go_sem, d2927, d2729, d4027, d2740, d5127, d2751, mlkI ti120 ti9 (z := .bool false) (by simp [zeroOf, ti4]) hobF, hfT, g0, g1, g2, g3, g4, g11, g16, g17, g18, g19, g20, g51, g79, huis, hxis, d11551, d51115, d11527, d27115], by simp [go_sem, d2927, d2729, d4027, d2740, d5127, d2751, mlkI ti120 ti9 (z := .bool false) (by simp [zeroOf, ti4]) hobF, hfT, g0, g1, g2, g3, g4, g11, g16, g17, g18, g19, g20, g51, g79, huis, hxis, d11551, d51115, d11527, d27115], hI2, hnd', hmem', (hH.skip hp hnd (hskip fun h => hu7 h.2)).le lq115⟩
            · rw [decide_eq_false hx7] at hxis
              refine hR _ _ _ ?_; clear hR R
              iterate 4 (refine seqX_hide2 fun R hR => ?_; simp [go_sem, d2927, d2729, d4027, d2740, d5127, d2751, mlk ti63 ti9 (z := .nilIface) (by simp [zeroOf, ti20]) hP gT1 gT2, mlkI ti120 ti9 (z := .bool false) (by simp [zeroOf, ti4]) hobF, hfT, g0, g1, g2, g3, g4, g11, g16, g17, g18, g19, g20, g51, g79, huis, hxis]; refine hR _ _ _ ?_; clear hR R)
              rw [seqX_nil]
              refine hK _ _ _ ?_; clear hK K
              refine hN25 _ _ _ ?_
              refine xc_iffalse (by simp [go_sem, d2927, d2729, d4027, d2740, d5127, d2751, mlk ti63 ti9 (z := .nilIface) (by simp [zeroOf, ti20]) hP gT1 gT2, mlkI ti120 ti9 (z := .bool false) (by simp [zeroOf, ti4]) hobF, hfT, g0, g1, g2, g3, g4, g11, g16, g17, g18, g19, g20, g51, g79, huis, hxis]) ?_
              refine hJ1 ((rest).length) _ _ _ (by omega) ⟨rest, D, F, oi', rfl, rfl, rfl, hP, by simp [go_sem, d2927, d2729, d4027, d2740, d5127, d2751, mlk ti63 ti9 (z := .nilIface) (by simp [zeroOf, ti20]) hP gT1 gT2, mlkI ti120 ti9 (z := .bool false) (by simp [zeroOf, ti4]) hobF, hfT, g0, g1, g2, g3, g4, g11, g16, g17, g18, g19, g20, g51, g79, huis, hxis], by simp [go_sem, d2927, d2729, d4027, d2740, d5127, d2751, mlk ti63 ti9 (z := .nilIface) (by simp [zeroOf, ti20]) hP gT1 gT2, mlkI ti120 ti9 (z := .bool false) (by simp [zeroOf, ti4]) hobF, hfT, g0, g1, g2, g3, g4, g11, g16, g17, g18, g19, g20, g51, g79, huis, hxis], by simp [go_sem, d2927, d2729, d4027, d2740, d5127, d2751, mlk ti63 ti9 (z := .nilIface) (by simp [zeroOf, ti20]) hP gT1 gT2, mlkI ti120 ti9 (z := .bool false) (by simp [zeroOf, ti4]) hobF, hfT, g0, g1, g2, g3, g4, g11, g16, g17, g18, g19, g20, g51, g79, huis, hxis], by simp [go_sem, d2927, d2729, d4027, d2740, d5127, d2751, mlk ti63 ti9 (z := .nilIface) (by simp [zeroOf, ti20]) hP gT1 gT2, mlkI ti120 ti9 (z := .bool false) (by simp [zeroOf, ti4]) hobF, hfT, g0, g1, g2, g3, g4, g11, g16, g17, g18, g19, g20, g51, g79, huis, hxis], by simp [go_sem, d2927, d2729, d4027, d2740, d5127, d2751, mlk ti63 ti9 (z := .nilIface) (by simp [zeroOf, ti20]) hP gT1 gT2, mlkI ti120 ti9 (z := .bool false) (by simp [zeroOf, ti4]) hobF, hfT, g0, g1, g2, g3, g4, g11, g16, g17, g18, g19, g20, g51, g79, huis, hxis], by simp [go_sem, d2927, d2729, d4027, d2740, d5127, d2751, mlk ti63 ti9 (z := .nilIface) (by simp [zeroOf, ti20]) hP gT1 gT2, mlkI ti120 ti9 (z := .bool false) (by simp [zeroOf, ti4]) hobF, hfT, g0, g1, g2, g3, g4, g11, g16, g17, g18, g19, g20, g51, g79, huis, hxis], by simp [go_sem, d2927, d2729, d4027, d2740, d5127, d2751, mlk ti63 ti9 (z := .nilIface) (by simp [zeroOf, ti20]) hP gT1 gT2, mlkI ti120 ti9 (z := .bool false) (by simp [zeroOf, ti4]) hobF, hfT, g0, g1, g2, g3, g4, g11, g16, g17, g18, g19, g20, g51, g79, huis, hxis], hI2, hnd', hmem', hH.skip hp hnd (hskip fun h => hu7 h.2)⟩
        cases mg with
        | true =>
          refine xc_reg1 14 rfl fun K hK => ?_
          simp only [show (List.range 14).map (·, true) = [(0, true), (1, true), (2, true), (3, true), (4, true), (5, true), (6, true), (7, true), (8, true), (9, true), (10, true), (11, true), (12, true), (13, true)] from rfl, rslv_cons, rslv_nil, List.getElem?_toArray, List.getElem?_cons_zero, List.getElem?_cons_succ, gres]
          iterate 14 (refine seqX_hide2 fun R hR => ?_; simp [go_sem, d2927, d2729, d4027, d2740, d5127, d2751, g0, g1, g2, g3, g4, g11, g51, mlk ti63 ti9 (z := .nilIface) (by simp [zeroOf, ti20]) hP gT1 gT2, mlkI ti120 ti9 (z := .bool false) (by simp [zeroOf, ti4]) hobF, hfT]; refine hR _ _ _ ?_; clear hR R)
          rw [seqX_nil]
          refine hK _ _ _ ?_; clear hK K
          exact nf  _ hP (by simp [go_sem, d2927, d2729, d4027, d2740, d5127, d2751, g0, g1, g2, g3, g4, g11, g51, mlk ti63 ti9 (z := .nilIface) (by simp [zeroOf, ti20]) hP gT1 gT2, mlkI ti120 ti9 (z := .bool false) (by simp [zeroOf, ti4]) hobF, hfT]) (by simp [go_sem, d2927, d2729, d4027, d2740, d5127, d2751, g0, g1, g2, g3, g4, g11, g51, mlk ti63 ti9 (z := .nilIface) (by simp [zeroOf, ti20]) hP gT1 gT2, mlkI ti120 ti9 (z := .bool false) (by simp [zeroOf, ti4]) hobF, hfT]) (by simp [go_sem, d2927, d2729, d4027, d2740, d5127, d2751, g0, g1, g2, g3, g4, g11, g51, mlk ti63 ti9 (z := .nilIface) (by simp [zeroOf, ti20]) hP gT1 gT2, mlkI ti120 ti9 (z := .bool false) (by simp [zeroOf, ti4]) hobF, hfT]) (by simp [go_sem, d2927, d2729, d4027, d2740, d5127, d2751, g0, g1, g2, g3, g4, g11, g51, mlk ti63 ti9 (z := .nilIface) (by simp [zeroOf, ti20]) hP gT1 gT2, mlkI ti120 ti9 (z := .bool false) (by simp [zeroOf, ti4]) hobF, hfT]) (by simp [go_sem, d2927, d2729, d4027, d2740, d5127, d2751, g0, g1, g2, g3, g4, g11, g51, mlk ti63 ti9 (z := .nilIface) (by simp [zeroOf, ti20]) hP gT1 gT2, mlkI ti120 ti9 (z := .bool false) (by simp [zeroOf, ti4]) hobF, hfT]) (by simp [go_sem, d2927, d2729, d4027, d2740, d5127, d2751, g0, g1, g2, g3, g4, g11, g51, mlk ti63 ti9 (z := .nilIface) (by simp [zeroOf, ti20]) hP gT1 gT2, mlkI ti120 ti9 (z := .bool false) (by simp [zeroOf, ti4]) hobF, hfT]) (by simp [go_sem, d2927, d2729, d4027, d2740, d5127, d2751, g0, g1, g2, g3, g4, g11, g51, mlk ti63 ti9 (z := .nilIface) (by simp [zeroOf, ti20]) hP gT1 gT2, mlkI ti120 ti9 (z := .bool false) (by simp [zeroOf, ti4]) hobF, hfT]) (by simp [go_sem, d2927, d2729, d4027, d2740, d5127, d2751, g0, g1, g2, g3, g4, g11, g51, mlk ti63 ti9 (z := .nilIface) (by simp [zeroOf, ti20]) hP gT1 gT2, mlkI ti120 ti9 (z := .bool false) (by simp [zeroOf, ti4]) hobF, hfT]) (by simp [go_sem, d2927, d2729, d4027, d2740, d5127, d2751, g0, g1, g2, g3, g4, g11, g51, mlk ti63 ti9 (z := .nilIface) (by simp [zeroOf, ti20]) hP gT1 gT2, mlkI ti120 ti9 (z := .bool false) (by simp [zeroOf, ti4]) hobF, hfT]) (by simp [go_sem, d2927, d2729, d4027, d2740, d5127, d2751, g0, g1, g2, g3, g4, g11, g51, mlk ti63 ti9 (z := .nilIface) (by simp [zeroOf, ti20]) hP gT1 gT2, mlkI ti120 ti9 (z := .bool false) (by simp [zeroOf, ti4]) hobF, hfT]) (by simp [go_sem, d2927, d2729, d4027, d2740, d5127, d2751, g0, g1, g2, g3, g4, g11, g51, mlk ti63 ti9 (z := .nilIface) (by simp [zeroOf, ti20]) hP gT1 gT2, mlkI ti120 ti9 (z := .bool false) (by simp [zeroOf, ti4]) hobF, hfT]) (by simp [go_sem, d2927, d2729, d4027, d2740, d5127, d2751, g0, g1, g2, g3, g4, g11, g51, mlk ti63 ti9 (z := .nilIface) (by simp [zeroOf, ti20]) hP gT1 gT2, mlkI ti120 ti9 (z := .bool false) (by simp [zeroOf, ti4]) hobF, hfT]) (by simp [go_sem, d2927, d2729, d4027, d2740, d5127, d2751, g0, g1, g2, g3, g4, g11, g51, mlk ti63 ti9 (z := .nilIface) (by simp [zeroOf, ti20]) hP gT1 gT2, mlkI ti120 ti9 (z := .bool false) (by simp [zeroOf, ti4]) hobF, hfT])
        | false =>
          refine xc_reg1 14 rfl fun K hK => ?_
          simp only [show (List.range 14).map (·, true) = [(0, true), (1, true), (2, true), (3, true), (4, true), (5, true), (6, true), (7, true), (8, true), (9, true), (10, true), (11, true), (12, true), (13, true)] from rfl, rslv_cons, rslv_nil, List.getElem?_toArray, List.getElem?_cons_zero, List.getElem?_cons_succ, gres]
          iterate 14 (refine seqX_hide2 fun R hR => ?_; simp [go_sem, d2927, d2729, d4027, d2740, d5127, d2751, g0, g1, g2, g3, g4, g11, g51, mlk ti63 ti9 (z := .nilIface) (by simp [zeroOf, ti20]) hP gT1 gT2, mlkI ti120 ti9 (z := .bool false) (by simp [zeroOf, ti4]) hobF, hfT]; refine hR _ _ _ ?_; clear hR R)
          rw [seqX_nil]
          refine hK _ _ _ ?_; clear hK K
          exact nf  _ hP (by simp [go_sem, d2927, d2729, d4027, d2740, d5127, d2751, g0, g1, g2, g3, g4, g11, g51, mlk ti63 ti9 (z := .nilIface) (by simp [zeroOf, ti20]) hP gT1 gT2, mlkI ti120 ti9 (z := .bool false) (by simp [zeroOf, ti4]) hobF, hfT]) (by simp [go_sem, d2927, d2729, d4027, d2740, d5127, d2751, g0, g1, g2, g3, g4, g11, g51, mlk ti63 ti9 (z := .nilIface) (by simp [zeroOf, ti20]) hP gT1 gT2, mlkI ti120 ti9 (z := .bool false) (by simp [zeroOf, ti4]) hobF, hfT]) (by simp [go_sem, d2927, d2729, d4027, d2740, d5127, d2751, g0, g1, g2, g3, g4, g11, g51, mlk ti63 ti9 (z := .nilIface) (by simp [zeroOf, ti20]) hP gT1 gT2, mlkI ti120 ti9 (z := .bool false) (by simp [zeroOf, ti4]) hobF, hfT]) (by simp [go_sem, d2927, d2729, d4027, d2740, d5127, d2751, g0, g1, g2, g3, g4, g11, g51, mlk ti63 ti9 (z := .nilIface) (by simp [zeroOf, ti20]) hP gT1 gT2, mlkI ti120 ti9 (z := .bool false) (by simp [zeroOf, ti4]) hobF, hfT]) (by simp [go_sem, d2927, d2729, d4027, d2740, d5127, d2751, g0, g1, g2, g3, g4, g11, g51, mlk ti63 ti9 (z := .nilIface) (by simp [zeroOf, ti20]) hP gT1 gT2, mlkI ti120 ti9 (z := .bool false) (by simp [zeroOf, ti4]) hobF, hfT]) (by simp [go_sem, d2927, d2729, d4027, d2740, d5127, d2751, g0, g1, g2, g3, g4, g11, g51, mlk ti63 ti9 (z := .nilIface) (by simp [zeroOf, ti20]) hP gT1 gT2, mlkI ti120 ti9 (z := .bool false) (by simp [zeroOf, ti4]) hobF, hfT]) (by simp [go_sem, d2927, d2729, d4027, d2740, d5127, d2751, g0, g1, g2, g3, g4, g11, g51, mlk ti63 ti9 (z := .nilIface) (by simp [zeroOf, ti20]) hP gT1 gT2, mlkI ti120 ti9 (z := .bool false) (by simp [zeroOf, ti4]) hobF, hfT]) (by simp [go_sem, d2927, d2729, d4027, d2740, d5127, d2751, g0, g1, g2, g3, g4, g11, g51, mlk ti63 ti9 (z := .nilIface) (by simp [zeroOf, ti20]) hP gT1 gT2, mlkI ti120 ti9 (z := .bool false) (by simp [zeroOf, ti4]) hobF, hfT]) (by simp [go_sem, d2927, d2729, d4027, d2740, d5127, d2751, g0, g1, g2, g3, g4, g11, g51, mlk ti63 ti9 (z := .nilIface) (by simp [zeroOf, ti20]) hP gT1 gT2, mlkI ti120 ti9 (z := .bool false) (by simp [zeroOf, ti4]) hobF, hfT]) (by simp [go_sem, d2927, d2729, d4027, d2740, d5127, d2751, g0, g1, g2, g3, g4, g11, g51, mlk ti63 ti9 (z := .nilIface) (by simp [zeroOf, ti20]) hP gT1 gT2, mlkI ti120 ti9 (z := .bool false) (by simp [zeroOf, ti4]) hobF, hfT]) (by simp [go_sem, d2927, d2729, d4027, d2740, d5127, d2751, g0, g1, g2, g3, g4, g11, g51, mlk ti63 ti9 (z := .nilIface) (by simp [zeroOf, ti20]) hP gT1 gT2, mlkI ti120 ti9 (z := .bool false) (by simp [zeroOf, ti4]) hobF, hfT]) (by simp [go_sem, d2927, d2729, d4027, d2740, d5127, d2751, g0, g1, g2, g3, g4, g11, g51, mlk ti63 ti9 (z := .nilIface) (by simp [zeroOf, ti20]) hP gT1 gT2, mlkI ti120 ti9 (z := .bool false) (by simp [zeroOf, ti4]) hobF, hfT]) (by simp [go_sem, d2927, d2729, d4027, d2740, d5127, d2751, g0, g1, g2, g3, g4, g11, g51, mlk ti63 ti9 (z := .nilIface) (by simp [zeroOf, ti20]) hP gT1 gT2, mlkI ti120 ti9 (z := .bool false) (by simp [zeroOf, ti4]) hobF, hfT])
  subst h0
  refine hR _ _ _ ?_; clear hR R
  (refine seqX_hide2 fun R hR => ?_; simp [go_sem, d2927, d2729, d4027, d2740, d5127, d2751, g0, g1, g2, g3, g4, g11, g51]; refine hR _ _ _ ?_; clear hR R)
  rw [seqX_nil]
  refine hK _ _ _ ?_; clear hK K
  refine hN17 _ _ _ ?_
  refine xc_two fun N18 hN18 => ?_
  refine xc_iffalse (by simp [go_sem, d2927, d2729, d4027, d2740, d5127, d2751, g0, g1, g2, g3, g4, g11, g51]) ?_
  refine hX1 _ _ _ _ ?_
  refine hN15 _ _ _ ?_
  refine xc_two fun N19 hN19 => ?_
  refine xc_reg1 2 rfl fun K hK => ?_
  simp only [show (List.range 2).map (·, true) = [(0, true), (1, true)] from rfl, rslv_cons, rslv_nil, List.getElem?_toArray, List.getElem?_cons_zero, List.getElem?_cons_succ, gres]
  iterate 2 (refine seqX_hide2 fun R hR => ?_; simp [go_sem, d2927, d2729, d4027, d2740, d5127, d2751, g0, g1, g2, g3, g4, g11, g51]; refine hR _ _ _ ?_; clear hR R)
  rw [seqX_nil]
  refine hK _ _ _ ?_; clear hK K
  refine hN19 _ _ _ ?_
  simp [go_sem, d2927, d2729, d4027, d2740, d5127, d2751, g0, g1, g2, g3, g4, g11, g51]
  have hH2 := hH.le (le_ov (L := [(q51, oi), (q27, ob)]) hP)
  refine ⟨hH2.out, hH2.dom, F, hH2.t.ext fun k => ?_, hH2.fs⟩
  rw [at_coalR h71 h72 hG']
  simp [gcur]
end Go.Proofs.YtogfpbnbojhpoaaV

/- Trees: TD TE. -/
import Derived.Test.YtpinamipjddobaaSC
import Derived.Test.YtpinamipjddobaaSD
namespace Go.Proofs.YtpinamipjddobaaV
open Go.RowKit
set_option linter.unusedSimpArgs false
set_option linter.unusedVariables false
set_option maxRecDepth 20000 in
set_option maxHeartbeats 400000 in
theorem append147 (A0 B A : View) (q p m : Nat) (ev : Value) (x0 : Tr) (k st : Int) (tag val an h l f : ByteArray) (row col al : Int) (kids : List Tr) (cb : Option Addr) (cc : Nat) (ps : List Nat)
    (y1 : A0 ≤ B) (y2 : B ≤ A) (y3 : B p = none) (y4 : A p = some (.cells (ync k st tag val an (.slice cb kids.length cc) h l f row col) 114 (0, 0))) (y5 : Own B A 90 1 (.slice cb kids.length cc) kids.length (ps.map ptr0)) (y7 : ps.length = kids.length) (y8 : ∀ j (hj : j < kids.length), ∃ q, ps[j]? = some q ∧ IsYn B (kids[j]) q)
    (hq : A q = some (.cells (rnc p) 111 (0, 0))) (hqp : q ≠ p) (hk : k = 2) (ht : tag ≠ tNull) (hev : Row B 1 ev 1 [ptr0 m]) (hem : IsYn B x0 m) (hkl : kids.length ≤ 1000000) :
    VCalls Try.prog 147 #[.agg #[.string ⟨#[]⟩, ev], ptr0 q] A fun r A' => ∃ x : Option Nat, r = .tuple #[(match x with | none => .pointer none | some b => ptr0 b), .nilIface] ∧ (RP (some x0) (match x with | none => .pointer none | some b => ptr0 b) A' ∧ TopR A0 A' (.mk k st tag val an h l f row col al (kids ++ [x0])) q p) := by
  have hk1 : k ≠ 1 := by omega
  have hyn : IsYn A (.mk k st tag val an h l f row col al kids) p := by
    rw [IsYn]
    exact ⟨_, ps, y4, y5.row, y7, fun j hj => let ⟨q, e1, e2⟩ := y8 j hj; ⟨q, e1, e2.le y2⟩⟩
  have herr := errIf79 A _ q 2 ⟨p, hq, hyn⟩ hk1 ht hk (fun e => absurd e (by decide)) hkl
  obtain ⟨a0, ce, f0, -, u0⟩ := Row.at1 (i := 0) (u := ptr0 m) hev rfl
  subst f0
  rw [show a0.add 0 = a0 from if_pos rfl] at u0
  have uA := le_cell y2 u0
  have c6 := cell_of (i := 6) y4 rfl
  have hw1 : IntKind.i64.wrap 1 = 1 := wrap_in (by decide) (by decide)
  refine xcalls Try.func147 rfl (by simp [Try.ntmps147]) ?_
  simp only [Try.f147]
  have hP : Priv A (addrs []) := Priv.nil A
  show xc _ _ _ _ _ _ (ov A [])
  refine xc_two fun N1 hN1 => ?_
  refine xc_reg2 fun K hK => ?_
  simp only [rall, rsl, gres]
  refine seqX_hide2 fun R hR => ?_
  simp [go_sem]
  intro q2 hq2
  replace hP := hP.cons hq2
  clear hq2
  refine hR _ _ _ ?_; clear hR R
  iterate 2 (refine seqX_hide2 fun R hR => ?_; simp [go_sem]; refine hR _ _ _ ?_; clear hR R)
  rw [seqX_nil]
  refine hK _ _ _ ?_; clear hK K
  refine hN1 _ _ _ ?_
  refine xc_two fun N2 hN2 => ?_
  refine xc_two fun N3 hN3 => ?_
  refine xc_reg2 fun K hK => ?_
  simp only [rall, rsl, gres]
  (refine seqX_hide2 fun R hR => ?_; simp [go_sem]; refine hR _ _ _ ?_; clear hR R)
  refine seqX_hide2 fun R hR => ?_
  simp [go_sem]
  refine call_same hP herr ?_
  rintro _ rfl
  refine hR _ _ _ ?_; clear hR R
  (refine seqX_hide2 fun R hR => ?_; simp [go_sem]; refine hR _ _ _ ?_; clear hR R)
  rw [seqX_nil]
  refine hK _ _ _ ?_; clear hK K
  refine hN3 _ _ _ ?_
  refine xc_two fun N4 hN4 => ?_
  refine xc_reg2 fun K hK => ?_
  simp only [rall, rsl, gres]
  iterate 2 (refine seqX_hide2 fun R hR => ?_; simp [go_sem]; refine hR _ _ _ ?_; clear hR R)
  rw [seqX_nil]
  refine hK _ _ _ ?_; clear hK K
  refine hN4 _ _ _ ?_
  refine xc_iffalse (by simp [go_sem]) ?_
  refine hN2 _ _ _ ?_
  refine xc_two fun N5 hN5 => ?_
  refine xc_two fun N6 hN6 => ?_
  refine xc_reg2 fun K hK => ?_
  simp only [rall, rsl, gres]
  iterate 4 (refine seqX_hide2 fun R hR => ?_; simp [go_sem]; refine hR _ _ _ ?_; clear hR R)
  rw [seqX_nil]
  refine hK _ _ _ ?_; clear hK K
  refine hN6 _ _ _ ?_
  rw [xc_block]
  rw [xc_loop]
  refine vloopK (fun k' e ds A' => ∃ (i : Nat) (D : View), k' = 1 - i ∧ ds = [] ∧ A' = ov D [(q2, .cells #[.string ⟨#[]⟩, .slice (some a0) 1 ce] 102 (0, 0))] ∧ Priv D [q2] ∧ e 1 = ptr0 q ∧ e 2 = .pointer (some ⟨q2, 0, none⟩) ∧ e 15 = .int .i64 1 ∧ e 16 = .int .i64 i ∧ (i ≤ 1) ∧ (i = 0 → D = A) ∧ (i = 1 → B ≤ D ∧ TopR A0 D (.mk k st tag val an h l f row col al (kids ++ [x0])) q p)) _ ⟨0, A, rfl, rfl, rfl, hP, by simp [go_sem], by simp [go_sem], by simp [go_sem], by simp [go_sem], by omega, fun _ => rfl, fun e => by cases e⟩ ?_
  clear hP
  rintro k' e ds _ ⟨i, D, rfl, rfl, rfl, hP, g1, g2, g15, g16, hi1, hs0, hs1⟩ J1 X1 hJ1 hX1
  refine xc_sound _ ?_
  rcases Nat.lt_or_ge i 1 with hi | hi
  rotate_left
  · obtain rfl : i = 1 := by omega
    obtain ⟨hBD, hT⟩ := hs1 rfl
    have uD := le_cell hBD u0
    refine xc_two fun N7 hN7 => ?_
    refine xc_reg2 fun K hK => ?_
    simp only [rall, rsl, gres]
    (refine seqX_hide2 fun R hR => ?_; simp [go_sem, g1, g2, g15, g16, bc hP uD, xindexAt, vload]; refine hR _ _ _ ?_; clear hR R)
    rw [seqX_nil]
    refine hK _ _ _ ?_; clear hK K
    refine hN7 _ _ _ ?_
    refine xc_two fun N8 hN8 => ?_
    refine xc_iffalse (by simp [go_sem, g1, g2, g15, g16, bc hP uD, xindexAt, vload]) ?_
    refine hX1 _ _ _ _ ?_
    refine hN5 _ _ _ ?_
    refine xc_two fun N9 hN9 => ?_
    refine xc_two fun N10 hN10 => ?_
    refine xc_reg2 fun K hK => ?_
    simp only [rall, rsl, gres]
    iterate 4 (refine seqX_hide2 fun R hR => ?_; simp [go_sem, g1, g2, g15, g16, bc hP uD, xindexAt, vload]; refine hR _ _ _ ?_; clear hR R)
    rw [seqX_nil]
    refine hK _ _ _ ?_; clear hK K
    refine hN10 _ _ _ ?_
    refine xc_iftrue (by simp [go_sem, g1, g2, g15, g16, bc hP uD, xindexAt, vload]) ?_
    refine xc_two fun N11 hN11 => ?_
    refine xc_reg2 fun K hK => ?_
    simp only [rall, rsl, gres]
    iterate 4 (refine seqX_hide2 fun R hR => ?_; simp [go_sem, g1, g2, g15, g16, bc hP uD, xindexAt, vload]; refine hR _ _ _ ?_; clear hR R)
    refine seqX_hide2 fun R hR => ?_
    simp [go_sem, g1, g2, g15, g16, bc hP uD, xindexAt, vload]
    refine call_ov hP (newRNode33 D x0 m (hem.le hBD)) ?_
    clear hP
    rintro _ D2 ⟨r3, rfl, hr3, hD2⟩ hP
    refine hR _ _ _ ?_; clear hR R
    iterate 2 (refine seqX_hide2 fun R hR => ?_; simp [go_sem, g1, g2, g15, g16, xindexAt, vload]; refine hR _ _ _ ?_; clear hR R)
    rw [seqX_nil]
    refine hK _ _ _ ?_; clear hK K
    refine hN11 _ _ _ ?_
    simp [go_sem, g1, g2, g15, g16, xindexAt, vload]
    refine ⟨some r3, rfl, ⟨r3, rfl, hr3.le ?_⟩, hT.grow (View.le_refl _) (View.le_trans hD2 ?_)⟩
    · exact le_ov hP
    · exact le_ov hP
  obtain rfl : i = 0 := by omega
  obtain rfl := hs0 rfl
  refine xc_two fun N7 hN7 => ?_
  refine xc_reg2 fun K hK => ?_
  simp only [rall, rsl, gres]
  (refine seqX_hide2 fun R hR => ?_; simp [go_sem, g1, g2, g15, g16, bc hP uA, bc hP c6, xindexAt, vload, hw1]; refine hR _ _ _ ?_; clear hR R)
  rw [seqX_nil]
  refine hK _ _ _ ?_; clear hK K
  refine hN7 _ _ _ ?_
  refine xc_two fun N8 hN8 => ?_
  refine xc_iftrue (by simp [go_sem, g1, g2, g15, g16, bc hP uA, bc hP c6, xindexAt, vload, hw1]) ?_
  refine hN8 _ _ _ ?_
  refine xc_two fun N9 hN9 => ?_
  rw [xc_block]
  refine xc_two fun N10 hN10 => ?_
  refine xc_reg2 fun K hK => ?_
  simp only [rall, rsl, gres]
  iterate 2 (refine seqX_hide2 fun R hR => ?_; simp [go_sem, g1, g2, g15, g16, bc hP uA, bc hP c6, xindexAt, vload, hw1]; refine hR _ _ _ ?_; clear hR R)
  rw [seqX_nil]
  refine hK _ _ _ ?_; clear hK K
  refine hN10 _ _ _ ?_
  rw [xc_draws]
  refine vdrawK [(0, true), (1, true), (2, true), (3, true), (4, true), (5, true), (6, true), (7, true), (8, true), (9, true), (10, false), (11, true), (12, true), (13, false)] (ov D [(q2, .cells #[.string ⟨#[]⟩, .slice (some a0) 1 ce] 102 (0, 0))]) mixed (by kernel_rfl) (View.le_refl _) fun K hK => ?_
  simp only [rsl, gres]
  (refine seqR_hide fun R hR => ?_; simp [go_sem, g1, g2, g15, g16, bc hP uA, bc hP c6, xindexAt, vload, hw1]; refine hR _ _ _ ?_; clear hR R)
  refine seqR_hide fun R hR => ?_
  simp [go_sem, g1, g2, g15, g16, bc hP uA, bc hP c6, xindexAt, vload, hw1]
  refine call_same hP (ynode48 D q p k st tag val an (.slice cb kids.length cc) h l f row col hq y4 hk1) ?_
  rintro _ rfl
  refine ⟨View.le_refl _, hR _ _ _ ?_⟩; clear hR R
  (refine seqR_hide fun R hR => ?_; simp [go_sem, g1, g2, g15, g16, bc hP uA, bc hP c6, xindexAt, vload, hw1]; refine hR _ _ _ ?_; clear hR R)
  refine seqR_hide fun R hR => ?_
  simp [go_sem, g1, g2, g15, g16, bc hP uA, bc hP c6, xindexAt, vload, hw1]
  refine call_same hP (content36 D q p k st tag val an (.slice cb kids.length cc) h l f row col hq y4 hk1) ?_
  rintro _ rfl
  refine ⟨View.le_refl _, hR _ _ _ ?_⟩; clear hR R
  iterate 5 (refine seqR_hide fun R hR => ?_; simp [go_sem, g1, g2, g15, g16, bc hP uA, bc hP c6, xindexAt, vload, hw1]; refine hR _ _ _ ?_; clear hR R)
  refine seqR_hide fun R hR => ?_
  simp [go_sem, g1, g2, g15, g16, bc hP uA, bc hP c6, xindexAt, vload, hw1]
  intro q28 hq28
  replace hP := hP.cons hq28
  clear hq28
  have d282 : q28 ≠ q2 := (hP.ne q2 (by simp [addrs])).1
  have d228 : q2 ≠ q28 := (hP.ne q2 (by simp [addrs])).2
  refine hR _ _ _ ?_; clear hR R
  refine seqR_hide fun R hR => ?_
  simp [go_sem, g1, g2, g15, g16, bc hP uA, bc hP c6, xindexAt, vload, hw1, d282, d228]
  have e1 : p ≠ q28 := fun hx => by have := hP.1; rw [← hx, y4] at this; cases this
  have e2 : p ≠ q2 := fun hx => by have := hP.2.2.1; rw [← hx, y4] at this; cases this
  refine append_ov (cs := [ptr0 m]) (m := 1) hP ti100 ti100 (fun k => by simp) ti90 rfl (by decide) y5 y2 (by simp [appended, View.cells?, go_sem]) (by simp [isStr]) (fun v hv => by rw [List.mem_singleton] at hv; subst hv; rfl) (by omega) ?_
  clear hP
  rintro v4 D4 h4 hO4 h4e hP
  simp only [addrs_cons, addrs_nil] at hP
  have p4 := keep_block h4e y5 y4 setter_ne.1
  have q4 := keep_block h4e y5 hq setter_ne.2
  have z4 := own_ty hO4 p4 setter_ne.1
  obtain ⟨yb, ycp, rfl⟩ := hO4.shape
  have hs := cstoreF (L := [(q28, .cells #[ptr0 m] 90 (0, 0)), (q2, .cells #[.string ⟨#[]⟩, .slice (some a0) 1 ce] 102 (0, 0))]) hP ti100 p4 (i := 6) (u := .slice yb (kids.length + 1) ycp) (c' := ync k st tag val an (.slice yb (kids.length + 1) ycp) h l f row col) (by show 6 < 12; decide) rfl rfl
  have hsa := hs.1
  have hrl : (ps ++ [m]).length = kids.length + 1 := by rw [List.length_append, y7]; rfl
  have hkl2 : (kids ++ [x0]).length = kids.length + 1 := by simp
  have o5 : Own B (D4.set p (.cells (ync k st tag val an (.slice yb (kids.length + 1) ycp) h l f row col) 114 (0, 0))) 90 1 (.slice yb (kids.length + 1) ycp) (kids.length + 1) (ps.map ptr0 ++ [ptr0 m]) := own_move hO4 fun b o k1 k2 k3 => ⟨k1, by
    rw [set_other (fun hx => z4 (by rw [← hx]; exact k2))]
    exact k3⟩
  have p5 : (D4.set p (.cells (ync k st tag val an (.slice yb (kids.length + 1) ycp) h l f row col) 114 (0, 0))) p = _ := set_at _ _ _
  have q5 : (D4.set p (.cells (ync k st tag val an (.slice yb (kids.length + 1) ycp) h l f row col) 114 (0, 0))) q = _ := (set_other hqp).trans q4
  have l5 : B ≤ D4.set p (.cells (ync k st tag val an (.slice yb (kids.length + 1) ycp) h l f row col) 114 (0, 0)) := le_set0 h4 y3
  have hyk : ∀ j (hj : j < (kids ++ [x0]).length), ∃ q, (ps ++ [m])[j]? = some q ∧ IsYn B ((kids ++ [x0])[j]) q := fun j hj => by
    by_cases hj2 : j < kids.length
    · obtain ⟨q', e1, e2⟩ := y8 j hj2
      exact ⟨q', by rw [List.getElem?_append_left (by omega)]; exact e1, by rw [List.getElem_append_left hj2]; exact e2⟩
    · obtain rfl : j = kids.length := by omega
      exact ⟨m, by rw [← y7]; simp, by simp; exact hem⟩
  have fin : ∀ V : View, (D4.set p (.cells (ync k st tag val an (.slice yb (kids.length + 1) ycp) h l f row col) 114 (0, 0))) ≤ V → TopR A0 V (.mk k st tag val an h l f row col al (kids ++ [x0])) q p := fun V hV => ⟨hV _ _ q5, hqp, B, .slice yb (kids.length + 1) ycp, ps ++ [m], y1, View.le_trans l5 hV, y3, hV _ _ p5, by rw [hkl2, List.map_append]; exact o5.le hV, z4, by rw [hrl, hkl2], hyk⟩
  refine hR _ _ _ ?_; clear hR R
  iterate 2 (refine seqR_hide fun R hR => ?_; simp [go_sem, g1, g2, g15, g16, xindexAt, vload, hw1, d282, d228, e1, e2, hsa]; refine hR _ _ _ ?_; clear hR R)
  refine seqR_hide fun R hR => ?_
  simp [go_sem, g1, g2, g15, g16, xindexAt, vload, hw1, d282, d228, e1, e2, hsa]
  refine hR _ _ _ ?_; clear hR R
  clear hP
  have hP := hs.2
  clear hsa hs
  generalize D4.set p (.cells (ync k st tag val an (.slice yb (kids.length + 1) ycp) h l f row col) 114 (0, 0)) = D5 at hP l5 fin ⊢
  rw [seqR_nil]
  refine hK _ _ _ ?_; clear hK K
  refine hN9 _ _ _ ?_
  refine xc_reg2 fun K hK => ?_
  simp only [rall, rsl, gres]
  iterate 2 (refine seqX_hide2 fun R hR => ?_; simp [go_sem, g1, g2, g15, g16, xindexAt, vload, hw1, d282, d228]; refine hR _ _ _ ?_; clear hR R)
  rw [seqX_nil]
  refine hK _ _ _ ?_; clear hK K
  refine sink_goal 0 hP rfl fun hPn lq28 nq28 => ?_
  clear hP; have hP := hPn; clear hPn
  simp only [List.eraseIdx_cons_zero, List.eraseIdx_cons_succ, addrs_cons, addrs_nil] at hP ⊢
  refine hJ1 (1 - (1)) _ _ _ (by omega) ⟨1, _, rfl, rfl, rfl, hP, by simp [go_sem, g1, g2, g15, g16, xindexAt, vload, hw1, d282, d228], by simp [go_sem, g1, g2, g15, g16, xindexAt, vload, hw1, d282, d228], by simp [go_sem, g1, g2, g15, g16, xindexAt, vload, hw1, d282, d228], by simp [go_sem, g1, g2, g15, g16, xindexAt, vload, hw1, d282, d228], by omega, fun e => (by cases e), fun _ => ⟨View.le_trans l5 lq28, fin _ lq28⟩⟩
theorem meth_ea : meth Try.prog 102 "Filter" = some ⟨147, none⟩ := by kernel_rfl
theorem caught69 (p q s : Addr) (w : World) :
    CallsD Try.prog 69 #[.pointer (some p), .pointer (some q), .pointer (some s)] .returning w fun e u' w' => (∃ v, e = .returned v) ∧ u' = .returning ∧ w' = w := by
  refine callsD_of_wpS Try.func69 rfl fun c₀ cs hu => ?_
  apply wpS_seq
  apply wpS_region
  simp [wpOpsS, go_sem, recoverD, hu, Try.ntmps69, Exit.thenS]
  refine wpS_cond (t := false) (by simp [Act.eval, Array.replicate]) ?_
  simp only [Bool.false_eq_true, if_false]
  refine wpS_of_wp (wp_skip ?_)
  cases c₀
  simp_all [bodyPostS, results, Try.results69]
set_option maxRecDepth 20000 in
theorem append70 (A : View) (b : Option Addr) (n c : Nat) : VCalls Try.prog 70 #[.slice b n c] A fun r A' => r = .agg #[.string ⟨#[]⟩, .slice b n c] ∧ A ≤ A' := by
  refine xcalls Try.func70 rfl (by simp [Try.ntmps70]) ?_
  simp only [Try.f70]
  have hP : Priv A (addrs []) := Priv.nil A
  show xc _ _ _ _ _ _ (ov A [])
  refine xc_two fun N1 hN1 => ?_
  refine xc_reg2 fun K hK => ?_
  simp only [rall, rsl, gres]
  refine seqX_hide2 fun R hR => ?_
  simp [go_sem]
  intro q2 hq2
  replace hP := hP.cons hq2
  clear hq2
  refine hR _ _ _ ?_; clear hR R
  rw [seqX_nil]
  refine hK _ _ _ ?_; clear hK K
  refine hN1 _ _ _ ?_
  refine xc_two fun N2 hN2 => ?_
  refine xc_reg2 fun K hK => ?_
  simp only [rall, rsl, gres]
  iterate 2 (refine seqX_hide2 fun R hR => ?_; simp [go_sem]; refine hR _ _ _ ?_; clear hR R)
  refine seqX_hide2 fun R hR => ?_
  simp [go_sem]
  refine hR _ _ _ ?_; clear hR R
  rw [seqX_nil]
  refine hK _ _ _ ?_; clear hK K
  refine hN2 _ _ _ ?_
  simp [go_sem]
  first | exact ⟨rfl, le_ov hP⟩ | exact le_ov hP
theorem own_some2 {D0 D : View} {e : TypeId} {n : Nat} {v : Value} {cs : List Value} {b : Nat} (h : Own D0 D e 1 v n cs) (hb : blockOf v = some b) : D0 b = none ∧ ∃ o, D b = some o := by
  obtain ⟨h1, ⟨rfl, rfl⟩ | ⟨a, cap, rfl, hn⟩⟩ := h
  · simp [blockOf] at hb
  · obtain ⟨c', h3, _⟩ := sliceIn_block h1
    simp only [blockOf, Option.some.injEq] at hb
    subst hb
    exact ⟨hn, _, h3⟩
theorem le_eraseB2 {A G : View} {v : Value} (h : G ≤ A) (hb : ∀ b, blockOf v = some b → G b = none) : G ≤ eraseB A v := fun k o hk => by
  rw [eraseB_apart fun hx => by rw [hb _ hx] at hk; cases hk]
  exact h _ _ hk
/-- Where the list, and the element that is to be appended, stand. -/
def AQ (A D : View) (q p : Nat) (nc : Array Value) (cv : Value) (n : Nat) (ps : List Nat) (kids : List Tr) (x : Tr) (more : Value) : Prop :=
  ∃ E m, A ≤ E ∧ E ≤ D ∧ E p = none ∧ D p = some (.cells nc 114 (0, 0)) ∧ Own E D 90 1 cv n (ps.map ptr0) ∧ (∀ j (hj : j < kids.length), ∃ q, ps[j]? = some q ∧ IsYn E (kids[j]) q) ∧ Row E 1 more 1 [ptr0 m] ∧ IsYn E x m ∧ D q = some (.cells (rnc p) 111 (0, 0))
set_option maxRecDepth 20000 in
set_option maxHeartbeats 400000 in
theorem appendEl43 (A : View) (t x : Tr) (lv : Nat) (c : Array Value) (l : Value) (hc : IsTr A t c) (hpt : PT lv t) (hnd : nds t ≤ 400) (hlv : lv ≤ 40) (hk : t.kind = 2) (ht : t.tag ≠ tNull) (hl : Trs A l [x]) (hptx : PT lv x) (hndx : nds x ≤ 400) :
    VCalls Try.prog 43 #[.agg c, l] A fun r A' => ∃ c1 fv, r = .tuple #[.agg c1, fv, .int .i64 0] ∧ IsTr A' (t.setK (t.kids ++ [x])) c1 ∧ Trs A' fv [x] ∧ A ≤ A' := by
  have hcz := hc.size
  have hco := hc.ones
  have hNT := hpt.nt
  obtain ⟨k, st, tag, val, an, h, ln, f, row, col, al, kids, rfl⟩ := t.ex
  have hk1 : k ≠ 1 := by have : k = 2 := hk; omega
  rw [nds_mk] at hnd
  have hlen := len_sum kids
  have hkl : kids.length ≤ 1000000 := by omega
  have hnt : NT (.mk k st tag val an h ln f row col al (kids ++ [x])) := by
    refine NT.mk' hNT.open.1 hNT.open.2.1 hNT.open.2.2.1 fun y hy => ?_
    rcases List.mem_append.1 hy with hy | hy
    · exact hNT.open.2.2.2 y hy
    · rw [List.mem_singleton] at hy
      subst hy
      exact hptx.nt
  have hndr : nds (.mk k st tag val an h ln f row col al (kids ++ [x])) ≤ 1000000 := by
    rw [nds_mk, List.map_append, List.sum_append]
    simp
    omega
  have hl0 := hl
  obtain ⟨lb, lc, rfl⟩ := hl.slice
  obtain ⟨bs', cap', f1, hel⟩ := hl0
  simp only [Value.slice.injEq, true_and] at f1
  obtain ⟨rfl, rfl⟩ := f1
  obtain ⟨a1, ci, rfl, u1, hci⟩ := hel 0 (by simp)
  rw [show a1.add (0 * 12) = a1 from if_pos rfl] at u1
  replace hci : IsTr A x ci := hci
  have hz := hci.size
  have ho := hci.ones
  have hw1 : IntKind.i64.wrap 1 = 1 := wrap_in (by decide) (by decide)
  refine xcallsD Try.func43 rfl (by simp [Try.ntmps43]) ?_
  simp only [Try.f43]
  have hP : Priv A (addrs []) := Priv.nil A
  show xc _ _ _ _ _ _ (ov A [])
  refine xc_two fun N1 hN1 => ?_
  refine xc_reg2 fun K hK => ?_
  simp only [rall, rsl, gres]
  refine seqX_hide2 fun R hR => ?_
  simp [go_sem, hcz, hco, hw1]
  intro q2 hq2
  replace hP := hP.cons hq2
  clear hq2
  refine hR _ _ _ ?_; clear hR R
  refine seqX_hide2 fun R hR => ?_
  simp [go_sem, hcz, hco, hw1]
  intro q4 hq4
  replace hP := hP.cons hq4
  clear hq4
  have d42 : q4 ≠ q2 := (hP.ne q2 (by simp [addrs])).1
  have d24 : q2 ≠ q4 := (hP.ne q2 (by simp [addrs])).2
  refine hR _ _ _ ?_; clear hR R
  refine seqX_hide2 fun R hR => ?_
  simp [go_sem, hcz, hco, hw1, d42, d24]
  intro q5 hq5
  replace hP := hP.cons hq5
  clear hq5
  have d54 : q5 ≠ q4 := (hP.ne q4 (by simp [addrs])).1
  have d45 : q4 ≠ q5 := (hP.ne q4 (by simp [addrs])).2
  have d52 : q5 ≠ q2 := (hP.ne q2 (by simp [addrs])).1
  have d25 : q2 ≠ q5 := (hP.ne q2 (by simp [addrs])).2
  refine hR _ _ _ ?_; clear hR R
  refine seqX_hide2 fun R hR => ?_
  simp [go_sem, hcz, hco, hw1, d42, d24, d54, d45, d52, d25]
  intro q6 hq6
  replace hP := hP.cons hq6
  clear hq6
  have d65 : q6 ≠ q5 := (hP.ne q5 (by simp [addrs])).1
  have d56 : q5 ≠ q6 := (hP.ne q5 (by simp [addrs])).2
  have d64 : q6 ≠ q4 := (hP.ne q4 (by simp [addrs])).1
  have d46 : q4 ≠ q6 := (hP.ne q4 (by simp [addrs])).2
  have d62 : q6 ≠ q2 := (hP.ne q2 (by simp [addrs])).1
  have d26 : q2 ≠ q6 := (hP.ne q2 (by simp [addrs])).2
  refine hR _ _ _ ?_; clear hR R
  rw [seqX_nil]
  refine hK _ _ _ ?_; clear hK K
  refine hN1 _ _ _ ?_
  refine xc_two fun N2 hN2 => ?_
  refine xc_reg2 fun K hK => ?_
  simp only [rall, rsl, gres]
  (refine seqX_hide2 fun R hR => ?_; simp [go_sem, hcz, hco, hw1, d42, d24, d54, d45, d52, d25, d65, d56, d64, d46, d62, d26]; refine hR _ _ _ ?_; clear hR R)
  refine seqX_hide2 fun R hR => ?_
  simp [go_sem, hcz, hco, hw1, d42, d24, d54, d45, d52, d25, d65, d56, d64, d46, d62, d26, toDefer]
  refine hR _ _ _ ?_; clear hR R
  rw [seqX_nil]
  refine hK _ _ _ ?_; clear hK K
  refine hN2 _ _ _ ?_
  refine xc_two fun N3 hN3 => ?_
  refine xc_reg2 fun K hK => ?_
  simp only [rall, rsl, gres]
  (refine seqX_hide2 fun R hR => ?_; simp [go_sem, hcz, hco, hw1, d42, d24, d54, d45, d52, d25, d65, d56, d64, d46, d62, d26]; refine hR _ _ _ ?_; clear hR R)
  refine seqX_hide2 fun R hR => ?_
  simp [go_sem, hcz, hco, hw1, d42, d24, d54, d45, d52, d25, d65, d56, d64, d46, d62, d26]
  refine call_ov hP (rootedS A _ lv c hc hpt (by rw [nds_mk]; exact hnd) hlv) ?_
  clear hP
  rintro _ A2 ⟨q, p, rfl, hq, hqp, hq0, HT⟩ hP
  have hA2 := HT.le
  obtain ⟨B0, cv, ps, y1, y2, y3, y4, y5, y6, y7, y8⟩ := HT
  obtain ⟨cb, cc, rfl⟩ := y5.shape
  have hpl : ps.length = kids.length := y7
  refine hR _ _ _ ?_; clear hR R
  iterate 5 (refine seqX_hide2 fun R hR => ?_; simp [go_sem, hcz, hco, hw1, d42, d24, d54, d45, d52, d25, d65, d56, d64, d46, d62, d26]; refine hR _ _ _ ?_; clear hR R)
  rw [seqX_nil]
  refine hK _ _ _ ?_; clear hK K
  refine hN3 _ _ _ ?_
  refine xc_two fun N4 hN4 => ?_
  refine xc_reg2 fun K hK => ?_
  simp only [rall, rsl, gres]
  (refine seqX_hide2 fun R hR => ?_; simp [go_sem, hcz, hco, hw1, d42, d24, d54, d45, d52, d25, d65, d56, d64, d46, d62, d26]; refine hR _ _ _ ?_; clear hR R)
  rw [seqX_nil]
  refine hK _ _ _ ?_; clear hK K
  refine hN4 _ _ _ ?_
  refine xc_two fun N5 hN5 => ?_
  refine xc_two fun N6 hN6 => ?_
  refine xc_reg2 fun K hK => ?_
  simp only [rall, rsl, gres]
  iterate 3 (refine seqX_hide2 fun R hR => ?_; simp [go_sem, hcz, hco, hw1, d42, d24, d54, d45, d52, d25, d65, d56, d64, d46, d62, d26]; refine hR _ _ _ ?_; clear hR R)
  rw [seqX_nil]
  refine hK _ _ _ ?_; clear hK K
  refine hN6 _ _ _ ?_
  rw [xc_block]
  rw [xc_loop]
  refine vloopK (fun k' e ds A' => ∃ (i : Nat) (D : View) (more : Value), k' = 1 - i ∧ ds = [{ target := .fn (.func 69) #[.pointer (some ⟨q4, 0, none⟩), .pointer (some ⟨q5, 0, none⟩), .pointer (some ⟨q6, 0, none⟩)], args := #[] }] ∧ A' = ov D [(q6, .cells #[.int .i64 0] 3 (0, 0)), (q5, .cells #[.slice none 0 0] 22 (0, 0)), (q4, .cells (trc 0 0 ⟨#[]⟩ ⟨#[]⟩ ⟨#[]⟩ ⟨#[]⟩ ⟨#[]⟩ ⟨#[]⟩ 0 0 0 (.slice none 0 0)) 24 (0, 0)), (q2, .cells c 24 (0, 0))] ∧ Priv D [q6, q5, q4, q2] ∧ e 1 = .slice (some a1) 1 lc ∧ e 2 = .pointer (some ⟨q2, 0, none⟩) ∧ e 4 = .pointer (some ⟨q4, 0, none⟩) ∧ e 5 = .pointer (some ⟨q5, 0, none⟩) ∧ e 6 = .pointer (some ⟨q6, 0, none⟩) ∧ e 7 = ptr0 q ∧ e 8 = .bool true ∧ e 9 = more ∧ e 22 = .slice (some a1) 1 lc ∧ e 23 = .int .i64 1 ∧ e 24 = .int .i64 i ∧ (i ≤ 1) ∧ (i = 0 → D = A2 ∧ more = .slice none 0 0) ∧ (i = 1 → AQ A D q p (ync k st tag val an (.slice cb kids.length cc) h ln f row col) (.slice cb kids.length cc) kids.length ps kids x more)) _ ⟨0, A2, .slice none 0 0, rfl, rfl, rfl, hP, by simp [go_sem, hcz, hco, hw1, d42, d24, d54, d45, d52, d25, d65, d56, d64, d46, d62, d26], by simp [go_sem, hcz, hco, hw1, d42, d24, d54, d45, d52, d25, d65, d56, d64, d46, d62, d26], by simp [go_sem, hcz, hco, hw1, d42, d24, d54, d45, d52, d25, d65, d56, d64, d46, d62, d26], by simp [go_sem, hcz, hco, hw1, d42, d24, d54, d45, d52, d25, d65, d56, d64, d46, d62, d26], by simp [go_sem, hcz, hco, hw1, d42, d24, d54, d45, d52, d25, d65, d56, d64, d46, d62, d26], by simp [go_sem, hcz, hco, hw1, d42, d24, d54, d45, d52, d25, d65, d56, d64, d46, d62, d26], by simp [go_sem, hcz, hco, hw1, d42, d24, d54, d45, d52, d25, d65, d56, d64, d46, d62, d26], by simp [go_sem, hcz, hco, hw1, d42, d24, d54, d45, d52, d25, d65, d56, d64, d46, d62, d26], by simp [go_sem, hcz, hco, hw1, d42, d24, d54, d45, d52, d25, d65, d56, d64, d46, d62, d26], by simp [go_sem, hcz, hco, hw1, d42, d24, d54, d45, d52, d25, d65, d56, d64, d46, d62, d26], by simp [go_sem, hcz, hco, hw1, d42, d24, d54, d45, d52, d25, d65, d56, d64, d46, d62, d26], by omega, fun _ => ⟨rfl, rfl⟩, fun e => (by cases e)⟩ ?_
  clear hP
  rintro k' e ds _ ⟨i, D, more, rfl, rfl, rfl, hP, g1, g2, g4, g5, g6, g7, g8, g9, g22, g23, g24, hi1, hs0, hs1⟩ J1 X1 hJ1 hX1
  refine xc_sound _ ?_
  rcases Nat.lt_or_ge i 1 with hi | hi
  · obtain rfl : i = 0 := by omega
    obtain ⟨rfl, rfl⟩ := hs0 rfl
    have u2 := le_cells (View.le_trans y1 y2) _ _ _ u1
    refine xc_two fun N7 hN7 => ?_
    refine xc_reg2 fun K hK => ?_
    simp only [rall, rsl, gres]
    (refine seqX_hide2 fun R hR => ?_; simp [go_sem, hcz, hco, hw1, d42, d24, d54, d45, d52, d25, d65, d56, d64, d46, d62, d26, g1, g2, g4, g5, g6, g7, g8, g9, g22, g23, g24, hz, ho, bcs hP u2, xindexAt, vload]; refine hR _ _ _ ?_; clear hR R)
    rw [seqX_nil]
    refine hK _ _ _ ?_; clear hK K
    refine hN7 _ _ _ ?_
    refine xc_two fun N8 hN8 => ?_
    refine xc_iftrue (by simp [go_sem, hcz, hco, hw1, d42, d24, d54, d45, d52, d25, d65, d56, d64, d46, d62, d26, g1, g2, g4, g5, g6, g7, g8, g9, g22, g23, g24, hz, ho, bcs hP u2, xindexAt, vload]) ?_
    refine hN8 _ _ _ ?_
    refine xc_two fun N9 hN9 => ?_
    rw [xc_block]
    refine xc_two fun N10 hN10 => ?_
    refine xc_reg2 fun K hK => ?_
    simp only [rall, rsl, gres]
    iterate 2 (refine seqX_hide2 fun R hR => ?_; simp [go_sem, hcz, hco, hw1, d42, d24, d54, d45, d52, d25, d65, d56, d64, d46, d62, d26, g1, g2, g4, g5, g6, g7, g8, g9, g22, g23, g24, hz, ho, bcs hP u2, xindexAt, vload]; refine hR _ _ _ ?_; clear hR R)
    refine seqX_hide2 fun R hR => ?_
    simp [go_sem, hcz, hco, hw1, d42, d24, d54, d45, d52, d25, d65, d56, d64, d46, d62, d26, g1, g2, g4, g5, g6, g7, g8, g9, g22, g23, g24, hz, ho, bcs hP u2, xindexAt, vload]
    intro q11 hq11
    replace hP := hP.cons hq11
    clear hq11
    have d116 : q11 ≠ q6 := (hP.ne q6 (by simp [addrs])).1
    have d611 : q6 ≠ q11 := (hP.ne q6 (by simp [addrs])).2
    have d115 : q11 ≠ q5 := (hP.ne q5 (by simp [addrs])).1
    have d511 : q5 ≠ q11 := (hP.ne q5 (by simp [addrs])).2
    have d114 : q11 ≠ q4 := (hP.ne q4 (by simp [addrs])).1
    have d411 : q4 ≠ q11 := (hP.ne q4 (by simp [addrs])).2
    have d112 : q11 ≠ q2 := (hP.ne q2 (by simp [addrs])).1
    have d211 : q2 ≠ q11 := (hP.ne q2 (by simp [addrs])).2
    refine hR _ _ _ ?_; clear hR R
    refine seqX_hide2 fun R hR => ?_
    simp [go_sem, hcz, hco, hw1, d42, d24, d54, d45, d52, d25, d65, d56, d64, d46, d62, d26, g1, g2, g4, g5, g6, g7, g8, g9, g22, g23, g24, hz, ho, bcs hP u2, xindexAt, vload, d116, d611, d115, d511, d114, d411, d112, d211]
    refine hR _ _ _ ?_; clear hR R
    rw [seqX_nil]
    refine hK _ _ _ ?_; clear hK K
    refine hN10 _ _ _ ?_
    refine xc_two fun N11 hN11 => ?_
    refine xc_reg2 fun K hK => ?_
    simp only [rall, rsl, gres]
    (refine seqX_hide2 fun R hR => ?_; simp [go_sem, hcz, hco, hw1, d42, d24, d54, d45, d52, d25, d65, d56, d64, d46, d62, d26, g1, g2, g4, g5, g6, g7, g8, g9, g22, g23, g24, hz, ho, bcs hP u2, xindexAt, vload, d116, d611, d115, d511, d114, d411, d112, d211]; refine hR _ _ _ ?_; clear hR R)
    refine seqX_hide2 fun R hR => ?_
    simp [go_sem, hcz, hco, hw1, d42, d24, d54, d45, d52, d25, d65, d56, d64, d46, d62, d26, g1, g2, g4, g5, g6, g7, g8, g9, g22, g23, g24, hz, ho, bcs hP u2, xindexAt, vload, d116, d611, d115, d511, d114, d411, d112, d211]
    refine call_sub hP y2 (rooted23 B0 x lv ci (hci.le y1) hptx hndx hlv) ?_
    clear hP
    rintro _ E D3 ⟨qe, rfl, hqe, hBE⟩ hED hKp hmono hP
    have hDD := hmono hBE
    obtain ⟨m, hqm, hym⟩ := hqe
    have hEp : E p = none := (hKp _ _ y3 y4).1
    have hO3 : Own E D3 90 1 (.slice cb kids.length cc) kids.length (ps.map ptr0) := own_move y5 fun b o k1 k2 k3 => hKp _ _ k1 k3
    refine hR _ _ _ ?_; clear hR R
    iterate 5 (refine seqX_hide2 fun R hR => ?_; simp [go_sem, hcz, hco, hw1, d42, d24, d54, d45, d52, d25, d65, d56, d64, d46, d62, d26, g1, g2, g4, g5, g6, g7, g8, g9, g22, g23, g24, hz, ho, xindexAt, vload, d116, d611, d115, d511, d114, d411, d112, d211]; refine hR _ _ _ ?_; clear hR R)
    rw [seqX_nil]
    refine hK _ _ _ ?_; clear hK K
    refine hN11 _ _ _ ?_
    refine xc_two fun N12 hN12 => ?_
    refine xc_two fun N13 hN13 => ?_
    refine xc_reg2 fun K hK => ?_
    simp only [rall, rsl, gres]
    iterate 7 (refine seqX_hide2 fun R hR => ?_; simp [go_sem, hcz, hco, hw1, d42, d24, d54, d45, d52, d25, d65, d56, d64, d46, d62, d26, g1, g2, g4, g5, g6, g7, g8, g9, g22, g23, g24, hz, ho, xindexAt, vload, d116, d611, d115, d511, d114, d411, d112, d211]; refine hR _ _ _ ?_; clear hR R)
    rw [seqX_nil]
    refine hK _ _ _ ?_; clear hK K
    refine hN13 _ _ _ ?_
    refine xc_iffalse (by simp [go_sem, hcz, hco, hw1, d42, d24, d54, d45, d52, d25, d65, d56, d64, d46, d62, d26, g1, g2, g4, g5, g6, g7, g8, g9, g22, g23, g24, hz, ho, xindexAt, vload, d116, d611, d115, d511, d114, d411, d112, d211]) ?_
    refine hN12 _ _ _ ?_
    refine xc_reg2 fun K hK => ?_
    simp only [rall, rsl, gres]
    iterate 2 (refine seqX_hide2 fun R hR => ?_; simp [go_sem, hcz, hco, hw1, d42, d24, d54, d45, d52, d25, d65, d56, d64, d46, d62, d26, g1, g2, g4, g5, g6, g7, g8, g9, g22, g23, g24, hz, ho, xindexAt, vload, d116, d611, d115, d511, d114, d411, d112, d211]; refine hR _ _ _ ?_; clear hR R)
    refine seqX_hide2 fun R hR => ?_
    simp [go_sem, hcz, hco, hw1, d42, d24, d54, d45, d52, d25, d65, d56, d64, d46, d62, d26, g1, g2, g4, g5, g6, g7, g8, g9, g22, g23, g24, hz, ho, xindexAt, vload, d116, d611, d115, d511, d114, d411, d112, d211]
    refine call_same hP (doc49 D3 qe m (hED _ _ hqm)) ?_
    rintro _ rfl
    refine hR _ _ _ ?_; clear hR R
    refine seqX_hide2 fun R hR => ?_
    simp [go_sem, hcz, hco, hw1, d42, d24, d54, d45, d52, d25, d65, d56, d64, d46, d62, d26, g1, g2, g4, g5, g6, g7, g8, g9, g22, g23, g24, hz, ho, xindexAt, vload, d116, d611, d115, d511, d114, d411, d112, d211]
    intro q44 hq44
    replace hP := hP.cons hq44
    clear hq44
    have d4411 : q44 ≠ q11 := (hP.ne q11 (by simp [addrs])).1
    have d1144 : q11 ≠ q44 := (hP.ne q11 (by simp [addrs])).2
    have d446 : q44 ≠ q6 := (hP.ne q6 (by simp [addrs])).1
    have d644 : q6 ≠ q44 := (hP.ne q6 (by simp [addrs])).2
    have d445 : q44 ≠ q5 := (hP.ne q5 (by simp [addrs])).1
    have d544 : q5 ≠ q44 := (hP.ne q5 (by simp [addrs])).2
    have d444 : q44 ≠ q4 := (hP.ne q4 (by simp [addrs])).1
    have d444 : q4 ≠ q44 := (hP.ne q4 (by simp [addrs])).2
    have d442 : q44 ≠ q2 := (hP.ne q2 (by simp [addrs])).1
    have d244 : q2 ≠ q44 := (hP.ne q2 (by simp [addrs])).2
    refine hR _ _ _ ?_; clear hR R
    refine seqX_hide2 fun R hR => ?_
    simp [go_sem, hcz, hco, hw1, d42, d24, d54, d45, d52, d25, d65, d56, d64, d46, d62, d26, g1, g2, g4, g5, g6, g7, g8, g9, g22, g23, g24, hz, ho, xindexAt, vload, d116, d611, d115, d511, d114, d411, d112, d211, d4411, d1144, d446, d644, d445, d544, d444, d444, d442, d244]
    refine append_ov (cs := [ptr0 m]) (m := 1) hP ti100 ti100 (fun k => by simp) ti90 rfl (by decide) (Own.nil D3 D3 90 1) (View.le_refl _) (by simp [appended, View.cells?, go_sem]) (by simp [isStr]) (fun v hv => by rw [List.mem_singleton] at hv; subst hv; rfl) (by decide) ?_
    clear hP
    rintro v4 D4 h4 hO4 - hP
    rw [Nat.zero_add, List.nil_append] at hO4
    obtain ⟨mb, mc, rfl⟩ := hO4.shape
    refine hR _ _ _ ?_; clear hR R
    (refine seqX_hide2 fun R hR => ?_; simp [go_sem, hcz, hco, hw1, d42, d24, d54, d45, d52, d25, d65, d56, d64, d46, d62, d26, g1, g2, g4, g5, g6, g7, g8, g9, g22, g23, g24, hz, ho, xindexAt, vload, d116, d611, d115, d511, d114, d411, d112, d211, d4411, d1144, d446, d644, d445, d544, d444, d444, d442, d244]; refine hR _ _ _ ?_; clear hR R)
    rw [seqX_nil]
    refine hK _ _ _ ?_; clear hK K
    refine hN9 _ _ _ ?_
    refine xc_reg2 fun K hK => ?_
    simp only [rall, rsl, gres]
    iterate 2 (refine seqX_hide2 fun R hR => ?_; simp [go_sem, hcz, hco, hw1, d42, d24, d54, d45, d52, d25, d65, d56, d64, d46, d62, d26, g1, g2, g4, g5, g6, g7, g8, g9, g22, g23, g24, hz, ho, xindexAt, vload, d116, d611, d115, d511, d114, d411, d112, d211, d4411, d1144, d446, d644, d445, d544, d444, d444, d442, d244]; refine hR _ _ _ ?_; clear hR R)
    rw [seqX_nil]
    refine hK _ _ _ ?_; clear hK K
    refine sink_goal 0 hP rfl fun hPn lq44 nq44 => ?_
    clear hP; have hP := hPn; clear hPn
    simp only [List.eraseIdx_cons_zero, List.eraseIdx_cons_succ, addrs_cons, addrs_nil] at hP ⊢
    refine sink_goal 0 hP rfl fun hPn lq11 nq11 => ?_
    clear hP; have hP := hPn; clear hPn
    simp only [List.eraseIdx_cons_zero, List.eraseIdx_cons_succ, addrs_cons, addrs_nil] at hP ⊢
    have lqq := View.le_trans lq44 lq11
    have l35 := View.le_trans h4 lqq
    have hP0 := hP
    have hO5 := hO4.le lqq
    generalize (D4.set q44 (.cells #[ptr0 m] 90 (0, 0))).set q11 (.cells ci 24 (0, 0)) = D5 at hP lqq l35 hO5 ⊢
    have hp3 := hDD _ _ y4
    have hO35 := hO3.le l35
    have hEE : E ≤ rmv (eraseB D5 (.slice cb kids.length cc)) p := le_rmv (le_eraseB2 (View.le_trans hED l35) fun b hb => (own_some2 hO3 hb).1) hEp
    have hAQ : AQ A D5 q p (ync k st tag val an (.slice cb kids.length cc) h ln f row col) (.slice cb kids.length cc) kids.length ps kids x (.slice mb 1 mc) := by
      refine ⟨rmv (eraseB D5 (.slice cb kids.length cc)) p, m, View.le_trans y1 (View.le_trans hBE hEE), View.le_trans (rmv_le _ _) (eraseB_le _ _), rmv_at _ _, l35 _ _ hp3, ?_, fun j hj => ?_, ?_, hym.le hEE, l35 _ _ (hDD _ _ hq)⟩
      · exact own_move (own_rebase hO35) fun b o k1 k2 k3 => ⟨none_le (rmv_le _ _) k1, k3⟩
      · obtain ⟨q', e1, e2⟩ := y8 j hj
        exact ⟨q', e1, e2.le (View.le_trans hBE hEE)⟩
      · refine (own_move (D' := D3) hO5 fun b o k1 k2 k3 => ⟨k1, ?_⟩).row
        unfold rmv
        rw [if_neg (fun hx => by rw [hx, hp3] at k1; cases k1), eraseB_apart (fun hx => by obtain ⟨-, o', e2⟩ := own_some2 hO3 hx; rw [e2] at k1; cases k1)]
        exact k3
    refine hJ1 (1 - (1)) _ _ _ (by omega) ⟨1, D5, .slice mb 1 mc, rfl, rfl, rfl, hP, by simp [go_sem, hcz, hco, hw1, d42, d24, d54, d45, d52, d25, d65, d56, d64, d46, d62, d26, g1, g2, g4, g5, g6, g7, g8, g9, g22, g23, g24, hz, ho, xindexAt, vload, d116, d611, d115, d511, d114, d411, d112, d211, d4411, d1144, d446, d644, d445, d544, d444, d444, d442, d244], by simp [go_sem, hcz, hco, hw1, d42, d24, d54, d45, d52, d25, d65, d56, d64, d46, d62, d26, g1, g2, g4, g5, g6, g7, g8, g9, g22, g23, g24, hz, ho, xindexAt, vload, d116, d611, d115, d511, d114, d411, d112, d211, d4411, d1144, d446, d644, d445, d544, d444, d444, d442, d244], by simp [go_sem, hcz, hco, hw1, d42, d24, d54, d45, d52, d25, d65, d56, d64, d46, d62, d26, g1, g2, g4, g5, g6, g7, g8, g9, g22, g23, g24, hz, ho, xindexAt, vload, d116, d611, d115, d511, d114, d411, d112, d211, d4411, d1144, d446, d644, d445, d544, d444, d444, d442, d244], by simp [go_sem, hcz, hco, hw1, d42, d24, d54, d45, d52, d25, d65, d56, d64, d46, d62, d26, g1, g2, g4, g5, g6, g7, g8, g9, g22, g23, g24, hz, ho, xindexAt, vload, d116, d611, d115, d511, d114, d411, d112, d211, d4411, d1144, d446, d644, d445, d544, d444, d444, d442, d244], by simp [go_sem, hcz, hco, hw1, d42, d24, d54, d45, d52, d25, d65, d56, d64, d46, d62, d26, g1, g2, g4, g5, g6, g7, g8, g9, g22, g23, g24, hz, ho, xindexAt, vload, d116, d611, d115, d511, d114, d411, d112, d211, d4411, d1144, d446, d644, d445, d544, d444, d444, d442, d244], by simp [go_sem, hcz, hco, hw1, d42, d24, d54, d45, d52, d25, d65, d56, d64, d46, d62, d26, g1, g2, g4, g5, g6, g7, g8, g9, g22, g23, g24, hz, ho, xindexAt, vload, d116, d611, d115, d511, d114, d411, d112, d211, d4411, d1144, d446, d644, d445, d544, d444, d444, d442, d244], by simp [go_sem, hcz, hco, hw1, d42, d24, d54, d45, d52, d25, d65, d56, d64, d46, d62, d26, g1, g2, g4, g5, g6, g7, g8, g9, g22, g23, g24, hz, ho, xindexAt, vload, d116, d611, d115, d511, d114, d411, d112, d211, d4411, d1144, d446, d644, d445, d544, d444, d444, d442, d244], by simp [go_sem, hcz, hco, hw1, d42, d24, d54, d45, d52, d25, d65, d56, d64, d46, d62, d26, g1, g2, g4, g5, g6, g7, g8, g9, g22, g23, g24, hz, ho, xindexAt, vload, d116, d611, d115, d511, d114, d411, d112, d211, d4411, d1144, d446, d644, d445, d544, d444, d444, d442, d244], by simp [go_sem, hcz, hco, hw1, d42, d24, d54, d45, d52, d25, d65, d56, d64, d46, d62, d26, g1, g2, g4, g5, g6, g7, g8, g9, g22, g23, g24, hz, ho, xindexAt, vload, d116, d611, d115, d511, d114, d411, d112, d211, d4411, d1144, d446, d644, d445, d544, d444, d444, d442, d244], by simp [go_sem, hcz, hco, hw1, d42, d24, d54, d45, d52, d25, d65, d56, d64, d46, d62, d26, g1, g2, g4, g5, g6, g7, g8, g9, g22, g23, g24, hz, ho, xindexAt, vload, d116, d611, d115, d511, d114, d411, d112, d211, d4411, d1144, d446, d644, d445, d544, d444, d444, d442, d244], by simp [go_sem, hcz, hco, hw1, d42, d24, d54, d45, d52, d25, d65, d56, d64, d46, d62, d26, g1, g2, g4, g5, g6, g7, g8, g9, g22, g23, g24, hz, ho, xindexAt, vload, d116, d611, d115, d511, d114, d411, d112, d211, d4411, d1144, d446, d644, d445, d544, d444, d444, d442, d244], by omega, fun e => (by cases e), fun _ => hAQ⟩
  obtain rfl : i = 1 := by omega
  obtain ⟨E, m, w1, w2, w3, w4, w5, w6, w7, w8, w9⟩ := hs1 rfl
  obtain ⟨mb, mc, rfl⟩ := w7.form
  refine xc_two fun N7 hN7 => ?_
  refine xc_reg2 fun K hK => ?_
  simp only [rall, rsl, gres]
  (refine seqX_hide2 fun R hR => ?_; simp [go_sem, hcz, hco, hw1, d42, d24, d54, d45, d52, d25, d65, d56, d64, d46, d62, d26, g1, g2, g4, g5, g6, g7, g8, g9, g22, g23, g24]; refine hR _ _ _ ?_; clear hR R)
  rw [seqX_nil]
  refine hK _ _ _ ?_; clear hK K
  refine hN7 _ _ _ ?_
  refine xc_two fun N8 hN8 => ?_
  refine xc_iffalse (by simp [go_sem, hcz, hco, hw1, d42, d24, d54, d45, d52, d25, d65, d56, d64, d46, d62, d26, g1, g2, g4, g5, g6, g7, g8, g9, g22, g23, g24]) ?_
  refine hX1 _ _ _ _ ?_
  refine hN5 _ _ _ ?_
  refine xc_two fun N9 hN9 => ?_
  refine xc_two fun N10 hN10 => ?_
  refine xc_reg2 fun K hK => ?_
  simp only [rall, rsl, gres]
  iterate 2 (refine seqX_hide2 fun R hR => ?_; simp [go_sem, hcz, hco, hw1, d42, d24, d54, d45, d52, d25, d65, d56, d64, d46, d62, d26, g1, g2, g4, g5, g6, g7, g8, g9, g22, g23, g24]; refine hR _ _ _ ?_; clear hR R)
  rw [seqX_nil]
  refine hK _ _ _ ?_; clear hK K
  refine hN10 _ _ _ ?_
  refine xc_iffalse (by simp [go_sem, hcz, hco, hw1, d42, d24, d54, d45, d52, d25, d65, d56, d64, d46, d62, d26, g1, g2, g4, g5, g6, g7, g8, g9, g22, g23, g24]) ?_
  refine hN9 _ _ _ ?_
  refine xc_two fun N11 hN11 => ?_
  refine xc_reg2 fun K hK => ?_
  simp only [rall, rsl, gres]
  iterate 2 (refine seqX_hide2 fun R hR => ?_; simp [go_sem, hcz, hco, hw1, d42, d24, d54, d45, d52, d25, d65, d56, d64, d46, d62, d26, g1, g2, g4, g5, g6, g7, g8, g9, g22, g23, g24]; refine hR _ _ _ ?_; clear hR R)
  refine seqX_hide2 fun R hR => ?_
  simp [go_sem, hcz, hco, hw1, d42, d24, d54, d45, d52, d25, d65, d56, d64, d46, d62, d26, g1, g2, g4, g5, g6, g7, g8, g9, g22, g23, g24]
  refine call_ov hP (append70 D mb 1 mc) ?_
  clear hP
  rintro _ D3 ⟨rfl, hD3⟩ hP
  refine hR _ _ _ ?_; clear hR R
  (refine seqX_hide2 fun R hR => ?_; simp [go_sem, hcz, hco, hw1, d42, d24, d54, d45, d52, d25, d65, d56, d64, d46, d62, d26, g1, g2, g4, g5, g6, g7, g8, g9, g22, g23, g24]; refine hR _ _ _ ?_; clear hR R)
  refine seqX_hide2 fun R hR => ?_
  simp [go_sem, hcz, hco, hw1, d42, d24, d54, d45, d52, d25, d65, d56, d64, d46, d62, d26, g1, g2, g4, g5, g6, g7, g8, g9, g22, g23, g24]
  intro q55 hq55
  replace hP := hP.cons hq55
  clear hq55
  have d556 : q55 ≠ q6 := (hP.ne q6 (by simp [addrs])).1
  have d655 : q6 ≠ q55 := (hP.ne q6 (by simp [addrs])).2
  have d555 : q55 ≠ q5 := (hP.ne q5 (by simp [addrs])).1
  have d555 : q5 ≠ q55 := (hP.ne q5 (by simp [addrs])).2
  have d554 : q55 ≠ q4 := (hP.ne q4 (by simp [addrs])).1
  have d455 : q4 ≠ q55 := (hP.ne q4 (by simp [addrs])).2
  have d552 : q55 ≠ q2 := (hP.ne q2 (by simp [addrs])).1
  have d255 : q2 ≠ q55 := (hP.ne q2 (by simp [addrs])).2
  refine hR _ _ _ ?_; clear hR R
  refine seqX_hide2 fun R hR => ?_
  simp [go_sem, hcz, hco, hw1, d42, d24, d54, d45, d52, d25, d65, d56, d64, d46, d62, d26, g1, g2, g4, g5, g6, g7, g8, g9, g22, g23, g24, d556, d655, d555, d555, d554, d455, d552, d255]
  obtain ⟨eq55, hPn, nq55⟩ := sinkI (A := D3) (L := [(q55, .cells #[.iface 102 (.agg #[.string ⟨#[]⟩, .slice mb 1 mc])] 116 (0, 0)), (q6, .cells #[.int .i64 0] 3 (0, 0)), (q5, .cells #[.slice none 0 0] 22 (0, 0)), (q4, .cells (trc 0 0 ⟨#[]⟩ ⟨#[]⟩ ⟨#[]⟩ ⟨#[]⟩ ⟨#[]⟩ ⟨#[]⟩ 0 0 0 (.slice none 0 0)) 24 (0, 0)), (q2, .cells c 24 (0, 0))]) 0 hP rfl
  rw [eq55]
  clear eq55 hP; have hP := hPn; clear hPn
  simp only [List.eraseIdx_cons_zero, List.eraseIdx_cons_succ, addrs_cons, addrs_nil] at hP ⊢
  have lq : D3 ≤ D3.set q55 (.cells #[.iface 102 (.agg #[.string ⟨#[]⟩, .slice mb 1 mc])] 116 (0, 0)) := le_set nq55
  have hrow : Row (D3.set q55 (.cells #[.iface 102 (.agg #[.string ⟨#[]⟩, .slice mb 1 mc])] 116 (0, 0))) 1 (.slice (some ⟨q55, 0, none⟩) 1 1) 1 [.iface 102 (.agg #[.string ⟨#[]⟩, .slice mb 1 mc])] := .inl ⟨_, 1, rfl, cells_block (set_at _ _ _) rfl⟩
  generalize D3.set q55 (.cells #[.iface 102 (.agg #[.string ⟨#[]⟩, .slice mb 1 mc])] 116 (0, 0)) = A4 at hP lq hrow ⊢
  have l4 := View.le_trans hD3 lq
  refine call_ov hP (pipe1 A4 q p 102 147 (.agg #[.string ⟨#[]⟩, .slice mb 1 mc]) (.slice (some ⟨q55, 0, none⟩) 1 1) k st tag val an (.slice cb kids.length cc) h ln f row col (l4 _ _ w9) (l4 _ _ w4) hk1 meth_ea (by kernel_rfl) hrow (fun v A' => RP (some x) v A' ∧ TopR A A' (.mk k st tag val an h ln f row col al (kids ++ [x])) q p) (append147 A E A4 q p m (.slice mb 1 mc) x k st tag val an h ln f row col al kids cb cc ps w1 (View.le_trans w2 l4) w3 (l4 _ _ w4) (w5.le l4) hpl w6 (l4 _ _ w9) hqp hk ht w7 w8 hkl)) ?_
  clear hP
  rintro _ A5 ⟨v, rfl, hx, HR5⟩ hP
  refine hR _ _ _ ?_; clear hR R
  iterate 5 (refine seqX_hide2 fun R hR => ?_; simp [go_sem, hcz, hco, hw1, d42, d24, d54, d45, d52, d25, d65, d56, d64, d46, d62, d26, g1, g2, g4, g5, g6, g7, g8, g9, g22, g23, g24, d556, d655, d555, d555, d554, d455, d552, d255]; refine hR _ _ _ ?_; clear hR R)
  rw [seqX_nil]
  refine hK _ _ _ ?_; clear hK K
  refine hN11 _ _ _ ?_
  refine xc_two fun N12 hN12 => ?_
  refine xc_two fun N13 hN13 => ?_
  refine xc_reg2 fun K hK => ?_
  simp only [rall, rsl, gres]
  iterate 2 (refine seqX_hide2 fun R hR => ?_; simp [go_sem, hcz, hco, hw1, d42, d24, d54, d45, d52, d25, d65, d56, d64, d46, d62, d26, g1, g2, g4, g5, g6, g7, g8, g9, g22, g23, g24, d556, d655, d555, d555, d554, d455, d552, d255]; refine hR _ _ _ ?_; clear hR R)
  rw [seqX_nil]
  refine hK _ _ _ ?_; clear hK K
  refine hN13 _ _ _ ?_
  refine xc_iffalse (by simp [go_sem, hcz, hco, hw1, d42, d24, d54, d45, d52, d25, d65, d56, d64, d46, d62, d26, g1, g2, g4, g5, g6, g7, g8, g9, g22, g23, g24, d556, d655, d555, d555, d554, d455, d552, d255]) ?_
  refine hN12 _ _ _ ?_
  refine xc_two fun N14 hN14 => ?_
  refine xc_reg2 fun K hK => ?_
  simp only [rall, rsl, gres]
  (refine seqX_hide2 fun R hR => ?_; simp [go_sem, hcz, hco, hw1, d42, d24, d54, d45, d52, d25, d65, d56, d64, d46, d62, d26, g1, g2, g4, g5, g6, g7, g8, g9, g22, g23, g24, d556, d655, d555, d555, d554, d455, d552, d255]; refine hR _ _ _ ?_; clear hR R)
  refine seqX_hide2 fun R hR => ?_
  simp [go_sem, hcz, hco, hw1, d42, d24, d54, d45, d52, d25, d65, d56, d64, d46, d62, d26, g1, g2, g4, g5, g6, g7, g8, g9, g22, g23, g24, d556, d655, d555, d555, d554, d455, d552, d255]
  refine call_ov hP (treeOf28 A5 (.mk k st tag val an h ln f row col al (kids ++ [x])) q HR5.rn hnt hndr) ?_
  clear hP
  rintro _ A6 ⟨c1, rfl, hc1, hA6⟩ hP
  have hcz1 := hc1.size
  have hco1 := hc1.ones
  refine hR _ _ _ ?_; clear hR R
  (refine seqX_hide2 fun R hR => ?_; simp [go_sem, hcz, hco, hw1, d42, d24, d54, d45, d52, d25, d65, d56, d64, d46, d62, d26, g1, g2, g4, g5, g6, g7, g8, g9, g22, g23, g24, d556, d655, d555, d555, d554, d455, d552, d255, hcz1, hco1]; refine hR _ _ _ ?_; clear hR R)
  refine seqX_hide2 fun R hR => ?_
  simp [go_sem, hcz, hco, hw1, d42, d24, d54, d45, d52, d25, d65, d56, d64, d46, d62, d26, g1, g2, g4, g5, g6, g7, g8, g9, g22, g23, g24, d556, d655, d555, d555, d554, d455, d552, d255, hcz1, hco1]
  refine call_ov hP (found51 A6 (some x) _ (hx.le hA6) (fun y hy => by cases hy; exact ⟨hptx.nt, by omega⟩)) ?_
  clear hP
  rintro fv A7 ⟨hfv, hA7⟩ hP
  replace hfv : Trs A7 fv [x] := hfv
  obtain ⟨fb, fc, rfl⟩ := hfv.slice
  have hidle : Idle Try.prog { target := .fn (.func 69) #[.pointer (some ⟨q4, 0, none⟩), .pointer (some ⟨q5, 0, none⟩), .pointer (some ⟨q6, 0, none⟩)], args := #[] } := by
    intro w'
    exact ⟨_, _, 69, #[.pointer (some ⟨q4, 0, none⟩), .pointer (some ⟨q5, 0, none⟩), .pointer (some ⟨q6, 0, none⟩)], rfl, by simp [go_sem, invoke], caught69 _ _ _ _⟩
  refine hR _ _ _ ?_; clear hR R
  refine seqX_hide2 fun R hR => ?_
  simp [go_sem, hcz, hco, hw1, d42, d24, d54, d45, d52, d25, d65, d56, d64, d46, d62, d26, g1, g2, g4, g5, g6, g7, g8, g9, g22, g23, g24, d556, d655, d555, d555, d554, d455, d552, d255, hcz1, hco1]
  refine hR _ _ _ ?_; clear hR R
  refine seqX_hide2 fun R hR => ?_
  simp [go_sem, hcz, hco, hw1, d42, d24, d54, d45, d52, d25, d65, d56, d64, d46, d62, d26, g1, g2, g4, g5, g6, g7, g8, g9, g22, g23, g24, d556, d655, d555, d555, d554, d455, d552, d255, hcz1, hco1]
  refine hR _ _ _ ?_; clear hR R
  refine seqX_hide2 fun R hR => ?_
  simp [go_sem, hcz, hco, hw1, d42, d24, d54, d45, d52, d25, d65, d56, d64, d46, d62, d26, g1, g2, g4, g5, g6, g7, g8, g9, g22, g23, g24, d556, d655, d555, d555, d554, d455, d552, d255, hcz1, hco1]
  refine hR _ _ _ ?_; clear hR R
  rw [seqX_nil]
  refine hK _ _ _ ?_; clear hK K
  refine hN14 _ _ _ ?_
  simp [go_sem, hcz, hco, hw1, d42, d24, d54, d45, d52, d25, d65, d56, d64, d46, d62, d26, g1, g2, g4, g5, g6, g7, g8, g9, g22, g23, g24, d556, d655, d555, d555, d554, d455, d552, d255, hcz1, hco1]
  refine ⟨hidle, c1, _, ⟨rfl, rfl⟩, hc1.le (View.le_trans hA7 ?_), hfv.le ?_, View.le_trans HR5.2.2.le (View.le_trans hA6 (View.le_trans hA7 ?_))⟩
  · exact le_ov hP
  · exact le_ov hP
  · exact le_ov hP
end Go.Proofs.YtpinamipjddobaaV

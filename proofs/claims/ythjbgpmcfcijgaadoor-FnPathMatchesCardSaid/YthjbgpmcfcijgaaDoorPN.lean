/- Shell patterns: the reference's heClass. -/
import Derived.Test.YthjbgpmcfcijgaaDoorPM
namespace Go.Proofs.YthjbgpmcfcijgaaDoorV
open Go.RowKit
open Pm (nb nb_len nb_get nb_drop nb_nil nb_cons nb_extract extract_size' It takes chr1 cls1 clsGo rng)
set_option linter.unusedSimpArgs false
set_option linter.unusedVariables false
/-- What heClass tells. -/
def ClR (A : View) (q : Option (It × List Nat)) (r : Value) : Prop := match q with
  | none => ∃ c s, r = .tuple #[.agg c, s, .bool false] ∧ c.size = 4 ∧ ones c = true
  | some (x, rest) => ∃ c v, r = .tuple #[.agg c, v, .bool true] ∧ IsIt A x c ∧ Rn A v rest
theorem Rn.form {A : View} {v : Value} {l : List Nat} (h : Rn A v l) : ∃ b o cap, v = .slice (some ⟨b, o, none⟩) l.length cap := let ⟨b, o, cap, h1, _⟩ := h; ⟨b, o, cap, h1⟩
theorem Rn.head {A : View} {b o n cap c : Nat} {l : List Nat} (h : Rn A (.slice (some ⟨b, o, none⟩) n cap) (c :: l)) : A.cell? ⟨b, o, none⟩ = some (.int .i32 (c : Nat)) ∧ l.length + 1 ≤ cap := by
  obtain ⟨b', o', cap', h1, h2, h3⟩ := h
  simp only [Value.slice.injEq, Option.some.injEq, Addr.mk.injEq, and_true] at h1
  obtain ⟨⟨rfl, rfl⟩, rfl, rfl⟩ := h1
  have := h3 0 (by simp)
  exact ⟨by simpa using this, h2⟩
set_option maxRecDepth 20000 in
theorem app_rng {D0 D : View} {L : List (Nat × Obj)} {u x : Value} {n : Nat} {vs : List Value} {lo hi : Nat} {K : Value → View → Prop} (hP : Priv D (addrs L)) (hO : Own D0 D 71 2 u n vs) (hD : D0 ≤ D)
    (hx : appended Tryd.prog (ov D L) 2 x = some ([.int .i32 lo, .int .i32 hi], 1)) (hs : isStr x = false) (hn : n ≤ 1000000)
    (k : ∀ v' D', D0 ≤ D' → Own D0 D' 71 2 v' (n + 1) (vs ++ [.int .i32 lo, .int .i32 hi]) → Priv D' (addrs L) → K v' (ov D' L)) : xappend Tryd.prog 49 49 u x (ov D L) K := by
  refine append_ov hP ti49 ti49 (fun k => by simp) ti71 rfl (by decide) hO hD hx (fun h => absurd (hs.symm.trans h) (by decide)) (fun v hv => ?_) (by omega) (fun v' D' h1 h2 _ h3 => k v' D' h1 h2 h3)
  exact List.all_eq_true.1 (show [Value.int .i32 (lo : Int), .int .i32 (hi : Int)].all one = true from rfl) v hv
theorem Parts.pushR {cs : List Value} {rs : List (Nat × Nat)} {A : View} (h : Parts 2 cs rs (QR A)) (hl : cs.length = rs.length * 2) (lo hi : Nat) : Parts 2 (cs ++ [.int .i32 (lo : Int), .int .i32 (hi : Int)]) (rs ++ [(lo, hi)]) (QR A) :=
  Parts.push (c := #[.int .i32 (lo : Int), .int .i32 (hi : Int)]) h hl rfl rfl
set_option maxRecDepth 20000 in
set_option maxHeartbeats 8000000 in
theorem class19 (A : View) (v : Value) (l : List Nat) (h : Rn A v l) (hl : l.length ≤ 1000) : VCalls Tryd.prog 19 #[v] A fun r A' => ClR A' (cls1 l) r ∧ A ≤ A' := by
  refine xcalls Tryd.func19 rfl (by simp [Tryd.ntmps19]) ?_
  simp only [Tryd.f19]
  have hP : Priv A (addrs []) := Priv.nil A
  show xc _ _ _ _ _ _ (ov A [])
  refine xc_two fun N1 hN1 => ?_
  refine xc_reg1 3 rfl fun K hK => ?_
  simp only [show (List.range 3).map (·, true) = [(0, true), (1, true), (2, true)] from rfl, rslv_cons, rslv_nil, List.getElem?_toArray, List.getElem?_cons_zero, List.getElem?_cons_succ, gres]
  refine seqX_hide2 fun R hR => ?_
  simp [go_sem]
  intro q2 hq2
  replace hP := hP.cons hq2
  clear hq2
  refine hR _ _ _ ?_; clear hR R
  iterate 2 (refine seqX_hide2 fun R hR => ?_; simp [go_sem]; refine hR _ _ _ ?_; clear hR R)
  rw [seqX_nil]
  refine hK _ _ _ ?_; clear hK K
  refine hN1 _ _ _ ?_
  refine xc_two fun N2 hN2 => ?_
  refine xc_reg1 3 rfl fun K hK => ?_
  simp only [show (List.range 3).map (·, true) = [(0, true), (1, true), (2, true)] from rfl, rslv_cons, rslv_nil, List.getElem?_toArray, List.getElem?_cons_zero, List.getElem?_cons_succ, gres]
  (refine seqX_hide2 fun R hR => ?_; simp [go_sem]; refine hR _ _ _ ?_; clear hR R)
  refine seqX_hide2 fun R hR => ?_
  simp [go_sem]
  intro q5 hq5
  replace hP := hP.cons hq5
  clear hq5
  have d52 : q5 ≠ q2 := (hP.ne q2 (by simp [addrs])).1
  have d25 : q2 ≠ q5 := (hP.ne q2 (by simp [addrs])).2
  refine hR _ _ _ ?_; clear hR R
  refine seqX_hide2 fun R hR => ?_
  simp [go_sem, d52, d25]
  refine hR _ _ _ ?_; clear hR R
  rw [seqX_nil]
  refine hK _ _ _ ?_; clear hK K
  refine hN2 _ _ _ ?_
  refine xc_two fun N3 hN3 => ?_
  refine xc_two fun N4 hN4 => ?_
  have ng : ∀ (neg : Bool) (v2 : Value) (l2 : List Nat) (e : Env), Priv A [q5, q2] → e 0 = v2 → e 2 = .pointer (some ⟨q2, 0, none⟩) → e 5 = .pointer (some ⟨q5, 0, none⟩) → (Rn A v2 l2) → (l2.length ≤ 1000) → (cls1 l = (clsGo l2 []).map fun p => (.cls neg p.1, p.2)) → N3 e [] (ov A [(q5, .cells (itc 91 neg (.slice none 0 0) 0) 51 (0, 0)), (q2, .cells (itc 0 false (.slice none 0 0) 0) 51 (0, 0))]) := by
    clear hP
    intro neg v2 l2 e hP g0 g2 g5 hR2 hl2 hcl
    refine hN3 _ _ _ ?_
    refine xc_two fun N5 hN5 => ?_
    rw [xc_block]
    rw [xc_loop]
    refine vloopK (fun k' e ds A' => ∃ (v3 : Value) (l3 : List Nat) (rs : List (Nat × Nat)) (D : View) (rv : Value) (cs : List Value), k' = l3.length ∧ ds = [] ∧ A' = ov D [(q5, .cells (itc 91 neg rv 0) 51 (0, 0)), (q2, .cells (itc 0 false (.slice none 0 0) 0) 51 (0, 0))] ∧ Priv D [q5, q2] ∧ e 0 = v3 ∧ e 2 = .pointer (some ⟨q2, 0, none⟩) ∧ e 5 = .pointer (some ⟨q5, 0, none⟩) ∧ (A ≤ D) ∧ (Own A D 71 2 rv rs.length cs) ∧ (Parts 2 cs rs (QR A)) ∧ (Rn A v3 l3) ∧ (rs.length + l3.length ≤ 1000) ∧ (clsGo l3 rs = clsGo l2 [])) _ ⟨v2, l2, [], A, .slice none 0 0, [], rfl, rfl, rfl, hP, by simp [go_sem, d52, d25, g0, g2, g5], by simp [go_sem, d52, d25, g0, g2, g5], by simp [go_sem, d52, d25, g0, g2, g5], View.le_refl _, Own.nil _ _ _ _, Parts.nil _ _, hR2, by simpa using hl2, rfl⟩ ?_
    clear g0 g2 g5
    clear hP
    rintro k' e ds _ ⟨v3, l3, rs, D, rv, cs, rfl, rfl, rfl, hP, g0, g2, g5, hAD, hO, hp, hRn, hlen, hgo⟩ J1 X1 hJ1 hX1
    refine xc_sound _ ?_
    obtain ⟨rb, rc, rfl⟩ := hO.shape
    obtain ⟨b, o, cap, rfl⟩ := hRn.form
    have hwr : ∀ k, k ≤ 1000 → (k : Int) ≤ 1000 := fun k hk => by omega
    refine xc_two fun N6 hN6 => ?_
    refine xc_two fun N7 hN7 => ?_
    have go : ∀  (e : Env), Priv D [q5, q2] → e 0 = .slice (some ⟨b, o, none⟩) l3.length cap → e 2 = .pointer (some ⟨q2, 0, none⟩) → e 5 = .pointer (some ⟨q5, 0, none⟩) → (∀ r', l3 = 93 :: r' → rs = []) → N6 e [] (ov D [(q5, .cells (itc 91 neg (.slice rb rs.length rc) 0) 51 (0, 0)), (q2, .cells (itc 0 false (.slice none 0 0) 0) 51 (0, 0))]) := by
      clear g0 g2 g5
      clear hP
      intro e hP g0 g2 g5 hno
      refine hN6 _ _ _ ?_
      rw [xc_block]
      refine xc_two fun N8 hN8 => ?_
      refine xc_reg1 9 rfl fun K hK => ?_
      simp only [show (List.range 9).map (·, true) = [(0, true), (1, true), (2, true), (3, true), (4, true), (5, true), (6, true), (7, true), (8, true)] from rfl, rslv_cons, rslv_nil, List.getElem?_toArray, List.getElem?_cons_zero, List.getElem?_cons_succ, gres]
      (refine seqX_hide2 fun R hR => ?_; simp [go_sem, d52, d25, g0, g2, g5]; refine hR _ _ _ ?_; clear hR R)
      refine seqX_hide2 fun R hR => ?_
      simp [go_sem, d52, d25, g0, g2, g5]
      refine call_same hP (char29 D _ l3 (hRn.le hAD) (by omega)) ?_
      rintro r4 hH
      cases h1 : chr1 l3 with
      | none =>
        unfold HcR at hH
        rw [h1] at hH
        simp only at hH
        subst hH
        have hcn : cls1 l = none := by rw [hcl, ← hgo, clsGo_none (rng_of0 h1) hno]; rfl
        refine hR _ _ _ ?_; clear hR R
        iterate 7 (refine seqX_hide2 fun R hR => ?_; simp [go_sem, d52, d25, g0, g2, g5]; refine hR _ _ _ ?_; clear hR R)
        rw [seqX_nil]
        refine hK _ _ _ ?_; clear hK K
        refine hN8 _ _ _ ?_
        refine xc_two fun N9 hN9 => ?_
        refine xc_two fun N10 hN10 => ?_
        refine xc_reg1 2 rfl fun K hK => ?_
        simp only [show (List.range 2).map (·, true) = [(0, true), (1, true)] from rfl, rslv_cons, rslv_nil, List.getElem?_toArray, List.getElem?_cons_zero, List.getElem?_cons_succ, gres]
        iterate 2 (refine seqX_hide2 fun R hR => ?_; simp [go_sem, d52, d25, g0, g2, g5]; refine hR _ _ _ ?_; clear hR R)
        rw [seqX_nil]
        refine hK _ _ _ ?_; clear hK K
        refine hN10 _ _ _ ?_
        refine xc_iftrue (by simp [go_sem, d52, d25, g0, g2, g5]) ?_
        refine xc_two fun N11 hN11 => ?_
        refine xc_reg1 4 rfl fun K hK => ?_
        simp only [show (List.range 4).map (·, true) = [(0, true), (1, true), (2, true), (3, true)] from rfl, rslv_cons, rslv_nil, List.getElem?_toArray, List.getElem?_cons_zero, List.getElem?_cons_succ, gres]
        (refine seqX_hide2 fun R hR => ?_; simp [go_sem, d52, d25, g0, g2, g5]; refine hR _ _ _ ?_; clear hR R)
        refine seqX_hide2 fun R hR => ?_
        simp [go_sem, d52, d25, g0, g2, g5]
        refine hR _ _ _ ?_; clear hR R
        iterate 2 (refine seqX_hide2 fun R hR => ?_; simp [go_sem, d52, d25, g0, g2, g5]; refine hR _ _ _ ?_; clear hR R)
        rw [seqX_nil]
        refine hK _ _ _ ?_; clear hK K
        refine hN11 _ _ _ ?_
        refine hX1 _ _ _ _ ?_
        simp [go_sem, d52, d25, g0, g2, g5]
        rw [hcn]
        refine ⟨⟨_, _, rfl, rfl, rfl⟩, View.le_trans hAD ?_⟩
        exact le_ov hP
      | some y =>
        obtain ⟨lo, q⟩ := y
        unfold HcR at hH
        rw [h1] at hH
        simp only at hH
        obtain ⟨v4, rfl, hR4⟩ := hH
        have hR4 := hR4 A hRn
        have hql := Pm.chr1_len h1
        obtain ⟨d, q', rfl⟩ : ∃ d q', q = d :: q' := by
          cases q with
          | nil => exact absurd rfl hql.2
          | cons d q' => exact ⟨d, q', rfl⟩
        obtain ⟨b4, o4, cap4, rfl⟩ := hR4.form
        obtain ⟨u4, hc4⟩ := hR4.head
        have hlen4 : (d :: q').length = q'.length + 1 := rfl
        rw [hlen4] at hR4 hql
        have p1 : (0 : Int) < (q'.length : Int) + 1 := by omega
        have p2 : (1 : Int) ≤ (q'.length : Int) + 1 := by omega
        refine hR _ _ _ ?_; clear hR R
        iterate 7 (refine seqX_hide2 fun R hR => ?_; simp [go_sem, d52, d25, g0, g2, g5, hlen4, p1, p2, hc4, bc hP (le_cell hAD u4), xindexAt, vload, xslice]; refine hR _ _ _ ?_; clear hR R)
        rw [seqX_nil]
        refine hK _ _ _ ?_; clear hK K
        refine hN8 _ _ _ ?_
        refine xc_two fun N9 hN9 => ?_
        refine xc_two fun N10 hN10 => ?_
        refine xc_reg1 2 rfl fun K hK => ?_
        simp only [show (List.range 2).map (·, true) = [(0, true), (1, true)] from rfl, rslv_cons, rslv_nil, List.getElem?_toArray, List.getElem?_cons_zero, List.getElem?_cons_succ, gres]
        iterate 2 (refine seqX_hide2 fun R hR => ?_; simp [go_sem, d52, d25, g0, g2, g5, hlen4, p1, p2, hc4, bc hP (le_cell hAD u4), xindexAt, vload, xslice]; refine hR _ _ _ ?_; clear hR R)
        rw [seqX_nil]
        refine hK _ _ _ ?_; clear hK K
        refine hN10 _ _ _ ?_
        refine xc_iffalse (by simp [go_sem, d52, d25, g0, g2, g5, hlen4, p1, p2, hc4, bc hP (le_cell hAD u4), xindexAt, vload, xslice]) ?_
        refine hN9 _ _ _ ?_
        refine xc_two fun N11 hN11 => ?_
        refine xc_reg1 2 rfl fun K hK => ?_
        simp only [show (List.range 2).map (·, true) = [(0, true), (1, true)] from rfl, rslv_cons, rslv_nil, List.getElem?_toArray, List.getElem?_cons_zero, List.getElem?_cons_succ, gres]
        iterate 2 (refine seqX_hide2 fun R hR => ?_; simp [go_sem, d52, d25, g0, g2, g5, hlen4, p1, p2, hc4, bc hP (le_cell hAD u4), xindexAt, vload, xslice]; refine hR _ _ _ ?_; clear hR R)
        rw [seqX_nil]
        refine hK _ _ _ ?_; clear hK K
        refine hN11 _ _ _ ?_
        refine xc_two fun N12 hN12 => ?_
        refine xc_two fun N13 hN13 => ?_
        refine xc_reg1 4 rfl fun K hK => ?_
        simp only [show (List.range 4).map (·, true) = [(0, true), (1, true), (2, true), (3, true)] from rfl, rslv_cons, rslv_nil, List.getElem?_toArray, List.getElem?_cons_zero, List.getElem?_cons_succ, gres]
        iterate 4 (refine seqX_hide2 fun R hR => ?_; simp [go_sem, d52, d25, g0, g2, g5, hlen4, p1, p2, hc4, bc hP (le_cell hAD u4), xindexAt, vload, xslice]; refine hR _ _ _ ?_; clear hR R)
        rw [seqX_nil]
        refine hK _ _ _ ?_; clear hK K
        refine hN13 _ _ _ ?_
        have ht : ∀ (hi : Nat) (v5 : Value) (l5 : List Nat) (e : Env), Priv D [q5, q2] → e 2 = .pointer (some ⟨q2, 0, none⟩) → e 5 = .pointer (some ⟨q5, 0, none⟩) → e 6 = .int .i32 lo → e 7 = v5 → e 9 = .int .i32 hi → (Rn A v5 l5) → (rng l3 = some ((lo, hi), l5)) → N12 e [] (ov D [(q5, .cells (itc 91 neg (.slice rb rs.length rc) 0) 51 (0, 0)), (q2, .cells (itc 0 false (.slice none 0 0) 0) 51 (0, 0))]) := by
          clear g0 g2 g5
          clear hP
          intro hi v5 l5 e hP g2 g5 g6 g7 g9 hR5 hr
          refine hN12 _ _ _ ?_
          have hrl := Pm.rng_len hr
          have hst := Pm.clsGo_step (rs := rs) hr
          obtain ⟨b5, o5, cap5, rfl⟩ := hR5.form
          refine xc_two fun N14 hN14 => ?_
          refine xc_reg1 9 rfl fun K hK => ?_
          simp only [show (List.range 9).map (·, true) = [(0, true), (1, true), (2, true), (3, true), (4, true), (5, true), (6, true), (7, true), (8, true)] from rfl, rslv_cons, rslv_nil, List.getElem?_toArray, List.getElem?_cons_zero, List.getElem?_cons_succ, gres]
          iterate 5 (refine seqX_hide2 fun R hR => ?_; simp [go_sem, d52, d25, hlen4, p1, p2, hc4, bc hP (le_cell hAD u4), xindexAt, vload, xslice, g2, g5, g6, g7, g9]; refine hR _ _ _ ?_; clear hR R)
          refine seqX_hide2 fun R hR => ?_
          simp [go_sem, d52, d25, hlen4, p1, p2, hc4, bc hP (le_cell hAD u4), xindexAt, vload, xslice, g2, g5, g6, g7, g9]
          intro q67 hq67
          replace hP := hP.cons hq67
          clear hq67
          have d675 : q67 ≠ q5 := (hP.ne q5 (by simp [addrs])).1
          have d567 : q5 ≠ q67 := (hP.ne q5 (by simp [addrs])).2
          have d672 : q67 ≠ q2 := (hP.ne q2 (by simp [addrs])).1
          have d267 : q2 ≠ q67 := (hP.ne q2 (by simp [addrs])).2
          refine hR _ _ _ ?_; clear hR R
          refine seqX_hide2 fun R hR => ?_
          simp [go_sem, d52, d25, hlen4, p1, p2, hc4, bc hP (le_cell hAD u4), xindexAt, vload, xslice, g2, g5, g6, g7, g9, d675, d567, d672, d267]
          refine app_rng (lo := lo) (hi := hi) hP hO hAD (by simp [appended, go_sem]) rfl (by omega) ?_
          clear hP
          rintro v6 D6 h6 hO6 hP
          obtain ⟨vb, vc, rfl⟩ := hO6.shape
          refine hR _ _ _ ?_; clear hR R
          (refine seqX_hide2 fun R hR => ?_; simp [go_sem, d52, d25, hlen4, p1, p2, hc4, xindexAt, vload, xslice, g2, g5, g6, g7, g9, d675, d567, d672, d267]; refine hR _ _ _ ?_; clear hR R)
          refine seqX_hide2 fun R hR => ?_
          simp [go_sem, d52, d25, hlen4, p1, p2, hc4, xindexAt, vload, xslice, g2, g5, g6, g7, g9, d675, d567, d672, d267]
          refine hR _ _ _ ?_; clear hR R
          rw [seqX_nil]
          refine hK _ _ _ ?_; clear hK K
          refine hN14 _ _ _ ?_
          refine xc_reg1 2 rfl fun K hK => ?_
          simp only [show (List.range 2).map (·, true) = [(0, true), (1, true)] from rfl, rslv_cons, rslv_nil, List.getElem?_toArray, List.getElem?_cons_zero, List.getElem?_cons_succ, gres]
          iterate 2 (refine seqX_hide2 fun R hR => ?_; simp [go_sem, d52, d25, hlen4, p1, p2, hc4, xindexAt, vload, xslice, g2, g5, g6, g7, g9, d675, d567, d672, d267]; refine hR _ _ _ ?_; clear hR R)
          rw [seqX_nil]
          refine hK _ _ _ ?_; clear hK K
          refine sink_goal 0 hP rfl fun hPn lq67 nq67 => ?_
          clear hP; have hP := hPn; clear hPn
          simp only [List.eraseIdx_cons_zero, List.eraseIdx_cons_succ, addrs_cons, addrs_nil] at hP ⊢
          refine hJ1 ((l5).length) _ _ _ (by exact hrl.1) ⟨.slice (some ⟨b5, o5, none⟩) l5.length cap5, l5, rs ++ [(lo, hi)], _, .slice vb (rs.length + 1) vc, cs ++ [.int .i32 (lo : Int), .int .i32 (hi : Int)], rfl, rfl, rfl, hP, by simp [go_sem, d52, d25, hlen4, p1, p2, hc4, xindexAt, vload, xslice, g2, g5, g6, g7, g9, d675, d567, d672, d267], by simp [go_sem, d52, d25, hlen4, p1, p2, hc4, xindexAt, vload, xslice, g2, g5, g6, g7, g9, d675, d567, d672, d267], by simp [go_sem, d52, d25, hlen4, p1, p2, hc4, xindexAt, vload, xslice, g2, g5, g6, g7, g9, d675, d567, d672, d267], View.le_trans h6 lq67, by rw [List.length_append]; exact hO6.le lq67, hp.pushR hO.clen lo hi, hR5, by rw [List.length_append]; simp; omega, by rw [← hst]; exact hgo⟩
        by_cases h45 : d = 45
        · subst h45
          have hT := hR4.tail
          refine xc_iftrue (by simp [go_sem, d52, d25, g0, g2, g5, hlen4, p1, p2, hc4, bc hP (le_cell hAD u4), xindexAt, vload, xslice]) ?_
          refine xc_two fun N14 hN14 => ?_
          refine xc_reg1 10 rfl fun K hK => ?_
          simp only [show (List.range 10).map (·, true) = [(0, true), (1, true), (2, true), (3, true), (4, true), (5, true), (6, true), (7, true), (8, true), (9, true)] from rfl, rslv_cons, rslv_nil, List.getElem?_toArray, List.getElem?_cons_zero, List.getElem?_cons_succ, gres]
          iterate 2 (refine seqX_hide2 fun R hR => ?_; simp [go_sem, d52, d25, g0, g2, g5, hlen4, p1, p2, hc4, bc hP (le_cell hAD u4), xindexAt, vload, xslice]; refine hR _ _ _ ?_; clear hR R)
          refine seqX_hide2 fun R hR => ?_
          simp [go_sem, d52, d25, g0, g2, g5, hlen4, p1, p2, hc4, bc hP (le_cell hAD u4), xindexAt, vload, xslice]
          refine call_same hP (char29 D _ q' (hT.le hAD) (by omega)) ?_
          rintro r5 hH
          have hrr := rng_of2 h1
          cases h2 : chr1 q' with
          | none =>
            unfold HcR at hH
            rw [h2] at hH hrr
            simp only at hH hrr
            subst hH
            have hcn : cls1 l = none := by rw [hcl, ← hgo, clsGo_none hrr hno]; rfl
            refine hR _ _ _ ?_; clear hR R
            iterate 7 (refine seqX_hide2 fun R hR => ?_; simp [go_sem, d52, d25, g0, g2, g5, hlen4, p1, p2, hc4, bc hP (le_cell hAD u4), xindexAt, vload, xslice]; refine hR _ _ _ ?_; clear hR R)
            rw [seqX_nil]
            refine hK _ _ _ ?_; clear hK K
            refine hN14 _ _ _ ?_
            refine xc_two fun N15 hN15 => ?_
            refine xc_reg1 2 rfl fun K hK => ?_
            simp only [show (List.range 2).map (·, true) = [(0, true), (1, true)] from rfl, rslv_cons, rslv_nil, List.getElem?_toArray, List.getElem?_cons_zero, List.getElem?_cons_succ, gres]
            iterate 2 (refine seqX_hide2 fun R hR => ?_; simp [go_sem, d52, d25, g0, g2, g5, hlen4, p1, p2, hc4, bc hP (le_cell hAD u4), xindexAt, vload, xslice]; refine hR _ _ _ ?_; clear hR R)
            rw [seqX_nil]
            refine hK _ _ _ ?_; clear hK K
            refine hN15 _ _ _ ?_
            refine xc_iftrue (by simp [go_sem, d52, d25, g0, g2, g5, hlen4, p1, p2, hc4, bc hP (le_cell hAD u4), xindexAt, vload, xslice]) ?_
            refine xc_two fun N16 hN16 => ?_
            refine xc_reg1 4 rfl fun K hK => ?_
            simp only [show (List.range 4).map (·, true) = [(0, true), (1, true), (2, true), (3, true)] from rfl, rslv_cons, rslv_nil, List.getElem?_toArray, List.getElem?_cons_zero, List.getElem?_cons_succ, gres]
            (refine seqX_hide2 fun R hR => ?_; simp [go_sem, d52, d25, g0, g2, g5, hlen4, p1, p2, hc4, bc hP (le_cell hAD u4), xindexAt, vload, xslice]; refine hR _ _ _ ?_; clear hR R)
            refine seqX_hide2 fun R hR => ?_
            simp [go_sem, d52, d25, g0, g2, g5, hlen4, p1, p2, hc4, bc hP (le_cell hAD u4), xindexAt, vload, xslice]
            refine hR _ _ _ ?_; clear hR R
            iterate 2 (refine seqX_hide2 fun R hR => ?_; simp [go_sem, d52, d25, g0, g2, g5, hlen4, p1, p2, hc4, bc hP (le_cell hAD u4), xindexAt, vload, xslice]; refine hR _ _ _ ?_; clear hR R)
            rw [seqX_nil]
            refine hK _ _ _ ?_; clear hK K
            refine hN16 _ _ _ ?_
            refine hX1 _ _ _ _ ?_
            simp [go_sem, d52, d25, g0, g2, g5, hlen4, p1, p2, hc4, bc hP (le_cell hAD u4), xindexAt, vload, xslice]
            rw [hcn]
            refine ⟨⟨_, _, rfl, rfl, rfl⟩, View.le_trans hAD ?_⟩
            exact le_ov hP
          | some y =>
            obtain ⟨hi, lq⟩ := y
            unfold HcR at hH
            rw [h2] at hH hrr
            simp only at hH hrr
            obtain ⟨v7, rfl, hR7⟩ := hH
            have hR7 := hR7 A hT
            refine hR _ _ _ ?_; clear hR R
            iterate 7 (refine seqX_hide2 fun R hR => ?_; simp [go_sem, d52, d25, g0, g2, g5, hlen4, p1, p2, hc4, bc hP (le_cell hAD u4), xindexAt, vload, xslice]; refine hR _ _ _ ?_; clear hR R)
            rw [seqX_nil]
            refine hK _ _ _ ?_; clear hK K
            refine hN14 _ _ _ ?_
            refine xc_two fun N15 hN15 => ?_
            refine xc_reg1 2 rfl fun K hK => ?_
            simp only [show (List.range 2).map (·, true) = [(0, true), (1, true)] from rfl, rslv_cons, rslv_nil, List.getElem?_toArray, List.getElem?_cons_zero, List.getElem?_cons_succ, gres]
            iterate 2 (refine seqX_hide2 fun R hR => ?_; simp [go_sem, d52, d25, g0, g2, g5, hlen4, p1, p2, hc4, bc hP (le_cell hAD u4), xindexAt, vload, xslice]; refine hR _ _ _ ?_; clear hR R)
            rw [seqX_nil]
            refine hK _ _ _ ?_; clear hK K
            refine hN15 _ _ _ ?_
            refine xc_iffalse (by simp [go_sem, d52, d25, g0, g2, g5, hlen4, p1, p2, hc4, bc hP (le_cell hAD u4), xindexAt, vload, xslice]) ?_
            exact ht (hi) (v7) (lq) _ hP (by simp [go_sem, d52, d25, g0, g2, g5, hlen4, p1, p2, hc4, bc hP (le_cell hAD u4), xindexAt, vload, xslice]) (by simp [go_sem, d52, d25, g0, g2, g5, hlen4, p1, p2, hc4, bc hP (le_cell hAD u4), xindexAt, vload, xslice]) (by simp [go_sem, d52, d25, g0, g2, g5, hlen4, p1, p2, hc4, bc hP (le_cell hAD u4), xindexAt, vload, xslice]) (by simp [go_sem, d52, d25, g0, g2, g5, hlen4, p1, p2, hc4, bc hP (le_cell hAD u4), xindexAt, vload, xslice]) (by simp [go_sem, d52, d25, g0, g2, g5, hlen4, p1, p2, hc4, bc hP (le_cell hAD u4), xindexAt, vload, xslice]) (hR7) (hrr)
        · have k1 : ((d : Int) == 45) = false := beq_eq_false_iff_ne.2 (by omega)
          have k2 : ¬ (d : Int) = 45 := by omega
          refine xc_iffalse (by simp [go_sem, d52, d25, g0, g2, g5, hlen4, p1, p2, hc4, bc hP (le_cell hAD u4), xindexAt, vload, xslice, h45, k1, k2]) ?_
          exact ht (lo) (.slice (some ⟨b4, o4, none⟩) (q'.length + 1) cap4) (d :: q') _ hP (by simp [go_sem, d52, d25, g0, g2, g5, hlen4, p1, p2, hc4, bc hP (le_cell hAD u4), xindexAt, vload, xslice, h45, k1, k2]) (by simp [go_sem, d52, d25, g0, g2, g5, hlen4, p1, p2, hc4, bc hP (le_cell hAD u4), xindexAt, vload, xslice, h45, k1, k2]) (by simp [go_sem, d52, d25, g0, g2, g5, hlen4, p1, p2, hc4, bc hP (le_cell hAD u4), xindexAt, vload, xslice, h45, k1, k2]) (by simp [go_sem, d52, d25, g0, g2, g5, hlen4, p1, p2, hc4, bc hP (le_cell hAD u4), xindexAt, vload, xslice, h45, k1, k2]) (by simp [go_sem, d52, d25, g0, g2, g5, hlen4, p1, p2, hc4, bc hP (le_cell hAD u4), xindexAt, vload, xslice, h45, k1, k2]) (hR4) (rng_of h1 fun t hx => h45 (List.cons.inj hx).1)
    have hKcl : ∀ q, clsGo l3 rs = q → cls1 l = q.map fun p => (.cls neg p.1, p.2) := fun q h => by rw [hcl, ← hgo, h]
    clear hwr
    cases l3 with
    | nil =>
      have hcn : cls1 l = none := hKcl none (by rw [clsGo])
      refine xc_reg1 15 rfl fun K hK => ?_
      simp only [show (List.range 15).map (·, true) = [(0, true), (1, true), (2, true), (3, true), (4, true), (5, true), (6, true), (7, true), (8, true), (9, true), (10, true), (11, true), (12, true), (13, true), (14, true)] from rfl, rslv_cons, rslv_nil, List.getElem?_toArray, List.getElem?_cons_zero, List.getElem?_cons_succ, gres]
      iterate 15 (refine seqX_hide2 fun R hR => ?_; simp [go_sem, d52, d25, g0, g2, g5, List.length_nil]; refine hR _ _ _ ?_; clear hR R)
      rw [seqX_nil]
      refine hK _ _ _ ?_; clear hK K
      refine hN7 _ _ _ ?_
      refine xc_iffalse (by simp [go_sem, d52, d25, g0, g2, g5, List.length_nil]) ?_
      refine hX1 _ _ _ _ ?_
      refine hN5 _ _ _ ?_
      refine xc_two fun N8 hN8 => ?_
      refine xc_two fun N9 hN9 => ?_
      refine xc_reg1 3 rfl fun K hK => ?_
      simp only [show (List.range 3).map (·, true) = [(0, true), (1, true), (2, true)] from rfl, rslv_cons, rslv_nil, List.getElem?_toArray, List.getElem?_cons_zero, List.getElem?_cons_succ, gres]
      iterate 3 (refine seqX_hide2 fun R hR => ?_; simp [go_sem, d52, d25, g0, g2, g5, List.length_nil]; refine hR _ _ _ ?_; clear hR R)
      rw [seqX_nil]
      refine hK _ _ _ ?_; clear hK K
      refine hN9 _ _ _ ?_
      refine xc_iftrue (by simp [go_sem, d52, d25, g0, g2, g5, List.length_nil]) ?_
      refine xc_two fun N10 hN10 => ?_
      refine xc_reg1 4 rfl fun K hK => ?_
      simp only [show (List.range 4).map (·, true) = [(0, true), (1, true), (2, true), (3, true)] from rfl, rslv_cons, rslv_nil, List.getElem?_toArray, List.getElem?_cons_zero, List.getElem?_cons_succ, gres]
      (refine seqX_hide2 fun R hR => ?_; simp [go_sem, d52, d25, g0, g2, g5, List.length_nil]; refine hR _ _ _ ?_; clear hR R)
      refine seqX_hide2 fun R hR => ?_
      simp [go_sem, d52, d25, g0, g2, g5, List.length_nil]
      refine hR _ _ _ ?_; clear hR R
      iterate 2 (refine seqX_hide2 fun R hR => ?_; simp [go_sem, d52, d25, g0, g2, g5, List.length_nil]; refine hR _ _ _ ?_; clear hR R)
      rw [seqX_nil]
      refine hK _ _ _ ?_; clear hK K
      refine hN10 _ _ _ ?_
      simp [go_sem, d52, d25, g0, g2, g5, List.length_nil]
      rw [hcn]
      refine ⟨⟨_, _, rfl, rfl, rfl⟩, View.le_trans hAD ?_⟩
      exact le_ov hP
    | cons c3 r3 =>
      obtain ⟨u3, hc3⟩ := hRn.head
      have hlen3 : (c3 :: r3).length = r3.length + 1 := rfl
      have hT := hRn.tail
      have p1 : (0 : Int) < (r3.length : Int) + 1 := by omega
      have p2 : (1 : Int) ≤ (r3.length : Int) + 1 := by omega
      have p3 : ¬ ((r3.length : Int) + 1) = 0 := by omega
      have p4 : (((r3.length : Int) + 1) == 0) = false := beq_eq_false_iff_ne.2 (by omega)
      by_cases k93 : c3 = 93
      rotate_left
      · have hb : ((c3 : Int) == 93) = false := beq_eq_false_iff_ne.2 (by omega)
        have hbn : ¬ (c3 : Int) = 93 := by omega
        have hbb : ((c3 : Int) != 93) = true := by rw [bne_iff_ne]; exact hbn
        refine xc_reg1 15 rfl fun K hK => ?_
        simp only [show (List.range 15).map (·, true) = [(0, true), (1, true), (2, true), (3, true), (4, true), (5, true), (6, true), (7, true), (8, true), (9, true), (10, true), (11, true), (12, true), (13, true), (14, true)] from rfl, rslv_cons, rslv_nil, List.getElem?_toArray, List.getElem?_cons_zero, List.getElem?_cons_succ, gres]
        iterate 15 (refine seqX_hide2 fun R hR => ?_; simp [go_sem, d52, d25, g0, g2, g5, hlen3, p1, p2, p3, p4, hc3, bc hP (le_cell hAD u3), xindexAt, vload, xslice, k93, hb, hbn, hbb]; refine hR _ _ _ ?_; clear hR R)
        rw [seqX_nil]
        refine hK _ _ _ ?_; clear hK K
        refine hN7 _ _ _ ?_
        refine xc_iftrue (by simp [go_sem, d52, d25, g0, g2, g5, hlen3, p1, p2, p3, p4, hc3, bc hP (le_cell hAD u3), xindexAt, vload, xslice, k93, hb, hbn, hbb]) ?_
        exact go  _ hP (by simp [go_sem, d52, d25, g0, g2, g5, hlen3, p1, p2, p3, p4, hc3, bc hP (le_cell hAD u3), xindexAt, vload, xslice, k93, hb, hbn, hbb]) (by simp [go_sem, d52, d25, g0, g2, g5, hlen3, p1, p2, p3, p4, hc3, bc hP (le_cell hAD u3), xindexAt, vload, xslice, k93, hb, hbn, hbb]) (by simp [go_sem, d52, d25, g0, g2, g5, hlen3, p1, p2, p3, p4, hc3, bc hP (le_cell hAD u3), xindexAt, vload, xslice, k93, hb, hbn, hbb]) (fun r' h => absurd (List.cons.inj h).1 k93)
      subst k93
      have hbb : (((93 : Nat) : Int) != 93) = false := by decide
      by_cases hrs : rs = []
      · subst hrs
        refine xc_reg1 15 rfl fun K hK => ?_
        simp only [show (List.range 15).map (·, true) = [(0, true), (1, true), (2, true), (3, true), (4, true), (5, true), (6, true), (7, true), (8, true), (9, true), (10, true), (11, true), (12, true), (13, true), (14, true)] from rfl, rslv_cons, rslv_nil, List.getElem?_toArray, List.getElem?_cons_zero, List.getElem?_cons_succ, gres]
        iterate 15 (refine seqX_hide2 fun R hR => ?_; simp [go_sem, d52, d25, g0, g2, g5, hlen3, p1, p2, p3, p4, hc3, bc hP (le_cell hAD u3), xindexAt, vload, xslice, hbb, List.length_nil]; refine hR _ _ _ ?_; clear hR R)
        rw [seqX_nil]
        refine hK _ _ _ ?_; clear hK K
        refine hN7 _ _ _ ?_
        refine xc_iftrue (by simp [go_sem, d52, d25, g0, g2, g5, hlen3, p1, p2, p3, p4, hc3, bc hP (le_cell hAD u3), xindexAt, vload, xslice, hbb, List.length_nil]) ?_
        exact go  _ hP (by simp [go_sem, d52, d25, g0, g2, g5, hlen3, p1, p2, p3, p4, hc3, bc hP (le_cell hAD u3), xindexAt, vload, xslice, hbb, List.length_nil]) (by simp [go_sem, d52, d25, g0, g2, g5, hlen3, p1, p2, p3, p4, hc3, bc hP (le_cell hAD u3), xindexAt, vload, xslice, hbb, List.length_nil]) (by simp [go_sem, d52, d25, g0, g2, g5, hlen3, p1, p2, p3, p4, hc3, bc hP (le_cell hAD u3), xindexAt, vload, xslice, hbb, List.length_nil]) (fun r' h => rfl)
      have hr1 : ¬ rs.length = 0 := fun h => hrs (List.length_eq_zero_iff.1 h)
      have hr2 : ((rs.length : Int) == 0) = false := beq_eq_false_iff_ne.2 (by omega)
      have hr3 : ¬ (rs.length : Int) = 0 := by omega
      have hcs : cls1 l = some (.cls neg rs, r3) := hKcl _ (clsGo_end hrs)
      refine xc_reg1 15 rfl fun K hK => ?_
      simp only [show (List.range 15).map (·, true) = [(0, true), (1, true), (2, true), (3, true), (4, true), (5, true), (6, true), (7, true), (8, true), (9, true), (10, true), (11, true), (12, true), (13, true), (14, true)] from rfl, rslv_cons, rslv_nil, List.getElem?_toArray, List.getElem?_cons_zero, List.getElem?_cons_succ, gres]
      iterate 15 (refine seqX_hide2 fun R hR => ?_; simp [go_sem, d52, d25, g0, g2, g5, hlen3, p1, p2, p3, p4, hc3, bc hP (le_cell hAD u3), xindexAt, vload, xslice, hbb, hr1, hr2, hr3]; refine hR _ _ _ ?_; clear hR R)
      rw [seqX_nil]
      refine hK _ _ _ ?_; clear hK K
      refine hN7 _ _ _ ?_
      refine xc_iffalse (by simp [go_sem, d52, d25, g0, g2, g5, hlen3, p1, p2, p3, p4, hc3, bc hP (le_cell hAD u3), xindexAt, vload, xslice, hbb, hr1, hr2, hr3]) ?_
      refine hX1 _ _ _ _ ?_
      refine hN5 _ _ _ ?_
      refine xc_two fun N8 hN8 => ?_
      refine xc_two fun N9 hN9 => ?_
      refine xc_reg1 3 rfl fun K hK => ?_
      simp only [show (List.range 3).map (·, true) = [(0, true), (1, true), (2, true)] from rfl, rslv_cons, rslv_nil, List.getElem?_toArray, List.getElem?_cons_zero, List.getElem?_cons_succ, gres]
      iterate 3 (refine seqX_hide2 fun R hR => ?_; simp [go_sem, d52, d25, g0, g2, g5, hlen3, p1, p2, p3, p4, hc3, bc hP (le_cell hAD u3), xindexAt, vload, xslice, hbb, hr1, hr2, hr3]; refine hR _ _ _ ?_; clear hR R)
      rw [seqX_nil]
      refine hK _ _ _ ?_; clear hK K
      refine hN9 _ _ _ ?_
      refine xc_iffalse (by simp [go_sem, d52, d25, g0, g2, g5, hlen3, p1, p2, p3, p4, hc3, bc hP (le_cell hAD u3), xindexAt, vload, xslice, hbb, hr1, hr2, hr3]) ?_
      refine hN8 _ _ _ ?_
      refine xc_two fun N10 hN10 => ?_
      rw [xc_draws]
      refine vdrawK [(0, true), (1, true), (2, true), (3, false), (4, true), (5, true)] (ov D [(q5, .cells (itc 91 neg (.slice rb rs.length rc) 0) 51 (0, 0)), (q2, .cells (itc 0 false (.slice none 0 0) 0) 51 (0, 0))]) mixed (by kernel_rfl) (View.le_refl _) fun K hK => ?_
      simp only [rslv_cons, rslv_nil, List.getElem?_toArray, List.getElem?_cons_zero, List.getElem?_cons_succ, gres]
      iterate 3 (refine seqR_hide fun R hR => ?_; simp [go_sem, d52, d25, g0, g2, g5, hlen3, p1, p2, p3, p4, hc3, bc hP (le_cell hAD u3), xindexAt, vload, xslice, hbb, hr1, hr2, hr3]; refine hR _ _ _ ?_; clear hR R)
      refine seqR_hide fun R hR => ?_
      simp [go_sem, d52, d25, g0, g2, g5, hlen3, p1, p2, p3, p4, hc3, bc hP (le_cell hAD u3), xindexAt, vload, xslice, hbb, hr1, hr2, hr3]
      refine hR _ _ _ ?_; clear hR R
      iterate 2 (refine seqR_hide fun R hR => ?_; simp [go_sem, d52, d25, g0, g2, g5, hlen3, p1, p2, p3, p4, hc3, bc hP (le_cell hAD u3), xindexAt, vload, xslice, hbb, hr1, hr2, hr3]; refine hR _ _ _ ?_; clear hR R)
      rw [seqR_nil]
      refine hK _ _ _ ?_; clear hK K
      refine hN10 _ _ _ ?_
      simp [go_sem, d52, d25, g0, g2, g5, hlen3, p1, p2, p3, p4, hc3, bc hP (le_cell hAD u3), xindexAt, vload, xslice, hbb, hr1, hr2, hr3]
      rw [hcs]
      have hO' : Rgs D (.slice rb rs.length rc) rs := hO.elems (Q := QR) (hp.le fun _ _ h => h)
      refine ⟨⟨_, _, rfl, ⟨_, rfl, hO'.le ?_⟩, hT.le (View.le_trans hAD ?_)⟩, View.le_trans hAD ?_⟩
      · exact le_ov hP
      · exact le_ov hP
      · exact le_ov hP
  obtain ⟨b, o, cap, rfl⟩ := h.form
  have h0 := h
  cases l with
  | nil =>
    refine xc_reg1 9 rfl fun K hK => ?_
    simp only [show (List.range 9).map (·, true) = [(0, true), (1, true), (2, true), (3, true), (4, true), (5, true), (6, true), (7, true), (8, true)] from rfl, rslv_cons, rslv_nil, List.getElem?_toArray, List.getElem?_cons_zero, List.getElem?_cons_succ, gres]
    iterate 9 (refine seqX_hide2 fun R hR => ?_; simp [go_sem, d52, d25, List.length_nil]; refine hR _ _ _ ?_; clear hR R)
    rw [seqX_nil]
    refine hK _ _ _ ?_; clear hK K
    refine hN4 _ _ _ ?_
    refine xc_iffalse (by simp [go_sem, d52, d25, List.length_nil]) ?_
    exact ng (false) (_) ([]) _ hP (by simp [go_sem, d52, d25, List.length_nil]) (by simp [go_sem, d52, d25, List.length_nil]) (by simp [go_sem, d52, d25, List.length_nil]) (h0) (hl) (cls1_pos (by simp))
  | cons c r =>
    obtain ⟨u0, hc0⟩ := h0.head
    have hlen : (c :: r).length = r.length + 1 := rfl
    have hT := h0.tail
    have p1 : (0 : Int) < (r.length : Int) + 1 := by omega
    have p2 : (1 : Int) ≤ (r.length : Int) + 1 := by omega
    rw [hlen] at h0 hl
    by_cases k94 : c = 94
    · subst k94
      refine xc_reg1 9 rfl fun K hK => ?_
      simp only [show (List.range 9).map (·, true) = [(0, true), (1, true), (2, true), (3, true), (4, true), (5, true), (6, true), (7, true), (8, true)] from rfl, rslv_cons, rslv_nil, List.getElem?_toArray, List.getElem?_cons_zero, List.getElem?_cons_succ, gres]
      iterate 9 (refine seqX_hide2 fun R hR => ?_; simp [go_sem, d52, d25, hlen, p1, p2, hc0, bc hP u0, xindexAt, vload, xslice]; refine hR _ _ _ ?_; clear hR R)
      rw [seqX_nil]
      refine hK _ _ _ ?_; clear hK K
      refine hN4 _ _ _ ?_
      refine xc_iftrue (by simp [go_sem, d52, d25, hlen, p1, p2, hc0, bc hP u0, xindexAt, vload, xslice]) ?_
      rw [xc_draws]
      refine vdrawK [(0, true), (1, true), (2, true), (3, false), (4, true)] (ov A [(q5, .cells (itc 91 false (.slice none 0 0) 0) 51 (0, 0)), (q2, .cells (itc 0 false (.slice none 0 0) 0) 51 (0, 0))]) mixed (by kernel_rfl) (View.le_refl _) fun K hK => ?_
      simp only [rslv_cons, rslv_nil, List.getElem?_toArray, List.getElem?_cons_zero, List.getElem?_cons_succ, gres]
      iterate 3 (refine seqR_hide fun R hR => ?_; simp [go_sem, d52, d25, hlen, p1, p2, hc0, bc hP u0, xindexAt, vload, xslice]; refine hR _ _ _ ?_; clear hR R)
      refine seqR_hide fun R hR => ?_
      simp [go_sem, d52, d25, hlen, p1, p2, hc0, bc hP u0, xindexAt, vload, xslice]
      refine hR _ _ _ ?_; clear hR R
      (refine seqR_hide fun R hR => ?_; simp [go_sem, d52, d25, hlen, p1, p2, hc0, bc hP u0, xindexAt, vload, xslice]; refine hR _ _ _ ?_; clear hR R)
      rw [seqR_nil]
      refine hK _ _ _ ?_; clear hK K
      exact ng (true) (_) (r) _ hP (by simp [go_sem, d52, d25, hlen, p1, p2, hc0, bc hP u0, xindexAt, vload, xslice]) (by simp [go_sem, d52, d25, hlen, p1, p2, hc0, bc hP u0, xindexAt, vload, xslice]) (by simp [go_sem, d52, d25, hlen, p1, p2, hc0, bc hP u0, xindexAt, vload, xslice]) (hT) (by omega) (cls1_neg)
    · have hb : ((c : Int) == 94) = false := beq_eq_false_iff_ne.2 (by omega)
      have hbn : ¬ (c : Int) = 94 := by omega
      refine xc_reg1 9 rfl fun K hK => ?_
      simp only [show (List.range 9).map (·, true) = [(0, true), (1, true), (2, true), (3, true), (4, true), (5, true), (6, true), (7, true), (8, true)] from rfl, rslv_cons, rslv_nil, List.getElem?_toArray, List.getElem?_cons_zero, List.getElem?_cons_succ, gres]
      iterate 9 (refine seqX_hide2 fun R hR => ?_; simp [go_sem, d52, d25, hlen, p1, p2, hc0, bc hP u0, xindexAt, vload, xslice, k94, hb, hbn]; refine hR _ _ _ ?_; clear hR R)
      rw [seqX_nil]
      refine hK _ _ _ ?_; clear hK K
      refine hN4 _ _ _ ?_
      refine xc_iffalse (by simp [go_sem, d52, d25, hlen, p1, p2, hc0, bc hP u0, xindexAt, vload, xslice, k94, hb, hbn]) ?_
      exact ng (false) (_) (c :: r) _ hP (by simp [go_sem, d52, d25, hlen, p1, p2, hc0, bc hP u0, xindexAt, vload, xslice, k94, hb, hbn]) (by simp [go_sem, d52, d25, hlen, p1, p2, hc0, bc hP u0, xindexAt, vload, xslice, k94, hb, hbn]) (by simp [go_sem, d52, d25, hlen, p1, p2, hc0, bc hP u0, xindexAt, vload, xslice, k94, hb, hbn]) (h0) (hl) (cls1_pos fun r' h => k94 (List.cons.inj h).1)
end Go.Proofs.YthjbgpmcfcijgaaDoorV

/- Tables: spec.Globals. -/
import Derived.Test.YtogfpbnbojhpoaaUQ
namespace Go.Proofs.YtogfpbnbojhpoaaV
open Go.RowKit
set_option linter.unusedSimpArgs false
set_option linter.unusedVariables false
theorem Found.split {v : RV} {s : ByteArray} {r : Value} {A : View} (h : Found v s r A) : ∃ (cy : Array Value) (y : RV) (z : Bool), r = .tuple #[.agg cy, .bool z] ∧ IsRV A y cy ∧ ((z = true ∧ at' v s = some y) ∨ (z = false ∧ at' v s = none ∧ y = rz)) := by
  rcases h with ⟨u, c', h1, rfl, h3⟩ | ⟨h1, rfl⟩
  · exact ⟨c', u, true, rfl, h3, .inl ⟨rfl, h1⟩⟩
  · exact ⟨zc, rz, false, rfl, rz_is A, .inr ⟨rfl, h1, rfl⟩⟩
theorem tabnil_is (A : View) : IsRV A (tab []) (rvc 7 false 0 0 ⟨#[]⟩ nl nl) := (Grow.nil A A).isRV (View.le_refl A) (by simp) 7 false 0 0 ⟨#[]⟩
theorem good_gtab {v : RV} {s : ByteArray} {lv : Nat} (hG : Good v lv) (h : 2 ≤ lv) : Good (gtab (at' v s)) (lv - 1) := by
  unfold gtab
  cases hx : at' v s with
  | none => exact good_tabnil (by omega)
  | some y => exact good_at hG hx
theorem nodes_gtab {v : RV} {s : ByteArray} : nodes (gtab (at' v s)) ≤ nodes v := by
  unfold gtab
  cases hx : at' v s with
  | none =>
    have := nodes_pos v
    simpa [tab, nodes_mk] using this
  | some y => exact nodes_at hx
set_option maxRecDepth 20000 in
set_option maxHeartbeats 8000000 in
theorem glob26 (A : View) (v w : RV) (c c' : Array Value) (hc : IsRV A v c) (hc' : IsRV A w c') (hG : Good v 50) (hG' : Good w 50) (h7 : kindOf v = 7) (hn : nodes v ≤ 2000) (hn' : nodes w ≤ 2000) :
    VCalls Try.prog 26 #[.agg c, .agg c'] A fun r A' => ∃ c2, r = .agg c2 ∧ A ≤ A' ∧ IsRV A' (globR v w) c2 := by
  have hcz := hc.size
  have hco := hc.ones
  have hcz' := hc'.size
  have hco' := hc'.ones
  have hkb7 : ∀ u : RV, (kindOf u == 7) = decide (kindOf u = 7) := fun u => by rw [Bool.eq_iff_iff]; simp
  have hlv := lenR_nodes v
  refine xcalls Try.func26 rfl (by simp [Try.ntmps26]) ?_
  simp only [Try.f26]
  have hP : Priv A (addrs []) := Priv.nil A
  show xc _ _ _ _ _ _ (ov A [])
  refine xc_two fun N1 hN1 => ?_
  refine xc_reg1 3 rfl fun K hK => ?_
  simp only [show (List.range 3).map (·, true) = [(0, true), (1, true), (2, true)] from rfl, rslv_cons, rslv_nil, List.getElem?_toArray, List.getElem?_cons_zero, List.getElem?_cons_succ, gres]
  refine seqX_hide2 fun R hR => ?_
  simp [go_sem, hcz, hco, hcz', hco']
  intro q2 hq2
  replace hP := hP.cons hq2
  clear hq2
  refine hR _ _ _ ?_; clear hR R
  refine seqX_hide2 fun R hR => ?_
  simp [go_sem, hcz, hco, hcz', hco']
  intro q3 hq3
  replace hP := hP.cons hq3
  clear hq3
  have d32 : q3 ≠ q2 := (hP.ne q2 (by simp [addrs])).1
  have d23 : q2 ≠ q3 := (hP.ne q2 (by simp [addrs])).2
  refine hR _ _ _ ?_; clear hR R
  refine seqX_hide2 fun R hR => ?_
  simp [go_sem, hcz, hco, hcz', hco', d32, d23]
  intro q4 hq4
  replace hP := hP.cons hq4
  clear hq4
  have d43 : q4 ≠ q3 := (hP.ne q3 (by simp [addrs])).1
  have d34 : q3 ≠ q4 := (hP.ne q3 (by simp [addrs])).2
  have d42 : q4 ≠ q2 := (hP.ne q2 (by simp [addrs])).1
  have d24 : q2 ≠ q4 := (hP.ne q2 (by simp [addrs])).2
  refine hR _ _ _ ?_; clear hR R
  rw [seqX_nil]
  refine hK _ _ _ ?_; clear hK K
  refine hN1 _ _ _ ?_
  refine xc_two fun N2 hN2 => ?_
  refine xc_reg1 8 rfl fun K hK => ?_
  simp only [show (List.range 8).map (·, true) = [(0, true), (1, true), (2, true), (3, true), (4, true), (5, true), (6, true), (7, true)] from rfl, rslv_cons, rslv_nil, List.getElem?_toArray, List.getElem?_cons_zero, List.getElem?_cons_succ, gres]
  (refine seqX_hide2 fun R hR => ?_; simp [go_sem, hcz, hco, hcz', hco', d32, d23, d43, d34, d42, d24]; refine hR _ _ _ ?_; clear hR R)
  refine seqX_hide2 fun R hR => ?_
  simp [go_sem, hcz, hco, hcz', hco', d32, d23, d43, d34, d42, d24]
  refine call_ov hP (at40 A v c 50 gkey hc hG) ?_
  clear hP
  rintro _ D ⟨hF, hAD⟩ hP
  obtain ⟨cy, y, z, rfl, hy, hyz⟩ := hF.split
  have hyz1 := hy.size
  have hyo := hy.ones
  refine hR _ _ _ ?_; clear hR R
  iterate 3 (refine seqX_hide2 fun R hR => ?_; simp [go_sem, hcz, hco, hcz', hco', d32, d23, d43, d34, d42, d24, hyz1, hyo]; refine hR _ _ _ ?_; clear hR R)
  refine seqX_hide2 fun R hR => ?_
  simp [go_sem, hcz, hco, hcz', hco', d32, d23, d43, d34, d42, d24, hyz1, hyo]
  intro q5 hq5
  replace hP := hP.cons hq5
  clear hq5
  have d54 : q5 ≠ q4 := (hP.ne q4 (by simp [addrs])).1
  have d45 : q4 ≠ q5 := (hP.ne q4 (by simp [addrs])).2
  have d53 : q5 ≠ q3 := (hP.ne q3 (by simp [addrs])).1
  have d35 : q3 ≠ q5 := (hP.ne q3 (by simp [addrs])).2
  have d52 : q5 ≠ q2 := (hP.ne q2 (by simp [addrs])).1
  have d25 : q2 ≠ q5 := (hP.ne q2 (by simp [addrs])).2
  refine hR _ _ _ ?_; clear hR R
  refine seqX_hide2 fun R hR => ?_
  simp [go_sem, hcz, hco, hcz', hco', d32, d23, d43, d34, d42, d24, hyz1, hyo, d54, d45, d53, d35, d52, d25]
  refine hR _ _ _ ?_; clear hR R
  (refine seqX_hide2 fun R hR => ?_; simp [go_sem, hcz, hco, hcz', hco', d32, d23, d43, d34, d42, d24, hyz1, hyo, d54, d45, d53, d35, d52, d25]; refine hR _ _ _ ?_; clear hR R)
  rw [seqX_nil]
  refine hK _ _ _ ?_; clear hK K
  refine hN2 _ _ _ ?_
  refine xc_two fun N3 hN3 => ?_
  refine xc_two fun N4 hN4 => ?_
  refine xc_reg1 2 rfl fun K hK => ?_
  simp only [show (List.range 2).map (·, true) = [(0, true), (1, true)] from rfl, rslv_cons, rslv_nil, List.getElem?_toArray, List.getElem?_cons_zero, List.getElem?_cons_succ, gres]
  iterate 2 (refine seqX_hide2 fun R hR => ?_; simp [go_sem, hcz, hco, hcz', hco', d32, d23, d43, d34, d42, d24, hyz1, hyo, d54, d45, d53, d35, d52, d25]; refine hR _ _ _ ?_; clear hR R)
  rw [seqX_nil]
  refine hK _ _ _ ?_; clear hK K
  refine hN4 _ _ _ ?_
  have m1 : ∀ (cm : Array Value) (e : Env), Priv D [q5, q4, q3, q2] → e 2 = .pointer (some ⟨q2, 0, none⟩) → e 3 = .pointer (some ⟨q3, 0, none⟩) → e 4 = .pointer (some ⟨q4, 0, none⟩) → e 5 = .pointer (some ⟨q5, 0, none⟩) → (IsRV D (gtab (at' v gkey)) cm) → N3 e [] (ov D [(q5, .cells cm 27 (0, 0)), (q4, .cells zc 27 (0, 0)), (q3, .cells c' 27 (0, 0)), (q2, .cells c 27 (0, 0))]) := by
    clear hP
    intro cm e hP g2 g3 g4 g5 hcm
    refine hN3 _ _ _ ?_
    have hcmz := hcm.size
    have hcmo := hcm.ones
    refine xc_two fun N5 hN5 => ?_
    refine xc_reg1 8 rfl fun K hK => ?_
    simp only [show (List.range 8).map (·, true) = [(0, true), (1, true), (2, true), (3, true), (4, true), (5, true), (6, true), (7, true)] from rfl, rslv_cons, rslv_nil, List.getElem?_toArray, List.getElem?_cons_zero, List.getElem?_cons_succ, gres]
    (refine seqX_hide2 fun R hR => ?_; simp [go_sem, hcz, hco, hcz', hco', d32, d23, d43, d34, d42, d24, hyz1, hyo, d54, d45, d53, d35, d52, d25, g2, g3, g4, g5, hcmz, hcmo]; refine hR _ _ _ ?_; clear hR R)
    refine seqX_hide2 fun R hR => ?_
    simp [go_sem, hcz, hco, hcz', hco', d32, d23, d43, d34, d42, d24, hyz1, hyo, d54, d45, d53, d35, d52, d25, g2, g3, g4, g5, hcmz, hcmo]
    clear hyz hyz1 hyo hy hF
    clear cy y z
    refine call_ov hP (at40 D w c' 50 gkey (hc'.le hAD) hG') ?_
    clear hP
    rintro _ D1 ⟨hF, hD1⟩ hP
    obtain ⟨cy, y, z, rfl, hy, hyz⟩ := hF.split
    have hyz1 := hy.size
    have hyo := hy.ones
    have hcm := hcm.le hD1
    have hAD := View.le_trans hAD hD1
    refine hR _ _ _ ?_; clear hR R
    iterate 3 (refine seqX_hide2 fun R hR => ?_; simp [go_sem, hcz, hco, hcz', hco', d32, d23, d43, d34, d42, d24, hyz1, hyo, d54, d45, d53, d35, d52, d25, g2, g3, g4, g5, hcmz, hcmo]; refine hR _ _ _ ?_; clear hR R)
    refine seqX_hide2 fun R hR => ?_
    simp [go_sem, hcz, hco, hcz', hco', d32, d23, d43, d34, d42, d24, hyz1, hyo, d54, d45, d53, d35, d52, d25, g2, g3, g4, g5, hcmz, hcmo]
    intro q7 hq7
    replace hP := hP.cons hq7
    clear hq7
    have d75 : q7 ≠ q5 := (hP.ne q5 (by simp [addrs])).1
    have d57 : q5 ≠ q7 := (hP.ne q5 (by simp [addrs])).2
    have d74 : q7 ≠ q4 := (hP.ne q4 (by simp [addrs])).1
    have d47 : q4 ≠ q7 := (hP.ne q4 (by simp [addrs])).2
    have d73 : q7 ≠ q3 := (hP.ne q3 (by simp [addrs])).1
    have d37 : q3 ≠ q7 := (hP.ne q3 (by simp [addrs])).2
    have d72 : q7 ≠ q2 := (hP.ne q2 (by simp [addrs])).1
    have d27 : q2 ≠ q7 := (hP.ne q2 (by simp [addrs])).2
    refine hR _ _ _ ?_; clear hR R
    refine seqX_hide2 fun R hR => ?_
    simp [go_sem, hcz, hco, hcz', hco', d32, d23, d43, d34, d42, d24, hyz1, hyo, d54, d45, d53, d35, d52, d25, g2, g3, g4, g5, hcmz, hcmo, d75, d57, d74, d47, d73, d37, d72, d27]
    refine hR _ _ _ ?_; clear hR R
    (refine seqX_hide2 fun R hR => ?_; simp [go_sem, hcz, hco, hcz', hco', d32, d23, d43, d34, d42, d24, hyz1, hyo, d54, d45, d53, d35, d52, d25, g2, g3, g4, g5, hcmz, hcmo, d75, d57, d74, d47, d73, d37, d72, d27]; refine hR _ _ _ ?_; clear hR R)
    rw [seqX_nil]
    refine hK _ _ _ ?_; clear hK K
    refine hN5 _ _ _ ?_
    refine xc_two fun N6 hN6 => ?_
    refine xc_two fun N7 hN7 => ?_
    refine xc_reg1 2 rfl fun K hK => ?_
    simp only [show (List.range 2).map (·, true) = [(0, true), (1, true)] from rfl, rslv_cons, rslv_nil, List.getElem?_toArray, List.getElem?_cons_zero, List.getElem?_cons_succ, gres]
    iterate 2 (refine seqX_hide2 fun R hR => ?_; simp [go_sem, hcz, hco, hcz', hco', d32, d23, d43, d34, d42, d24, hyz1, hyo, d54, d45, d53, d35, d52, d25, g2, g3, g4, g5, hcmz, hcmo, d75, d57, d74, d47, d73, d37, d72, d27]; refine hR _ _ _ ?_; clear hR R)
    rw [seqX_nil]
    refine hK _ _ _ ?_; clear hK K
    refine hN7 _ _ _ ?_
    have m2 : ∀ (ct : Array Value) (e : Env), Priv D1 [q7, q5, q4, q3, q2] → e 2 = .pointer (some ⟨q2, 0, none⟩) → e 3 = .pointer (some ⟨q3, 0, none⟩) → e 4 = .pointer (some ⟨q4, 0, none⟩) → e 5 = .pointer (some ⟨q5, 0, none⟩) → e 7 = .pointer (some ⟨q7, 0, none⟩) → (IsRV D1 (gtab (at' w gkey)) ct) → N6 e [] (ov D1 [(q7, .cells ct 27 (0, 0)), (q5, .cells cm 27 (0, 0)), (q4, .cells zc 27 (0, 0)), (q3, .cells c' 27 (0, 0)), (q2, .cells c 27 (0, 0))]) := by
      clear g2 g3 g4 g5
      clear hP
      intro ct e hP g2 g3 g4 g5 g7 hct
      refine hN6 _ _ _ ?_
      have hctz := hct.size
      have hcto := hct.ones
      clear hyz hyz1 hyo hy hF
      clear cy y z
      have hGm := good_gtab (s := gkey) hG (by decide)
      have hGt := good_gtab (s := gkey) hG' (by decide)
      have hnm := nodes_gtab (v := v) (s := gkey)
      have hnt := nodes_gtab (v := w) (s := gkey)
      have hgl : globR v w = if kindOf (gtab (at' v gkey)) = 7 ∧ kindOf (gtab (at' w gkey)) = 7 then withR v gkey (gM (gtab (at' v gkey)) (gtab (at' w gkey))) else v := rfl
      generalize gtab (at' v gkey) = gm at hcm hGm hnm hgl
      generalize gtab (at' w gkey) = gt at hct hGt hnt hgl
      rw [hgl]
      refine xc_two fun N8 hN8 => ?_
      refine xc_two fun N9 hN9 => ?_
      refine xc_reg1 8 rfl fun K hK => ?_
      simp only [show (List.range 8).map (·, true) = [(0, true), (1, true), (2, true), (3, true), (4, true), (5, true), (6, true), (7, true)] from rfl, rslv_cons, rslv_nil, List.getElem?_toArray, List.getElem?_cons_zero, List.getElem?_cons_succ, gres]
      (refine seqX_hide2 fun R hR => ?_; simp [go_sem, hcz, hco, hcz', hco', d32, d23, d43, d34, d42, d24, d54, d45, d53, d35, d52, d25, hcmz, hcmo, d75, d57, d74, d47, d73, d37, d72, d27, g2, g3, g4, g5, g7, hctz, hcto]; refine hR _ _ _ ?_; clear hR R)
      refine seqX_hide2 fun R hR => ?_
      simp [go_sem, hcz, hco, hcz', hco', d32, d23, d43, d34, d42, d24, d54, d45, d53, d35, d52, d25, hcmz, hcmo, d75, d57, d74, d47, d73, d37, d72, d27, g2, g3, g4, g5, g7, hctz, hcto]
      refine call_ov hP (isTable23 D1 gm cm hcm) ?_
      clear hP
      rintro _ D2 ⟨rfl, hD2⟩ hP
      have hcm := hcm.le hD2
      have hct := hct.le hD2
      have hAD := View.le_trans hAD hD2
      by_cases k1 : kindOf gm = 7
      rotate_left
      · have hg1 : (kindOf gm == 7) = false := by rw [hkb7, decide_eq_false k1]
        refine hR _ _ _ ?_; clear hR R
        iterate 3 (refine seqX_hide2 fun R hR => ?_; simp [go_sem, hcz, hco, hcz', hco', d32, d23, d43, d34, d42, d24, d54, d45, d53, d35, d52, d25, hcmz, hcmo, d75, d57, d74, d47, d73, d37, d72, d27, g2, g3, g4, g5, g7, hctz, hcto, hg1]; refine hR _ _ _ ?_; clear hR R)
        refine seqX_hide2 fun R hR => ?_
        simp [go_sem, hcz, hco, hcz', hco', d32, d23, d43, d34, d42, d24, d54, d45, d53, d35, d52, d25, hcmz, hcmo, d75, d57, d74, d47, d73, d37, d72, d27, g2, g3, g4, g5, g7, hctz, hcto, hg1]
        refine hR _ _ _ ?_; clear hR R
        iterate 2 (refine seqX_hide2 fun R hR => ?_; simp [go_sem, hcz, hco, hcz', hco', d32, d23, d43, d34, d42, d24, d54, d45, d53, d35, d52, d25, hcmz, hcmo, d75, d57, d74, d47, d73, d37, d72, d27, g2, g3, g4, g5, g7, hctz, hcto, hg1]; refine hR _ _ _ ?_; clear hR R)
        rw [seqX_nil]
        refine hK _ _ _ ?_; clear hK K
        refine hN9 _ _ _ ?_
        refine xc_iftrue (by simp [go_sem, hcz, hco, hcz', hco', d32, d23, d43, d34, d42, d24, d54, d45, d53, d35, d52, d25, hcmz, hcmo, d75, d57, d74, d47, d73, d37, d72, d27, g2, g3, g4, g5, g7, hctz, hcto, hg1]) ?_
        refine xc_two fun N10 hN10 => ?_
        refine xc_reg1 2 rfl fun K hK => ?_
        simp only [show (List.range 2).map (·, true) = [(0, true), (1, true)] from rfl, rslv_cons, rslv_nil, List.getElem?_toArray, List.getElem?_cons_zero, List.getElem?_cons_succ, gres]
        (refine seqX_hide2 fun R hR => ?_; simp [go_sem, hcz, hco, hcz', hco', d32, d23, d43, d34, d42, d24, d54, d45, d53, d35, d52, d25, hcmz, hcmo, d75, d57, d74, d47, d73, d37, d72, d27, g2, g3, g4, g5, g7, hctz, hcto, hg1]; refine hR _ _ _ ?_; clear hR R)
        refine seqX_hide2 fun R hR => ?_
        simp [go_sem, hcz, hco, hcz', hco', d32, d23, d43, d34, d42, d24, d54, d45, d53, d35, d52, d25, hcmz, hcmo, d75, d57, d74, d47, d73, d37, d72, d27, g2, g3, g4, g5, g7, hctz, hcto, hg1]
        refine hR _ _ _ ?_; clear hR R
        rw [seqX_nil]
        refine hK _ _ _ ?_; clear hK K
        refine hN10 _ _ _ ?_
        simp [go_sem, hcz, hco, hcz', hco', d32, d23, d43, d34, d42, d24, d54, d45, d53, d35, d52, d25, hcmz, hcmo, d75, d57, d74, d47, d73, d37, d72, d27, g2, g3, g4, g5, g7, hctz, hcto, hg1]
        rw [if_neg (fun h => k1 h.1)]
        refine ⟨View.le_trans hAD ?_, hc.le (View.le_trans hAD ?_)⟩
        · exact le_ov hP
        · exact le_ov hP
      have hg1 : (kindOf gm == 7) = true := by rw [hkb7, decide_eq_true k1]
      refine hR _ _ _ ?_; clear hR R
      iterate 3 (refine seqX_hide2 fun R hR => ?_; simp [go_sem, hcz, hco, hcz', hco', d32, d23, d43, d34, d42, d24, d54, d45, d53, d35, d52, d25, hcmz, hcmo, d75, d57, d74, d47, d73, d37, d72, d27, g2, g3, g4, g5, g7, hctz, hcto, hg1]; refine hR _ _ _ ?_; clear hR R)
      refine seqX_hide2 fun R hR => ?_
      simp [go_sem, hcz, hco, hcz', hco', d32, d23, d43, d34, d42, d24, d54, d45, d53, d35, d52, d25, hcmz, hcmo, d75, d57, d74, d47, d73, d37, d72, d27, g2, g3, g4, g5, g7, hctz, hcto, hg1]
      refine call_ov hP (isTable23 D2 gt ct hct) ?_
      clear hP
      rintro _ D3 ⟨rfl, hD3⟩ hP
      have hcm := hcm.le hD3
      have hct := hct.le hD3
      have hAD := View.le_trans hAD hD3
      by_cases k2 : kindOf gt = 7
      rotate_left
      · have hg2 : (kindOf gt == 7) = false := by rw [hkb7, decide_eq_false k2]
        refine hR _ _ _ ?_; clear hR R
        iterate 2 (refine seqX_hide2 fun R hR => ?_; simp [go_sem, hcz, hco, hcz', hco', d32, d23, d43, d34, d42, d24, d54, d45, d53, d35, d52, d25, hcmz, hcmo, d75, d57, d74, d47, d73, d37, d72, d27, g2, g3, g4, g5, g7, hctz, hcto, hg1, hg2]; refine hR _ _ _ ?_; clear hR R)
        rw [seqX_nil]
        refine hK _ _ _ ?_; clear hK K
        refine hN9 _ _ _ ?_
        refine xc_iftrue (by simp [go_sem, hcz, hco, hcz', hco', d32, d23, d43, d34, d42, d24, d54, d45, d53, d35, d52, d25, hcmz, hcmo, d75, d57, d74, d47, d73, d37, d72, d27, g2, g3, g4, g5, g7, hctz, hcto, hg1, hg2]) ?_
        refine xc_two fun N10 hN10 => ?_
        refine xc_reg1 2 rfl fun K hK => ?_
        simp only [show (List.range 2).map (·, true) = [(0, true), (1, true)] from rfl, rslv_cons, rslv_nil, List.getElem?_toArray, List.getElem?_cons_zero, List.getElem?_cons_succ, gres]
        (refine seqX_hide2 fun R hR => ?_; simp [go_sem, hcz, hco, hcz', hco', d32, d23, d43, d34, d42, d24, d54, d45, d53, d35, d52, d25, hcmz, hcmo, d75, d57, d74, d47, d73, d37, d72, d27, g2, g3, g4, g5, g7, hctz, hcto, hg1, hg2]; refine hR _ _ _ ?_; clear hR R)
        refine seqX_hide2 fun R hR => ?_
        simp [go_sem, hcz, hco, hcz', hco', d32, d23, d43, d34, d42, d24, d54, d45, d53, d35, d52, d25, hcmz, hcmo, d75, d57, d74, d47, d73, d37, d72, d27, g2, g3, g4, g5, g7, hctz, hcto, hg1, hg2]
        refine hR _ _ _ ?_; clear hR R
        rw [seqX_nil]
        refine hK _ _ _ ?_; clear hK K
        refine hN10 _ _ _ ?_
        simp [go_sem, hcz, hco, hcz', hco', d32, d23, d43, d34, d42, d24, d54, d45, d53, d35, d52, d25, hcmz, hcmo, d75, d57, d74, d47, d73, d37, d72, d27, g2, g3, g4, g5, g7, hctz, hcto, hg1, hg2]
        rw [if_neg (fun h => k2 h.2)]
        refine ⟨View.le_trans hAD ?_, hc.le (View.le_trans hAD ?_)⟩
        · exact le_ov hP
        · exact le_ov hP
      have hg2 : (kindOf gt == 7) = true := by rw [hkb7, decide_eq_true k2]
      obtain ⟨b, i, f, t, keys, list, rfl, hris, hlen, _⟩ := good7 k2 hGt
      have hct0 := hct
      rw [IsRV] at hct0
      obtain ⟨ks, ls, rfl, hks, hkl, ⟨bl, cl, rfl⟩, hel⟩ := hct0
      obtain ⟨bk, ck, rfl⟩ := hks.slice
      have hGs := hGt
      rw [Good] at hGs
      obtain ⟨-, -, -, -, hGs⟩ := hGs
      have hSl := S_all list
      have hSg := S_ge list list.length (Nat.le_refl _)
      rw [nodes_mk] at hnt
      refine hR _ _ _ ?_; clear hR R
      iterate 2 (refine seqX_hide2 fun R hR => ?_; simp [go_sem, hcz, hco, hcz', hco', d32, d23, d43, d34, d42, d24, d54, d45, d53, d35, d52, d25, hcmz, hcmo, d75, d57, d74, d47, d73, d37, d72, d27, g2, g3, g4, g5, g7, hctz, hcto, hg1, hg2]; refine hR _ _ _ ?_; clear hR R)
      rw [seqX_nil]
      refine hK _ _ _ ?_; clear hK K
      refine hN9 _ _ _ ?_
      refine xc_iffalse (by simp [go_sem, hcz, hco, hcz', hco', d32, d23, d43, d34, d42, d24, d54, d45, d53, d35, d52, d25, hcmz, hcmo, d75, d57, d74, d47, d73, d37, d72, d27, g2, g3, g4, g5, g7, hctz, hcto, hg1, hg2]) ?_
      refine hN8 _ _ _ ?_
      refine xc_two fun N10 hN10 => ?_
      refine xc_two fun N11 hN11 => ?_
      refine xc_reg1 4 rfl fun K hK => ?_
      simp only [show (List.range 4).map (·, true) = [(0, true), (1, true), (2, true), (3, true)] from rfl, rslv_cons, rslv_nil, List.getElem?_toArray, List.getElem?_cons_zero, List.getElem?_cons_succ, gres]
      iterate 4 (refine seqX_hide2 fun R hR => ?_; simp [go_sem, hcz, hco, hcz', hco', d32, d23, d43, d34, d42, d24, d54, d45, d53, d35, d52, d25, hcmz, hcmo, d75, d57, d74, d47, d73, d37, d72, d27, g2, g3, g4, g5, g7, hctz, hcto, hg1, hg2]; refine hR _ _ _ ?_; clear hR R)
      rw [seqX_nil]
      refine hK _ _ _ ?_; clear hK K
      refine hN11 _ _ _ ?_
      rw [xc_block]
      rw [xc_loop]
      refine vloopK (fun k' e ds A' => ∃ (j : Nat) (D : View) (out : RV) (co : Array Value), k' = keys.length - j ∧ ds = [] ∧ A' = ov D [(q7, .cells (rvc 7 b i f t (.slice bk keys.length ck) (.slice bl list.length cl)) 27 (0, 0)), (q5, .cells co 27 (0, 0)), (q4, .cells zc 27 (0, 0)), (q3, .cells c' 27 (0, 0)), (q2, .cells c 27 (0, 0))] ∧ Priv D [q7, q5, q4, q3, q2] ∧ e 2 = .pointer (some ⟨q2, 0, none⟩) ∧ e 3 = .pointer (some ⟨q3, 0, none⟩) ∧ e 4 = .pointer (some ⟨q4, 0, none⟩) ∧ e 5 = .pointer (some ⟨q5, 0, none⟩) ∧ e 7 = .pointer (some ⟨q7, 0, none⟩) ∧ e 40 = .slice bk keys.length ck ∧ e 41 = .int .i64 keys.length ∧ e 42 = .int .i64 j ∧ (j ≤ keys.length) ∧ (D3 ≤ D) ∧ (IsRV D out co) ∧ (kindOf out = 7) ∧ (Good out 49) ∧ (nodes out ≤ nodes gm + S list j) ∧ (gL out (keys.drop j) (list.drop j) = gL gm keys list)) _ ⟨0, D3, gm, cm, rfl, rfl, rfl, hP, by simp [go_sem, hcz, hco, hcz', hco', d32, d23, d43, d34, d42, d24, d54, d45, d53, d35, d52, d25, hcmz, hcmo, d75, d57, d74, d47, d73, d37, d72, d27, g2, g3, g4, g5, g7, hctz, hcto, hg1, hg2], by simp [go_sem, hcz, hco, hcz', hco', d32, d23, d43, d34, d42, d24, d54, d45, d53, d35, d52, d25, hcmz, hcmo, d75, d57, d74, d47, d73, d37, d72, d27, g2, g3, g4, g5, g7, hctz, hcto, hg1, hg2], by simp [go_sem, hcz, hco, hcz', hco', d32, d23, d43, d34, d42, d24, d54, d45, d53, d35, d52, d25, hcmz, hcmo, d75, d57, d74, d47, d73, d37, d72, d27, g2, g3, g4, g5, g7, hctz, hcto, hg1, hg2], by simp [go_sem, hcz, hco, hcz', hco', d32, d23, d43, d34, d42, d24, d54, d45, d53, d35, d52, d25, hcmz, hcmo, d75, d57, d74, d47, d73, d37, d72, d27, g2, g3, g4, g5, g7, hctz, hcto, hg1, hg2], by simp [go_sem, hcz, hco, hcz', hco', d32, d23, d43, d34, d42, d24, d54, d45, d53, d35, d52, d25, hcmz, hcmo, d75, d57, d74, d47, d73, d37, d72, d27, g2, g3, g4, g5, g7, hctz, hcto, hg1, hg2], by simp [go_sem, hcz, hco, hcz', hco', d32, d23, d43, d34, d42, d24, d54, d45, d53, d35, d52, d25, hcmz, hcmo, d75, d57, d74, d47, d73, d37, d72, d27, g2, g3, g4, g5, g7, hctz, hcto, hg1, hg2], by simp [go_sem, hcz, hco, hcz', hco', d32, d23, d43, d34, d42, d24, d54, d45, d53, d35, d52, d25, hcmz, hcmo, d75, d57, d74, d47, d73, d37, d72, d27, g2, g3, g4, g5, g7, hctz, hcto, hg1, hg2], by simp [go_sem, hcz, hco, hcz', hco', d32, d23, d43, d34, d42, d24, d54, d45, d53, d35, d52, d25, hcmz, hcmo, d75, d57, d74, d47, d73, d37, d72, d27, g2, g3, g4, g5, g7, hctz, hcto, hg1, hg2], by omega, View.le_refl _, hcm, k1, hGm, by omega, by simp⟩ ?_
      clear g2 g3 g4 g5 g7
      clear hP
      rintro k' e ds _ ⟨j, D, out, co, rfl, rfl, rfl, hP, g2, g3, g4, g5, g7, g40, g41, g42, hjl, hDD, hco9, ho7, hoG, hon, hwk⟩ J1 X1 hJ1 hX1
      refine xc_sound _ ?_
      have hw1 := wrap_nat (i := j) (by omega)
      have hAD' := View.le_trans hAD hDD
      by_cases hj : j < keys.length
      · obtain ⟨a, cap, f1, u1⟩ := hks.at' hj
        simp only [Value.slice.injEq] at f1
        obtain ⟨rfl, -, rfl⟩ := f1
        obtain ⟨a2, cap2, cj, f2, u2, hcj⟩ := hel j (by omega)
        simp only [Value.slice.injEq] at f2
        obtain ⟨rfl, -, rfl⟩ := f2
        have hj2 : j < list.length := by omega
        have x1 := le_cell hDD u1
        have x2 := le_cells hDD _ _ _ u2
        have hcj1 := hcj.le hDD
        have hGj := hGs j hj2
        have hSm := S_mono list (j + 1) list.length hj2
        have hSs := S_succ list j hj2
        rw [S_all] at hSm
        rw [List.drop_eq_getElem_cons hj, List.drop_eq_getElem_cons hj2, gL_cons] at hwk
        obtain ⟨hgs1, hgs2⟩ := good_gS (s := keys[j]) ho7 hoG hGj
        have hgs7 := kind_gS (s := keys[j]) (x := list[j]) ho7
        have hlo := lenR_nodes out
        have hoz := hco9.size
        have hoo := hco9.ones
        have hpo : Pl out := good_pl ho7 hoG (by omega)
        refine xc_two fun N12 hN12 => ?_
        refine xc_reg1 1 rfl fun K hK => ?_
        simp only [show (List.range 1).map (·, true) = [(0, true)] from rfl, rslv_cons, rslv_nil, List.getElem?_toArray, List.getElem?_cons_zero, List.getElem?_cons_succ, gres]
        (refine seqX_hide2 fun R hR => ?_; simp [go_sem, hcz, hco, hcz', hco', d32, d23, d43, d34, d42, d24, d54, d45, d53, d35, d52, d25, hcmz, hcmo, d75, d57, d74, d47, d73, d37, d72, d27, hctz, hcto, hg1, hg2, g2, g3, g4, g5, g7, g40, g41, g42, hj, hj2, hw1, bc hP x1, bcs hP x2, hcj.size, hcj.ones, hoz, hoo]; refine hR _ _ _ ?_; clear hR R)
        rw [seqX_nil]
        refine hK _ _ _ ?_; clear hK K
        refine hN12 _ _ _ ?_
        refine xc_two fun N13 hN13 => ?_
        refine xc_iftrue (by simp [go_sem, hcz, hco, hcz', hco', d32, d23, d43, d34, d42, d24, d54, d45, d53, d35, d52, d25, hcmz, hcmo, d75, d57, d74, d47, d73, d37, d72, d27, hctz, hcto, hg1, hg2, g2, g3, g4, g5, g7, g40, g41, g42, hj, hj2, hw1, bc hP x1, bcs hP x2, hcj.size, hcj.ones, hoz, hoo]) ?_
        refine hN13 _ _ _ ?_
        refine xc_two fun N14 hN14 => ?_
        rw [xc_block]
        refine xc_two fun N15 hN15 => ?_
        refine xc_reg1 5 rfl fun K hK => ?_
        simp only [show (List.range 5).map (·, true) = [(0, true), (1, true), (2, true), (3, true), (4, true)] from rfl, rslv_cons, rslv_nil, List.getElem?_toArray, List.getElem?_cons_zero, List.getElem?_cons_succ, gres]
        iterate 5 (refine seqX_hide2 fun R hR => ?_; simp [go_sem, hcz, hco, hcz', hco', d32, d23, d43, d34, d42, d24, d54, d45, d53, d35, d52, d25, hcmz, hcmo, d75, d57, d74, d47, d73, d37, d72, d27, hctz, hcto, hg1, hg2, g2, g3, g4, g5, g7, g40, g41, g42, hj, hj2, hw1, bc hP x1, bcs hP x2, hcj.size, hcj.ones, hoz, hoo]; refine hR _ _ _ ?_; clear hR R)
        rw [seqX_nil]
        refine hK _ _ _ ?_; clear hK K
        refine hN15 _ _ _ ?_
        refine xc_two fun N16 hN16 => ?_
        refine xc_reg1 7 rfl fun K hK => ?_
        simp only [show (List.range 7).map (·, true) = [(0, true), (1, true), (2, true), (3, true), (4, true), (5, true), (6, true)] from rfl, rslv_cons, rslv_nil, List.getElem?_toArray, List.getElem?_cons_zero, List.getElem?_cons_succ, gres]
        iterate 5 (refine seqX_hide2 fun R hR => ?_; simp [go_sem, hcz, hco, hcz', hco', d32, d23, d43, d34, d42, d24, d54, d45, d53, d35, d52, d25, hcmz, hcmo, d75, d57, d74, d47, d73, d37, d72, d27, hctz, hcto, hg1, hg2, g2, g3, g4, g5, g7, g40, g41, g42, hj, hj2, hw1, bc hP x1, bcs hP x2, hcj.size, hcj.ones, hoz, hoo]; refine hR _ _ _ ?_; clear hR R)
        refine seqX_hide2 fun R hR => ?_
        simp [go_sem, hcz, hco, hcz', hco', d32, d23, d43, d34, d42, d24, d54, d45, d53, d35, d52, d25, hcmz, hcmo, d75, d57, d74, d47, d73, d37, d72, d27, hctz, hcto, hg1, hg2, g2, g3, g4, g5, g7, g40, g41, g42, hj, hj2, hw1, bc hP x1, bcs hP x2, hcj.size, hcj.ones, hoz, hoo]
        intro q11 hq11
        replace hP := hP.cons hq11
        clear hq11
        have d117 : q11 ≠ q7 := (hP.ne q7 (by simp [addrs])).1
        have d711 : q7 ≠ q11 := (hP.ne q7 (by simp [addrs])).2
        have d115 : q11 ≠ q5 := (hP.ne q5 (by simp [addrs])).1
        have d511 : q5 ≠ q11 := (hP.ne q5 (by simp [addrs])).2
        have d114 : q11 ≠ q4 := (hP.ne q4 (by simp [addrs])).1
        have d411 : q4 ≠ q11 := (hP.ne q4 (by simp [addrs])).2
        have d113 : q11 ≠ q3 := (hP.ne q3 (by simp [addrs])).1
        have d311 : q3 ≠ q11 := (hP.ne q3 (by simp [addrs])).2
        have d112 : q11 ≠ q2 := (hP.ne q2 (by simp [addrs])).1
        have d211 : q2 ≠ q11 := (hP.ne q2 (by simp [addrs])).2
        refine hR _ _ _ ?_; clear hR R
        refine seqX_hide2 fun R hR => ?_
        simp [go_sem, hcz, hco, hcz', hco', d32, d23, d43, d34, d42, d24, d54, d45, d53, d35, d52, d25, hcmz, hcmo, d75, d57, d74, d47, d73, d37, d72, d27, hctz, hcto, hg1, hg2, g2, g3, g4, g5, g7, g40, g41, g42, hj, hj2, hw1, bc hP x1, bcs hP x2, hcj.size, hcj.ones, hoz, hoo, d117, d711, d115, d511, d114, d411, d113, d311, d112, d211]
        refine hR _ _ _ ?_; clear hR R
        rw [seqX_nil]
        refine hK _ _ _ ?_; clear hK K
        refine hN16 _ _ _ ?_
        refine xc_two fun N17 hN17 => ?_
        refine xc_reg1 9 rfl fun K hK => ?_
        simp only [show (List.range 9).map (·, true) = [(0, true), (1, true), (2, true), (3, true), (4, true), (5, true), (6, true), (7, true), (8, true)] from rfl, rslv_cons, rslv_nil, List.getElem?_toArray, List.getElem?_cons_zero, List.getElem?_cons_succ, gres]
        iterate 2 (refine seqX_hide2 fun R hR => ?_; simp [go_sem, hcz, hco, hcz', hco', d32, d23, d43, d34, d42, d24, d54, d45, d53, d35, d52, d25, hcmz, hcmo, d75, d57, d74, d47, d73, d37, d72, d27, hctz, hcto, hg1, hg2, g2, g3, g4, g5, g7, g40, g41, g42, hj, hj2, hw1, bc hP x1, bcs hP x2, hcj.size, hcj.ones, hoz, hoo, d117, d711, d115, d511, d114, d411, d113, d311, d112, d211]; refine hR _ _ _ ?_; clear hR R)
        refine seqX_hide2 fun R hR => ?_
        simp [go_sem, hcz, hco, hcz', hco', d32, d23, d43, d34, d42, d24, d54, d45, d53, d35, d52, d25, hcmz, hcmo, d75, d57, d74, d47, d73, d37, d72, d27, hctz, hcto, hg1, hg2, g2, g3, g4, g5, g7, g40, g41, g42, hj, hj2, hw1, bc hP x1, bcs hP x2, hcj.size, hcj.ones, hoz, hoo, d117, d711, d115, d511, d114, d411, d113, d311, d112, d211]
        refine call_ov hP (at40 D out co 49 keys[j] hco9 hoG) ?_
        clear hP
        rintro _ D4 ⟨hF, hD4⟩ hP
        obtain ⟨cy, y, z, rfl, hy, hyz⟩ := hF.split
        have hyz1 := hy.size
        have hyo := hy.ones
        have hco9 := hco9.le hD4
        have hcj1 := hcj1.le hD4
        have hD3 := View.le_trans hDD hD4
        refine hR _ _ _ ?_; clear hR R
        iterate 3 (refine seqX_hide2 fun R hR => ?_; simp [go_sem, hcz, hco, hcz', hco', d32, d23, d43, d34, d42, d24, d54, d45, d53, d35, d52, d25, hcmz, hcmo, d75, d57, d74, d47, d73, d37, d72, d27, hctz, hcto, hg1, hg2, g2, g3, g4, g5, g7, g40, g41, g42, hj, hj2, hw1, hcj.size, hcj.ones, hoz, hoo, d117, d711, d115, d511, d114, d411, d113, d311, d112, d211, hyz1, hyo]; refine hR _ _ _ ?_; clear hR R)
        refine seqX_hide2 fun R hR => ?_
        simp [go_sem, hcz, hco, hcz', hco', d32, d23, d43, d34, d42, d24, d54, d45, d53, d35, d52, d25, hcmz, hcmo, d75, d57, d74, d47, d73, d37, d72, d27, hctz, hcto, hg1, hg2, g2, g3, g4, g5, g7, g40, g41, g42, hj, hj2, hw1, hcj.size, hcj.ones, hoz, hoo, d117, d711, d115, d511, d114, d411, d113, d311, d112, d211, hyz1, hyo]
        intro q12 hq12
        replace hP := hP.cons hq12
        clear hq12
        have d1211 : q12 ≠ q11 := (hP.ne q11 (by simp [addrs])).1
        have d1112 : q11 ≠ q12 := (hP.ne q11 (by simp [addrs])).2
        have d127 : q12 ≠ q7 := (hP.ne q7 (by simp [addrs])).1
        have d712 : q7 ≠ q12 := (hP.ne q7 (by simp [addrs])).2
        have d125 : q12 ≠ q5 := (hP.ne q5 (by simp [addrs])).1
        have d512 : q5 ≠ q12 := (hP.ne q5 (by simp [addrs])).2
        have d124 : q12 ≠ q4 := (hP.ne q4 (by simp [addrs])).1
        have d412 : q4 ≠ q12 := (hP.ne q4 (by simp [addrs])).2
        have d123 : q12 ≠ q3 := (hP.ne q3 (by simp [addrs])).1
        have d312 : q3 ≠ q12 := (hP.ne q3 (by simp [addrs])).2
        have d122 : q12 ≠ q2 := (hP.ne q2 (by simp [addrs])).1
        have d212 : q2 ≠ q12 := (hP.ne q2 (by simp [addrs])).2
        refine hR _ _ _ ?_; clear hR R
        refine seqX_hide2 fun R hR => ?_
        simp [go_sem, hcz, hco, hcz', hco', d32, d23, d43, d34, d42, d24, d54, d45, d53, d35, d52, d25, hcmz, hcmo, d75, d57, d74, d47, d73, d37, d72, d27, hctz, hcto, hg1, hg2, g2, g3, g4, g5, g7, g40, g41, g42, hj, hj2, hw1, hcj.size, hcj.ones, hoz, hoo, d117, d711, d115, d511, d114, d411, d113, d311, d112, d211, hyz1, hyo, d1211, d1112, d127, d712, d125, d512, d124, d412, d123, d312, d122, d212]
        refine hR _ _ _ ?_; clear hR R
        (refine seqX_hide2 fun R hR => ?_; simp [go_sem, hcz, hco, hcz', hco', d32, d23, d43, d34, d42, d24, d54, d45, d53, d35, d52, d25, hcmz, hcmo, d75, d57, d74, d47, d73, d37, d72, d27, hctz, hcto, hg1, hg2, g2, g3, g4, g5, g7, g40, g41, g42, hj, hj2, hw1, hcj.size, hcj.ones, hoz, hoo, d117, d711, d115, d511, d114, d411, d113, d311, d112, d211, hyz1, hyo, d1211, d1112, d127, d712, d125, d512, d124, d412, d123, d312, d122, d212]; refine hR _ _ _ ?_; clear hR R)
        rw [seqX_nil]
        refine hK _ _ _ ?_; clear hK K
        refine hN17 _ _ _ ?_
        rw [xc_block]
        refine xc_two fun N18 hN18 => ?_
        have tail : ∀ (D' : View) (out' : RV) (co' : Array Value) (e : Env), Priv D' [q12, q11, q7, q5, q4, q3, q2] → e 2 = .pointer (some ⟨q2, 0, none⟩) → e 3 = .pointer (some ⟨q3, 0, none⟩) → e 4 = .pointer (some ⟨q4, 0, none⟩) → e 5 = .pointer (some ⟨q5, 0, none⟩) → e 7 = .pointer (some ⟨q7, 0, none⟩) → e 40 = .slice (some a) keys.length ck → e 41 = .int .i64 keys.length → e 42 = .int .i64 j → (D3 ≤ D') → (IsRV D' out' co') → (out' = gS out keys[j] list[j]) → N14 e [] (ov D' [(q12, .cells cy 27 (0, 0)), (q11, .cells cj 27 (0, 0)), (q7, .cells (rvc 7 b i f t (.slice (some a) keys.length ck) (.slice (some a2) list.length cl)) 27 (0, 0)), (q5, .cells co' 27 (0, 0)), (q4, .cells zc 27 (0, 0)), (q3, .cells c' 27 (0, 0)), (q2, .cells c 27 (0, 0))]) := by
          clear g2 g3 g4 g5 g7 g40 g41 g42
          clear hP
          intro D' out' co' e hP g2 g3 g4 g5 g7 g40 g41 g42 hDD' hco' hwk'
          refine hN14 _ _ _ ?_
          subst hwk'
          refine xc_reg1 2 rfl fun K hK => ?_
          simp only [show (List.range 2).map (·, true) = [(0, true), (1, true)] from rfl, rslv_cons, rslv_nil, List.getElem?_toArray, List.getElem?_cons_zero, List.getElem?_cons_succ, gres]
          iterate 2 (refine seqX_hide2 fun R hR => ?_; simp [go_sem, hcz, hco, hcz', hco', d32, d23, d43, d34, d42, d24, d54, d45, d53, d35, d52, d25, hcmz, hcmo, d75, d57, d74, d47, d73, d37, d72, d27, hctz, hcto, hg1, hg2, hj, hj2, hw1, hcj.size, hcj.ones, hoz, hoo, d117, d711, d115, d511, d114, d411, d113, d311, d112, d211, hyz1, hyo, d1211, d1112, d127, d712, d125, d512, d124, d412, d123, d312, d122, d212, g2, g3, g4, g5, g7, g40, g41, g42]; refine hR _ _ _ ?_; clear hR R)
          rw [seqX_nil]
          refine hK _ _ _ ?_; clear hK K
          refine sink_goal 0 hP rfl fun hPn lq12 nq12 => ?_
          clear hP; have hP := hPn; clear hPn
          simp only [List.eraseIdx_cons_zero, List.eraseIdx_cons_succ, addrs_cons, addrs_nil] at hP ⊢
          refine sink_goal 0 hP rfl fun hPn lq11 nq11 => ?_
          clear hP; have hP := hPn; clear hPn
          simp only [List.eraseIdx_cons_zero, List.eraseIdx_cons_succ, addrs_cons, addrs_nil] at hP ⊢
          have hlq := View.le_trans lq12 lq11
          refine hJ1 (keys.length - (j + 1)) _ _ _ (by omega) ⟨j + 1, _, _, co', rfl, rfl, rfl, hP, by simp [go_sem, hcz, hco, hcz', hco', d32, d23, d43, d34, d42, d24, d54, d45, d53, d35, d52, d25, hcmz, hcmo, d75, d57, d74, d47, d73, d37, d72, d27, hctz, hcto, hg1, hg2, hj, hj2, hw1, hcj.size, hcj.ones, hoz, hoo, d117, d711, d115, d511, d114, d411, d113, d311, d112, d211, hyz1, hyo, d1211, d1112, d127, d712, d125, d512, d124, d412, d123, d312, d122, d212, g2, g3, g4, g5, g7, g40, g41, g42], by simp [go_sem, hcz, hco, hcz', hco', d32, d23, d43, d34, d42, d24, d54, d45, d53, d35, d52, d25, hcmz, hcmo, d75, d57, d74, d47, d73, d37, d72, d27, hctz, hcto, hg1, hg2, hj, hj2, hw1, hcj.size, hcj.ones, hoz, hoo, d117, d711, d115, d511, d114, d411, d113, d311, d112, d211, hyz1, hyo, d1211, d1112, d127, d712, d125, d512, d124, d412, d123, d312, d122, d212, g2, g3, g4, g5, g7, g40, g41, g42], by simp [go_sem, hcz, hco, hcz', hco', d32, d23, d43, d34, d42, d24, d54, d45, d53, d35, d52, d25, hcmz, hcmo, d75, d57, d74, d47, d73, d37, d72, d27, hctz, hcto, hg1, hg2, hj, hj2, hw1, hcj.size, hcj.ones, hoz, hoo, d117, d711, d115, d511, d114, d411, d113, d311, d112, d211, hyz1, hyo, d1211, d1112, d127, d712, d125, d512, d124, d412, d123, d312, d122, d212, g2, g3, g4, g5, g7, g40, g41, g42], by simp [go_sem, hcz, hco, hcz', hco', d32, d23, d43, d34, d42, d24, d54, d45, d53, d35, d52, d25, hcmz, hcmo, d75, d57, d74, d47, d73, d37, d72, d27, hctz, hcto, hg1, hg2, hj, hj2, hw1, hcj.size, hcj.ones, hoz, hoo, d117, d711, d115, d511, d114, d411, d113, d311, d112, d211, hyz1, hyo, d1211, d1112, d127, d712, d125, d512, d124, d412, d123, d312, d122, d212, g2, g3, g4, g5, g7, g40, g41, g42], by simp [go_sem, hcz, hco, hcz', hco', d32, d23, d43, d34, d42, d24, d54, d45, d53, d35, d52, d25, hcmz, hcmo, d75, d57, d74, d47, d73, d37, d72, d27, hctz, hcto, hg1, hg2, hj, hj2, hw1, hcj.size, hcj.ones, hoz, hoo, d117, d711, d115, d511, d114, d411, d113, d311, d112, d211, hyz1, hyo, d1211, d1112, d127, d712, d125, d512, d124, d412, d123, d312, d122, d212, g2, g3, g4, g5, g7, g40, g41, g42], by simp [go_sem, hcz, hco, hcz', hco', d32, d23, d43, d34, d42, d24, d54, d45, d53, d35, d52, d25, hcmz, hcmo, d75, d57, d74, d47, d73, d37, d72, d27, hctz, hcto, hg1, hg2, hj, hj2, hw1, hcj.size, hcj.ones, hoz, hoo, d117, d711, d115, d511, d114, d411, d113, d311, d112, d211, hyz1, hyo, d1211, d1112, d127, d712, d125, d512, d124, d412, d123, d312, d122, d212, g2, g3, g4, g5, g7, g40, g41, g42], by simp [go_sem, hcz, hco, hcz', hco', d32, d23, d43, d34, d42, d24, d54, d45, d53, d35, d52, d25, hcmz, hcmo, d75, d57, d74, d47, d73, d37, d72, d27, hctz, hcto, hg1, hg2, hj, hj2, hw1, hcj.size, hcj.ones, hoz, hoo, d117, d711, d115, d511, d114, d411, d113, d311, d112, d211, hyz1, hyo, d1211, d1112, d127, d712, d125, d512, d124, d412, d123, d312, d122, d212, g2, g3, g4, g5, g7, g40, g41, g42], by simp [go_sem, hcz, hco, hcz', hco', d32, d23, d43, d34, d42, d24, d54, d45, d53, d35, d52, d25, hcmz, hcmo, d75, d57, d74, d47, d73, d37, d72, d27, hctz, hcto, hg1, hg2, hj, hj2, hw1, hcj.size, hcj.ones, hoz, hoo, d117, d711, d115, d511, d114, d411, d113, d311, d112, d211, hyz1, hyo, d1211, d1112, d127, d712, d125, d512, d124, d412, d123, d312, d122, d212, g2, g3, g4, g5, g7, g40, g41, g42], by omega, View.le_trans hDD' hlq, hco'.le hlq, hgs7, hgs1, by omega, hwk⟩
        refine xc_reg1 10 rfl fun K hK => ?_
        simp only [show (List.range 10).map (·, true) = [(0, true), (1, true), (2, true), (3, true), (4, true), (5, true), (6, true), (7, true), (8, true), (9, true)] from rfl, rslv_cons, rslv_nil, List.getElem?_toArray, List.getElem?_cons_zero, List.getElem?_cons_succ, gres]
        (refine seqX_hide2 fun R hR => ?_; simp [go_sem, hcz, hco, hcz', hco', d32, d23, d43, d34, d42, d24, d54, d45, d53, d35, d52, d25, hcmz, hcmo, d75, d57, d74, d47, d73, d37, d72, d27, hctz, hcto, hg1, hg2, g2, g3, g4, g5, g7, g40, g41, g42, hj, hj2, hw1, hcj.size, hcj.ones, hoz, hoo, d117, d711, d115, d511, d114, d411, d113, d311, d112, d211, hyz1, hyo, d1211, d1112, d127, d712, d125, d512, d124, d412, d123, d312, d122, d212]; refine hR _ _ _ ?_; clear hR R)
        refine seqX_hide2 fun R hR => ?_
        simp [go_sem, hcz, hco, hcz', hco', d32, d23, d43, d34, d42, d24, d54, d45, d53, d35, d52, d25, hcmz, hcmo, d75, d57, d74, d47, d73, d37, d72, d27, hctz, hcto, hg1, hg2, g2, g3, g4, g5, g7, g40, g41, g42, hj, hj2, hw1, hcj.size, hcj.ones, hoz, hoo, d117, d711, d115, d511, d114, d411, d113, d311, d112, d211, hyz1, hyo, d1211, d1112, d127, d712, d125, d512, d124, d412, d123, d312, d122, d212]
        refine call_ov hP (isTable23 D4 list[j] cj hcj1) ?_
        clear hP
        rintro _ D5 ⟨rfl, hD5⟩ hP
        have hco9 := hco9.le hD5
        have hcj1 := hcj1.le hD5
        have hy := hy.le hD5
        have hD3 := View.le_trans hD3 hD5
        by_cases hj7 : kindOf list[j] = 7
        · have hb1 : (kindOf list[j] == 7) = true := by rw [hkb7, decide_eq_true hj7]
          rcases hyz with ⟨rfl, hat⟩ | ⟨rfl, hat, rfl⟩
          · have hGy := good_at hoG hat
            have hny := nodes_at hat
            refine hR _ _ _ ?_; clear hR R
            iterate 5 (refine seqX_hide2 fun R hR => ?_; simp [go_sem, hcz, hco, hcz', hco', d32, d23, d43, d34, d42, d24, d54, d45, d53, d35, d52, d25, hcmz, hcmo, d75, d57, d74, d47, d73, d37, d72, d27, hctz, hcto, hg1, hg2, g2, g3, g4, g5, g7, g40, g41, g42, hj, hj2, hw1, hcj.size, hcj.ones, hoz, hoo, d117, d711, d115, d511, d114, d411, d113, d311, d112, d211, hyz1, hyo, d1211, d1112, d127, d712, d125, d512, d124, d412, d123, d312, d122, d212, hb1]; refine hR _ _ _ ?_; clear hR R)
            refine seqX_hide2 fun R hR => ?_
            simp [go_sem, hcz, hco, hcz', hco', d32, d23, d43, d34, d42, d24, d54, d45, d53, d35, d52, d25, hcmz, hcmo, d75, d57, d74, d47, d73, d37, d72, d27, hctz, hcto, hg1, hg2, g2, g3, g4, g5, g7, g40, g41, g42, hj, hj2, hw1, hcj.size, hcj.ones, hoz, hoo, d117, d711, d115, d511, d114, d411, d113, d311, d112, d211, hyz1, hyo, d1211, d1112, d127, d712, d125, d512, d124, d412, d123, d312, d122, d212, hb1]
            refine call_ov hP (isTable23 D5 y cy hy) ?_
            clear hP
            rintro _ D6 ⟨rfl, hD6⟩ hP
            have hco9 := hco9.le hD6
            have hcj1 := hcj1.le hD6
            have hy := hy.le hD6
            have hD3 := View.le_trans hD3 hD6
            by_cases hy7 : kindOf y = 7
            · have hb2 : (kindOf y == 7) = true := by rw [hkb7, decide_eq_true hy7]
              refine hR _ _ _ ?_; clear hR R
              iterate 2 (refine seqX_hide2 fun R hR => ?_; simp [go_sem, hcz, hco, hcz', hco', d32, d23, d43, d34, d42, d24, d54, d45, d53, d35, d52, d25, hcmz, hcmo, d75, d57, d74, d47, d73, d37, d72, d27, hctz, hcto, hg1, hg2, g2, g3, g4, g5, g7, g40, g41, g42, hj, hj2, hw1, hcj.size, hcj.ones, hoz, hoo, d117, d711, d115, d511, d114, d411, d113, d311, d112, d211, hyz1, hyo, d1211, d1112, d127, d712, d125, d512, d124, d412, d123, d312, d122, d212, hb1, hb2]; refine hR _ _ _ ?_; clear hR R)
              rw [seqX_nil]
              refine hK _ _ _ ?_; clear hK K
              refine hN18 _ _ _ ?_
              refine xc_iftrue (by simp [go_sem, hcz, hco, hcz', hco', d32, d23, d43, d34, d42, d24, d54, d45, d53, d35, d52, d25, hcmz, hcmo, d75, d57, d74, d47, d73, d37, d72, d27, hctz, hcto, hg1, hg2, g2, g3, g4, g5, g7, g40, g41, g42, hj, hj2, hw1, hcj.size, hcj.ones, hoz, hoo, d117, d711, d115, d511, d114, d411, d113, d311, d112, d211, hyz1, hyo, d1211, d1112, d127, d712, d125, d512, d124, d412, d123, d312, d122, d212, hb1, hb2]) ?_
              rw [xc_draws]
              refine vdrawK [(0, true), (1, true), (2, true), (3, true), (4, true), (5, false), (6, false)] (ov D6 [(q12, .cells cy 27 (0, 0)), (q11, .cells cj 27 (0, 0)), (q7, .cells (rvc 7 b i f t (.slice (some a) keys.length ck) (.slice (some a2) list.length cl)) 27 (0, 0)), (q5, .cells co 27 (0, 0)), (q4, .cells zc 27 (0, 0)), (q3, .cells c' 27 (0, 0)), (q2, .cells c 27 (0, 0))]) mixed (by kernel_rfl) (View.le_refl _) fun K hK => ?_
              simp only [rslv_cons, rslv_nil, List.getElem?_toArray, List.getElem?_cons_zero, List.getElem?_cons_succ, gres]
              iterate 4 (refine seqR_hide fun R hR => ?_; simp [go_sem, hcz, hco, hcz', hco', d32, d23, d43, d34, d42, d24, d54, d45, d53, d35, d52, d25, hcmz, hcmo, d75, d57, d74, d47, d73, d37, d72, d27, hctz, hcto, hg1, hg2, g2, g3, g4, g5, g7, g40, g41, g42, hj, hj2, hw1, hcj.size, hcj.ones, hoz, hoo, d117, d711, d115, d511, d114, d411, d113, d311, d112, d211, hyz1, hyo, d1211, d1112, d127, d712, d125, d512, d124, d412, d123, d312, d122, d212, hb1, hb2]; refine hR _ _ _ ?_; clear hR R)
              refine seqR_hide fun R hR => ?_
              simp [go_sem, hcz, hco, hcz', hco', d32, d23, d43, d34, d42, d24, d54, d45, d53, d35, d52, d25, hcmz, hcmo, d75, d57, d74, d47, d73, d37, d72, d27, hctz, hcto, hg1, hg2, g2, g3, g4, g5, g7, g40, g41, g42, hj, hj2, hw1, hcj.size, hcj.ones, hoz, hoo, d117, d711, d115, d511, d114, d411, d113, d311, d112, d211, hyz1, hyo, d1211, d1112, d127, d712, d125, d512, d124, d412, d123, d312, d122, d212, hb1, hb2]
              refine call_ov hP (coal18 y D6 list[j] cj cy _ _ true hcj1 hy hGj hGy (by omega) (by omega) (.inr hj7) (.inr hy7)) ?_
              clear hP
              rintro _ D7 ⟨c7, rfl, hD7, hc7⟩ hP
              refine ⟨ov_mono hD7, hR _ _ _ ?_⟩; clear hR R
              refine seqR_hide fun R hR => ?_
              simp [go_sem, hcz, hco, hcz', hco', d32, d23, d43, d34, d42, d24, d54, d45, d53, d35, d52, d25, hcmz, hcmo, d75, d57, d74, d47, d73, d37, d72, d27, hctz, hcto, hg1, hg2, g2, g3, g4, g5, g7, g40, g41, g42, hj, hj2, hw1, hcj.size, hcj.ones, hoz, hoo, d117, d711, d115, d511, d114, d411, d113, d311, d112, d211, hyz1, hyo, d1211, d1112, d127, d712, d125, d512, d124, d412, d123, d312, d122, d212, hb1, hb2]
              refine call_ov hP (with45 D7 out (coalR list[j] true y) co c7 keys[j] (hco9.le hD7) hc7 hpo) ?_
              clear hP
              rintro _ D8 ⟨c8, rfl, hD8, hc8⟩ hP
              refine hR _ _ _ ?_; clear hR R
              refine seqR_hide fun R hR => ?_
              simp [go_sem, hcz, hco, hcz', hco', d32, d23, d43, d34, d42, d24, d54, d45, d53, d35, d52, d25, hcmz, hcmo, d75, d57, d74, d47, d73, d37, d72, d27, hctz, hcto, hg1, hg2, g2, g3, g4, g5, g7, g40, g41, g42, hj, hj2, hw1, hcj.size, hcj.ones, hoz, hoo, d117, d711, d115, d511, d114, d411, d113, d311, d112, d211, hyz1, hyo, d1211, d1112, d127, d712, d125, d512, d124, d412, d123, d312, d122, d212, hb1, hb2, hc8.size, hc8.ones]
              refine hR _ _ _ ?_; clear hR R
              rw [seqR_nil]
              refine hK _ _ _ ?_; clear hK K
              exact tail (D8) (_) (c8) _ hP (by simp [go_sem, hcz, hco, hcz', hco', d32, d23, d43, d34, d42, d24, d54, d45, d53, d35, d52, d25, hcmz, hcmo, d75, d57, d74, d47, d73, d37, d72, d27, hctz, hcto, hg1, hg2, g2, g3, g4, g5, g7, g40, g41, g42, hj, hj2, hw1, hcj.size, hcj.ones, hoz, hoo, d117, d711, d115, d511, d114, d411, d113, d311, d112, d211, hyz1, hyo, d1211, d1112, d127, d712, d125, d512, d124, d412, d123, d312, d122, d212, hb1, hb2, hc8.size, hc8.ones]) (by simp [go_sem, hcz, hco, hcz', hco', d32, d23, d43, d34, d42, d24, d54, d45, d53, d35, d52, d25, hcmz, hcmo, d75, d57, d74, d47, d73, d37, d72, d27, hctz, hcto, hg1, hg2, g2, g3, g4, g5, g7, g40, g41, g42, hj, hj2, hw1, hcj.size, hcj.ones, hoz, hoo, d117, d711, d115, d511, d114, d411, d113, d311, d112, d211, hyz1, hyo, d1211, d1112, d127, d712, d125, d512, d124, d412, d123, d312, d122, d212, hb1, hb2, hc8.size, hc8.ones]) (by simp [go_sem, hcz, hco, hcz', hco', d32, d23, d43, d34, d42, d24, d54, d45, d53, d35, d52, d25, hcmz, hcmo, d75, d57, d74, d47, d73, d37, d72, d27, hctz, hcto, hg1, hg2, g2, g3, g4, g5, g7, g40, g41, g42, hj, hj2, hw1, hcj.size, hcj.ones, hoz, hoo, d117, d711, d115, d511, d114, d411, d113, d311, d112, d211, hyz1, hyo, d1211, d1112, d127, d712, d125, d512, d124, d412, d123, d312, d122, d212, hb1, hb2, hc8.size, hc8.ones]) (by simp [go_sem, hcz, hco, hcz', hco', d32, d23, d43, d34, d42, d24, d54, d45, d53, d35, d52, d25, hcmz, hcmo, d75, d57, d74, d47, d73, d37, d72, d27, hctz, hcto, hg1, hg2, g2, g3, g4, g5, g7, g40, g41, g42, hj, hj2, hw1, hcj.size, hcj.ones, hoz, hoo, d117, d711, d115, d511, d114, d411, d113, d311, d112, d211, hyz1, hyo, d1211, d1112, d127, d712, d125, d512, d124, d412, d123, d312, d122, d212, hb1, hb2, hc8.size, hc8.ones]) (by simp [go_sem, hcz, hco, hcz', hco', d32, d23, d43, d34, d42, d24, d54, d45, d53, d35, d52, d25, hcmz, hcmo, d75, d57, d74, d47, d73, d37, d72, d27, hctz, hcto, hg1, hg2, g2, g3, g4, g5, g7, g40, g41, g42, hj, hj2, hw1, hcj.size, hcj.ones, hoz, hoo, d117, d711, d115, d511, d114, d411, d113, d311, d112, d211, hyz1, hyo, d1211, d1112, d127, d712, d125, d512, d124, d412, d123, d312, d122, d212, hb1, hb2, hc8.size, hc8.ones]) (by simp [go_sem, hcz, hco, hcz', hco', d32, d23, d43, d34, d42, d24, d54, d45, d53, d35, d52, d25, hcmz, hcmo, d75, d57, d74, d47, d73, d37, d72, d27, hctz, hcto, hg1, hg2, g2, g3, g4, g5, g7, g40, g41, g42, hj, hj2, hw1, hcj.size, hcj.ones, hoz, hoo, d117, d711, d115, d511, d114, d411, d113, d311, d112, d211, hyz1, hyo, d1211, d1112, d127, d712, d125, d512, d124, d412, d123, d312, d122, d212, hb1, hb2, hc8.size, hc8.ones]) (by simp [go_sem, hcz, hco, hcz', hco', d32, d23, d43, d34, d42, d24, d54, d45, d53, d35, d52, d25, hcmz, hcmo, d75, d57, d74, d47, d73, d37, d72, d27, hctz, hcto, hg1, hg2, g2, g3, g4, g5, g7, g40, g41, g42, hj, hj2, hw1, hcj.size, hcj.ones, hoz, hoo, d117, d711, d115, d511, d114, d411, d113, d311, d112, d211, hyz1, hyo, d1211, d1112, d127, d712, d125, d512, d124, d412, d123, d312, d122, d212, hb1, hb2, hc8.size, hc8.ones]) (by simp [go_sem, hcz, hco, hcz', hco', d32, d23, d43, d34, d42, d24, d54, d45, d53, d35, d52, d25, hcmz, hcmo, d75, d57, d74, d47, d73, d37, d72, d27, hctz, hcto, hg1, hg2, g2, g3, g4, g5, g7, g40, g41, g42, hj, hj2, hw1, hcj.size, hcj.ones, hoz, hoo, d117, d711, d115, d511, d114, d411, d113, d311, d112, d211, hyz1, hyo, d1211, d1112, d127, d712, d125, d512, d124, d412, d123, d312, d122, d212, hb1, hb2, hc8.size, hc8.ones]) (View.le_trans hD3 (View.le_trans hD7 hD8)) (hc8) (by simp [gS, hat, hj7, hy7])
            · have hb2 : (kindOf y == 7) = false := by rw [hkb7, decide_eq_false hy7]
              refine hR _ _ _ ?_; clear hR R
              iterate 2 (refine seqX_hide2 fun R hR => ?_; simp [go_sem, hcz, hco, hcz', hco', d32, d23, d43, d34, d42, d24, d54, d45, d53, d35, d52, d25, hcmz, hcmo, d75, d57, d74, d47, d73, d37, d72, d27, hctz, hcto, hg1, hg2, g2, g3, g4, g5, g7, g40, g41, g42, hj, hj2, hw1, hcj.size, hcj.ones, hoz, hoo, d117, d711, d115, d511, d114, d411, d113, d311, d112, d211, hyz1, hyo, d1211, d1112, d127, d712, d125, d512, d124, d412, d123, d312, d122, d212, hb1, hb2]; refine hR _ _ _ ?_; clear hR R)
              rw [seqX_nil]
              refine hK _ _ _ ?_; clear hK K
              refine hN18 _ _ _ ?_
              refine xc_iffalse (by simp [go_sem, hcz, hco, hcz', hco', d32, d23, d43, d34, d42, d24, d54, d45, d53, d35, d52, d25, hcmz, hcmo, d75, d57, d74, d47, d73, d37, d72, d27, hctz, hcto, hg1, hg2, g2, g3, g4, g5, g7, g40, g41, g42, hj, hj2, hw1, hcj.size, hcj.ones, hoz, hoo, d117, d711, d115, d511, d114, d411, d113, d311, d112, d211, hyz1, hyo, d1211, d1112, d127, d712, d125, d512, d124, d412, d123, d312, d122, d212, hb1, hb2]) ?_
              refine xc_two fun N19 hN19 => ?_
              refine xc_two fun N20 hN20 => ?_
              refine xc_reg1 6 rfl fun K hK => ?_
              simp only [show (List.range 6).map (·, true) = [(0, true), (1, true), (2, true), (3, true), (4, true), (5, true)] from rfl, rslv_cons, rslv_nil, List.getElem?_toArray, List.getElem?_cons_zero, List.getElem?_cons_succ, gres]
              (refine seqX_hide2 fun R hR => ?_; simp [go_sem, hcz, hco, hcz', hco', d32, d23, d43, d34, d42, d24, d54, d45, d53, d35, d52, d25, hcmz, hcmo, d75, d57, d74, d47, d73, d37, d72, d27, hctz, hcto, hg1, hg2, g2, g3, g4, g5, g7, g40, g41, g42, hj, hj2, hw1, hcj.size, hcj.ones, hoz, hoo, d117, d711, d115, d511, d114, d411, d113, d311, d112, d211, hyz1, hyo, d1211, d1112, d127, d712, d125, d512, d124, d412, d123, d312, d122, d212, hb1, hb2]; refine hR _ _ _ ?_; clear hR R)
              refine seqX_hide2 fun R hR => ?_
              simp [go_sem, hcz, hco, hcz', hco', d32, d23, d43, d34, d42, d24, d54, d45, d53, d35, d52, d25, hcmz, hcmo, d75, d57, d74, d47, d73, d37, d72, d27, hctz, hcto, hg1, hg2, g2, g3, g4, g5, g7, g40, g41, g42, hj, hj2, hw1, hcj.size, hcj.ones, hoz, hoo, d117, d711, d115, d511, d114, d411, d113, d311, d112, d211, hyz1, hyo, d1211, d1112, d127, d712, d125, d512, d124, d412, d123, d312, d122, d212, hb1, hb2]
              refine call_ov hP (isTable23 D6 list[j] cj hcj1) ?_
              clear hP
              rintro _ D7 ⟨rfl, hD7⟩ hP
              have hco9 := hco9.le hD7
              have hD3 := View.le_trans hD3 hD7
              refine hR _ _ _ ?_; clear hR R
              iterate 4 (refine seqX_hide2 fun R hR => ?_; simp [go_sem, hcz, hco, hcz', hco', d32, d23, d43, d34, d42, d24, d54, d45, d53, d35, d52, d25, hcmz, hcmo, d75, d57, d74, d47, d73, d37, d72, d27, hctz, hcto, hg1, hg2, g2, g3, g4, g5, g7, g40, g41, g42, hj, hj2, hw1, hcj.size, hcj.ones, hoz, hoo, d117, d711, d115, d511, d114, d411, d113, d311, d112, d211, hyz1, hyo, d1211, d1112, d127, d712, d125, d512, d124, d412, d123, d312, d122, d212, hb1, hb2]; refine hR _ _ _ ?_; clear hR R)
              rw [seqX_nil]
              refine hK _ _ _ ?_; clear hK K
              refine hN20 _ _ _ ?_
              refine xc_iftrue (by simp [go_sem, hcz, hco, hcz', hco', d32, d23, d43, d34, d42, d24, d54, d45, d53, d35, d52, d25, hcmz, hcmo, d75, d57, d74, d47, d73, d37, d72, d27, hctz, hcto, hg1, hg2, g2, g3, g4, g5, g7, g40, g41, g42, hj, hj2, hw1, hcj.size, hcj.ones, hoz, hoo, d117, d711, d115, d511, d114, d411, d113, d311, d112, d211, hyz1, hyo, d1211, d1112, d127, d712, d125, d512, d124, d412, d123, d312, d122, d212, hb1, hb2]) ?_
              refine hN19 _ _ _ ?_
              refine xc_iftrue (by simp [go_sem, hcz, hco, hcz', hco', d32, d23, d43, d34, d42, d24, d54, d45, d53, d35, d52, d25, hcmz, hcmo, d75, d57, d74, d47, d73, d37, d72, d27, hctz, hcto, hg1, hg2, g2, g3, g4, g5, g7, g40, g41, g42, hj, hj2, hw1, hcj.size, hcj.ones, hoz, hoo, d117, d711, d115, d511, d114, d411, d113, d311, d112, d211, hyz1, hyo, d1211, d1112, d127, d712, d125, d512, d124, d412, d123, d312, d122, d212, hb1, hb2]) ?_
              exact tail (D7) (out) (co) _ hP (by simp [go_sem, hcz, hco, hcz', hco', d32, d23, d43, d34, d42, d24, d54, d45, d53, d35, d52, d25, hcmz, hcmo, d75, d57, d74, d47, d73, d37, d72, d27, hctz, hcto, hg1, hg2, g2, g3, g4, g5, g7, g40, g41, g42, hj, hj2, hw1, hcj.size, hcj.ones, hoz, hoo, d117, d711, d115, d511, d114, d411, d113, d311, d112, d211, hyz1, hyo, d1211, d1112, d127, d712, d125, d512, d124, d412, d123, d312, d122, d212, hb1, hb2]) (by simp [go_sem, hcz, hco, hcz', hco', d32, d23, d43, d34, d42, d24, d54, d45, d53, d35, d52, d25, hcmz, hcmo, d75, d57, d74, d47, d73, d37, d72, d27, hctz, hcto, hg1, hg2, g2, g3, g4, g5, g7, g40, g41, g42, hj, hj2, hw1, hcj.size, hcj.ones, hoz, hoo, d117, d711, d115, d511, d114, d411, d113, d311, d112, d211, hyz1, hyo, d1211, d1112, d127, d712, d125, d512, d124, d412, d123, d312, d122, d212, hb1, hb2]) (by simp [go_sem, hcz, hco, hcz', hco', d32, d23, d43, d34, d42, d24, d54, d45, d53, d35, d52, d25, hcmz, hcmo, d75, d57, d74, d47, d73, d37, d72, d27, hctz, hcto, hg1, hg2, g2, g3, g4, g5, g7, g40, g41, g42, hj, hj2, hw1, hcj.size, hcj.ones, hoz, hoo, d117, d711, d115, d511, d114, d411, d113, d311, d112, d211, hyz1, hyo, d1211, d1112, d127, d712, d125, d512, d124, d412, d123, d312, d122, d212, hb1, hb2]) (by simp [go_sem, hcz, hco, hcz', hco', d32, d23, d43, d34, d42, d24, d54, d45, d53, d35, d52, d25, hcmz, hcmo, d75, d57, d74, d47, d73, d37, d72, d27, hctz, hcto, hg1, hg2, g2, g3, g4, g5, g7, g40, g41, g42, hj, hj2, hw1, hcj.size, hcj.ones, hoz, hoo, d117, d711, d115, d511, d114, d411, d113, d311, d112, d211, hyz1, hyo, d1211, d1112, d127, d712, d125, d512, d124, d412, d123, d312, d122, d212, hb1, hb2]) (by simp [go_sem, hcz, hco, hcz', hco', d32, d23, d43, d34, d42, d24, d54, d45, d53, d35, d52, d25, hcmz, hcmo, d75, d57, d74, d47, d73, d37, d72, d27, hctz, hcto, hg1, hg2, g2, g3, g4, g5, g7, g40, g41, g42, hj, hj2, hw1, hcj.size, hcj.ones, hoz, hoo, d117, d711, d115, d511, d114, d411, d113, d311, d112, d211, hyz1, hyo, d1211, d1112, d127, d712, d125, d512, d124, d412, d123, d312, d122, d212, hb1, hb2]) (by simp [go_sem, hcz, hco, hcz', hco', d32, d23, d43, d34, d42, d24, d54, d45, d53, d35, d52, d25, hcmz, hcmo, d75, d57, d74, d47, d73, d37, d72, d27, hctz, hcto, hg1, hg2, g2, g3, g4, g5, g7, g40, g41, g42, hj, hj2, hw1, hcj.size, hcj.ones, hoz, hoo, d117, d711, d115, d511, d114, d411, d113, d311, d112, d211, hyz1, hyo, d1211, d1112, d127, d712, d125, d512, d124, d412, d123, d312, d122, d212, hb1, hb2]) (by simp [go_sem, hcz, hco, hcz', hco', d32, d23, d43, d34, d42, d24, d54, d45, d53, d35, d52, d25, hcmz, hcmo, d75, d57, d74, d47, d73, d37, d72, d27, hctz, hcto, hg1, hg2, g2, g3, g4, g5, g7, g40, g41, g42, hj, hj2, hw1, hcj.size, hcj.ones, hoz, hoo, d117, d711, d115, d511, d114, d411, d113, d311, d112, d211, hyz1, hyo, d1211, d1112, d127, d712, d125, d512, d124, d412, d123, d312, d122, d212, hb1, hb2]) (by simp [go_sem, hcz, hco, hcz', hco', d32, d23, d43, d34, d42, d24, d54, d45, d53, d35, d52, d25, hcmz, hcmo, d75, d57, d74, d47, d73, d37, d72, d27, hctz, hcto, hg1, hg2, g2, g3, g4, g5, g7, g40, g41, g42, hj, hj2, hw1, hcj.size, hcj.ones, hoz, hoo, d117, d711, d115, d511, d114, d411, d113, d311, d112, d211, hyz1, hyo, d1211, d1112, d127, d712, d125, d512, d124, d412, d123, d312, d122, d212, hb1, hb2]) (hD3) (hco9) (by simp [gS, hat, hj7, hy7])
          · skip
            refine hR _ _ _ ?_; clear hR R
            iterate 5 (refine seqX_hide2 fun R hR => ?_; simp [go_sem, hcz, hco, hcz', hco', d32, d23, d43, d34, d42, d24, d54, d45, d53, d35, d52, d25, hcmz, hcmo, d75, d57, d74, d47, d73, d37, d72, d27, hctz, hcto, hg1, hg2, g2, g3, g4, g5, g7, g40, g41, g42, hj, hj2, hw1, hcj.size, hcj.ones, hoz, hoo, d117, d711, d115, d511, d114, d411, d113, d311, d112, d211, hyz1, hyo, d1211, d1112, d127, d712, d125, d512, d124, d412, d123, d312, d122, d212, hb1]; refine hR _ _ _ ?_; clear hR R)
            refine seqX_hide2 fun R hR => ?_
            simp [go_sem, hcz, hco, hcz', hco', d32, d23, d43, d34, d42, d24, d54, d45, d53, d35, d52, d25, hcmz, hcmo, d75, d57, d74, d47, d73, d37, d72, d27, hctz, hcto, hg1, hg2, g2, g3, g4, g5, g7, g40, g41, g42, hj, hj2, hw1, hcj.size, hcj.ones, hoz, hoo, d117, d711, d115, d511, d114, d411, d113, d311, d112, d211, hyz1, hyo, d1211, d1112, d127, d712, d125, d512, d124, d412, d123, d312, d122, d212, hb1]
            refine hR _ _ _ ?_; clear hR R
            iterate 2 (refine seqX_hide2 fun R hR => ?_; simp [go_sem, hcz, hco, hcz', hco', d32, d23, d43, d34, d42, d24, d54, d45, d53, d35, d52, d25, hcmz, hcmo, d75, d57, d74, d47, d73, d37, d72, d27, hctz, hcto, hg1, hg2, g2, g3, g4, g5, g7, g40, g41, g42, hj, hj2, hw1, hcj.size, hcj.ones, hoz, hoo, d117, d711, d115, d511, d114, d411, d113, d311, d112, d211, hyz1, hyo, d1211, d1112, d127, d712, d125, d512, d124, d412, d123, d312, d122, d212, hb1]; refine hR _ _ _ ?_; clear hR R)
            rw [seqX_nil]
            refine hK _ _ _ ?_; clear hK K
            refine hN18 _ _ _ ?_
            refine xc_iffalse (by simp [go_sem, hcz, hco, hcz', hco', d32, d23, d43, d34, d42, d24, d54, d45, d53, d35, d52, d25, hcmz, hcmo, d75, d57, d74, d47, d73, d37, d72, d27, hctz, hcto, hg1, hg2, g2, g3, g4, g5, g7, g40, g41, g42, hj, hj2, hw1, hcj.size, hcj.ones, hoz, hoo, d117, d711, d115, d511, d114, d411, d113, d311, d112, d211, hyz1, hyo, d1211, d1112, d127, d712, d125, d512, d124, d412, d123, d312, d122, d212, hb1]) ?_
            refine xc_two fun N19 hN19 => ?_
            refine xc_two fun N20 hN20 => ?_
            refine xc_reg1 6 rfl fun K hK => ?_
            simp only [show (List.range 6).map (·, true) = [(0, true), (1, true), (2, true), (3, true), (4, true), (5, true)] from rfl, rslv_cons, rslv_nil, List.getElem?_toArray, List.getElem?_cons_zero, List.getElem?_cons_succ, gres]
            (refine seqX_hide2 fun R hR => ?_; simp [go_sem, hcz, hco, hcz', hco', d32, d23, d43, d34, d42, d24, d54, d45, d53, d35, d52, d25, hcmz, hcmo, d75, d57, d74, d47, d73, d37, d72, d27, hctz, hcto, hg1, hg2, g2, g3, g4, g5, g7, g40, g41, g42, hj, hj2, hw1, hcj.size, hcj.ones, hoz, hoo, d117, d711, d115, d511, d114, d411, d113, d311, d112, d211, hyz1, hyo, d1211, d1112, d127, d712, d125, d512, d124, d412, d123, d312, d122, d212, hb1]; refine hR _ _ _ ?_; clear hR R)
            refine seqX_hide2 fun R hR => ?_
            simp [go_sem, hcz, hco, hcz', hco', d32, d23, d43, d34, d42, d24, d54, d45, d53, d35, d52, d25, hcmz, hcmo, d75, d57, d74, d47, d73, d37, d72, d27, hctz, hcto, hg1, hg2, g2, g3, g4, g5, g7, g40, g41, g42, hj, hj2, hw1, hcj.size, hcj.ones, hoz, hoo, d117, d711, d115, d511, d114, d411, d113, d311, d112, d211, hyz1, hyo, d1211, d1112, d127, d712, d125, d512, d124, d412, d123, d312, d122, d212, hb1]
            refine call_ov hP (isTable23 D5 list[j] cj hcj1) ?_
            clear hP
            rintro _ D6 ⟨rfl, hD6⟩ hP
            have hco9 := hco9.le hD6
            have hcj1 := hcj1.le hD6
            have hD3 := View.le_trans hD3 hD6
            refine hR _ _ _ ?_; clear hR R
            iterate 4 (refine seqX_hide2 fun R hR => ?_; simp [go_sem, hcz, hco, hcz', hco', d32, d23, d43, d34, d42, d24, d54, d45, d53, d35, d52, d25, hcmz, hcmo, d75, d57, d74, d47, d73, d37, d72, d27, hctz, hcto, hg1, hg2, g2, g3, g4, g5, g7, g40, g41, g42, hj, hj2, hw1, hcj.size, hcj.ones, hoz, hoo, d117, d711, d115, d511, d114, d411, d113, d311, d112, d211, hyz1, hyo, d1211, d1112, d127, d712, d125, d512, d124, d412, d123, d312, d122, d212, hb1]; refine hR _ _ _ ?_; clear hR R)
            rw [seqX_nil]
            refine hK _ _ _ ?_; clear hK K
            refine hN20 _ _ _ ?_
            refine xc_iffalse (by simp [go_sem, hcz, hco, hcz', hco', d32, d23, d43, d34, d42, d24, d54, d45, d53, d35, d52, d25, hcmz, hcmo, d75, d57, d74, d47, d73, d37, d72, d27, hctz, hcto, hg1, hg2, g2, g3, g4, g5, g7, g40, g41, g42, hj, hj2, hw1, hcj.size, hcj.ones, hoz, hoo, d117, d711, d115, d511, d114, d411, d113, d311, d112, d211, hyz1, hyo, d1211, d1112, d127, d712, d125, d512, d124, d412, d123, d312, d122, d212, hb1]) ?_
            refine xc_reg1 8 rfl fun K hK => ?_
            simp only [show (List.range 8).map (·, true) = [(0, true), (1, true), (2, true), (3, true), (4, true), (5, true), (6, true), (7, true)] from rfl, rslv_cons, rslv_nil, List.getElem?_toArray, List.getElem?_cons_zero, List.getElem?_cons_succ, gres]
            (refine seqX_hide2 fun R hR => ?_; simp [go_sem, hcz, hco, hcz', hco', d32, d23, d43, d34, d42, d24, d54, d45, d53, d35, d52, d25, hcmz, hcmo, d75, d57, d74, d47, d73, d37, d72, d27, hctz, hcto, hg1, hg2, g2, g3, g4, g5, g7, g40, g41, g42, hj, hj2, hw1, hcj.size, hcj.ones, hoz, hoo, d117, d711, d115, d511, d114, d411, d113, d311, d112, d211, hyz1, hyo, d1211, d1112, d127, d712, d125, d512, d124, d412, d123, d312, d122, d212, hb1]; refine hR _ _ _ ?_; clear hR R)
            refine seqX_hide2 fun R hR => ?_
            simp [go_sem, hcz, hco, hcz', hco', d32, d23, d43, d34, d42, d24, d54, d45, d53, d35, d52, d25, hcmz, hcmo, d75, d57, d74, d47, d73, d37, d72, d27, hctz, hcto, hg1, hg2, g2, g3, g4, g5, g7, g40, g41, g42, hj, hj2, hw1, hcj.size, hcj.ones, hoz, hoo, d117, d711, d115, d511, d114, d411, d113, d311, d112, d211, hyz1, hyo, d1211, d1112, d127, d712, d125, d512, d124, d412, d123, d312, d122, d212, hb1]
            refine call_ov hP (isTable23 D6 list[j] cj hcj1) ?_
            clear hP
            rintro _ D7 ⟨rfl, hD7⟩ hP
            have hco9 := hco9.le hD7
            have hcj1 := hcj1.le hD7
            have hD3 := View.le_trans hD3 hD7
            refine hR _ _ _ ?_; clear hR R
            iterate 3 (refine seqX_hide2 fun R hR => ?_; simp [go_sem, hcz, hco, hcz', hco', d32, d23, d43, d34, d42, d24, d54, d45, d53, d35, d52, d25, hcmz, hcmo, d75, d57, d74, d47, d73, d37, d72, d27, hctz, hcto, hg1, hg2, g2, g3, g4, g5, g7, g40, g41, g42, hj, hj2, hw1, hcj.size, hcj.ones, hoz, hoo, d117, d711, d115, d511, d114, d411, d113, d311, d112, d211, hyz1, hyo, d1211, d1112, d127, d712, d125, d512, d124, d412, d123, d312, d122, d212, hb1]; refine hR _ _ _ ?_; clear hR R)
            refine seqX_hide2 fun R hR => ?_
            simp [go_sem, hcz, hco, hcz', hco', d32, d23, d43, d34, d42, d24, d54, d45, d53, d35, d52, d25, hcmz, hcmo, d75, d57, d74, d47, d73, d37, d72, d27, hctz, hcto, hg1, hg2, g2, g3, g4, g5, g7, g40, g41, g42, hj, hj2, hw1, hcj.size, hcj.ones, hoz, hoo, d117, d711, d115, d511, d114, d411, d113, d311, d112, d211, hyz1, hyo, d1211, d1112, d127, d712, d125, d512, d124, d412, d123, d312, d122, d212, hb1]
            refine hR _ _ _ ?_; clear hR R
            iterate 2 (refine seqX_hide2 fun R hR => ?_; simp [go_sem, hcz, hco, hcz', hco', d32, d23, d43, d34, d42, d24, d54, d45, d53, d35, d52, d25, hcmz, hcmo, d75, d57, d74, d47, d73, d37, d72, d27, hctz, hcto, hg1, hg2, g2, g3, g4, g5, g7, g40, g41, g42, hj, hj2, hw1, hcj.size, hcj.ones, hoz, hoo, d117, d711, d115, d511, d114, d411, d113, d311, d112, d211, hyz1, hyo, d1211, d1112, d127, d712, d125, d512, d124, d412, d123, d312, d122, d212, hb1]; refine hR _ _ _ ?_; clear hR R)
            rw [seqX_nil]
            refine hK _ _ _ ?_; clear hK K
            refine hN19 _ _ _ ?_
            refine xc_iffalse (by simp [go_sem, hcz, hco, hcz', hco', d32, d23, d43, d34, d42, d24, d54, d45, d53, d35, d52, d25, hcmz, hcmo, d75, d57, d74, d47, d73, d37, d72, d27, hctz, hcto, hg1, hg2, g2, g3, g4, g5, g7, g40, g41, g42, hj, hj2, hw1, hcj.size, hcj.ones, hoz, hoo, d117, d711, d115, d511, d114, d411, d113, d311, d112, d211, hyz1, hyo, d1211, d1112, d127, d712, d125, d512, d124, d412, d123, d312, d122, d212, hb1]) ?_
            refine xc_reg1 5 rfl fun K hK => ?_
            simp only [show (List.range 5).map (·, true) = [(0, true), (1, true), (2, true), (3, true), (4, true)] from rfl, rslv_cons, rslv_nil, List.getElem?_toArray, List.getElem?_cons_zero, List.getElem?_cons_succ, gres]
            iterate 3 (refine seqX_hide2 fun R hR => ?_; simp [go_sem, hcz, hco, hcz', hco', d32, d23, d43, d34, d42, d24, d54, d45, d53, d35, d52, d25, hcmz, hcmo, d75, d57, d74, d47, d73, d37, d72, d27, hctz, hcto, hg1, hg2, g2, g3, g4, g5, g7, g40, g41, g42, hj, hj2, hw1, hcj.size, hcj.ones, hoz, hoo, d117, d711, d115, d511, d114, d411, d113, d311, d112, d211, hyz1, hyo, d1211, d1112, d127, d712, d125, d512, d124, d412, d123, d312, d122, d212, hb1]; refine hR _ _ _ ?_; clear hR R)
            refine seqX_hide2 fun R hR => ?_
            simp [go_sem, hcz, hco, hcz', hco', d32, d23, d43, d34, d42, d24, d54, d45, d53, d35, d52, d25, hcmz, hcmo, d75, d57, d74, d47, d73, d37, d72, d27, hctz, hcto, hg1, hg2, g2, g3, g4, g5, g7, g40, g41, g42, hj, hj2, hw1, hcj.size, hcj.ones, hoz, hoo, d117, d711, d115, d511, d114, d411, d113, d311, d112, d211, hyz1, hyo, d1211, d1112, d127, d712, d125, d512, d124, d412, d123, d312, d122, d212, hb1]
            refine call_ov hP (with45 D7 out list[j] co cj keys[j] hco9 hcj1 hpo) ?_
            clear hP
            rintro _ D8 ⟨c8, rfl, hD8, hc8⟩ hP
            refine hR _ _ _ ?_; clear hR R
            refine seqX_hide2 fun R hR => ?_
            simp [go_sem, hcz, hco, hcz', hco', d32, d23, d43, d34, d42, d24, d54, d45, d53, d35, d52, d25, hcmz, hcmo, d75, d57, d74, d47, d73, d37, d72, d27, hctz, hcto, hg1, hg2, g2, g3, g4, g5, g7, g40, g41, g42, hj, hj2, hw1, hcj.size, hcj.ones, hoz, hoo, d117, d711, d115, d511, d114, d411, d113, d311, d112, d211, hyz1, hyo, d1211, d1112, d127, d712, d125, d512, d124, d412, d123, d312, d122, d212, hb1, hc8.size, hc8.ones]
            refine hR _ _ _ ?_; clear hR R
            rw [seqX_nil]
            refine hK _ _ _ ?_; clear hK K
            exact tail (D8) (_) (c8) _ hP (by simp [go_sem, hcz, hco, hcz', hco', d32, d23, d43, d34, d42, d24, d54, d45, d53, d35, d52, d25, hcmz, hcmo, d75, d57, d74, d47, d73, d37, d72, d27, hctz, hcto, hg1, hg2, g2, g3, g4, g5, g7, g40, g41, g42, hj, hj2, hw1, hcj.size, hcj.ones, hoz, hoo, d117, d711, d115, d511, d114, d411, d113, d311, d112, d211, hyz1, hyo, d1211, d1112, d127, d712, d125, d512, d124, d412, d123, d312, d122, d212, hb1, hc8.size, hc8.ones]) (by simp [go_sem, hcz, hco, hcz', hco', d32, d23, d43, d34, d42, d24, d54, d45, d53, d35, d52, d25, hcmz, hcmo, d75, d57, d74, d47, d73, d37, d72, d27, hctz, hcto, hg1, hg2, g2, g3, g4, g5, g7, g40, g41, g42, hj, hj2, hw1, hcj.size, hcj.ones, hoz, hoo, d117, d711, d115, d511, d114, d411, d113, d311, d112, d211, hyz1, hyo, d1211, d1112, d127, d712, d125, d512, d124, d412, d123, d312, d122, d212, hb1, hc8.size, hc8.ones]) (by simp [go_sem, hcz, hco, hcz', hco', d32, d23, d43, d34, d42, d24, d54, d45, d53, d35, d52, d25, hcmz, hcmo, d75, d57, d74, d47, d73, d37, d72, d27, hctz, hcto, hg1, hg2, g2, g3, g4, g5, g7, g40, g41, g42, hj, hj2, hw1, hcj.size, hcj.ones, hoz, hoo, d117, d711, d115, d511, d114, d411, d113, d311, d112, d211, hyz1, hyo, d1211, d1112, d127, d712, d125, d512, d124, d412, d123, d312, d122, d212, hb1, hc8.size, hc8.ones]) (by simp [go_sem, hcz, hco, hcz', hco', d32, d23, d43, d34, d42, d24, d54, d45, d53, d35, d52, d25, hcmz, hcmo, d75, d57, d74, d47, d73, d37, d72, d27, hctz, hcto, hg1, hg2, g2, g3, g4, g5, g7, g40, g41, g42, hj, hj2, hw1, hcj.size, hcj.ones, hoz, hoo, d117, d711, d115, d511, d114, d411, d113, d311, d112, d211, hyz1, hyo, d1211, d1112, d127, d712, d125, d512, d124, d412, d123, d312, d122, d212, hb1, hc8.size, hc8.ones]) (by simp [go_sem, hcz, hco, hcz', hco', d32, d23, d43, d34, d42, d24, d54, d45, d53, d35, d52, d25, hcmz, hcmo, d75, d57, d74, d47, d73, d37, d72, d27, hctz, hcto, hg1, hg2, g2, g3, g4, g5, g7, g40, g41, g42, hj, hj2, hw1, hcj.size, hcj.ones, hoz, hoo, d117, d711, d115, d511, d114, d411, d113, d311, d112, d211, hyz1, hyo, d1211, d1112, d127, d712, d125, d512, d124, d412, d123, d312, d122, d212, hb1, hc8.size, hc8.ones]) (by simp [go_sem, hcz, hco, hcz', hco', d32, d23, d43, d34, d42, d24, d54, d45, d53, d35, d52, d25, hcmz, hcmo, d75, d57, d74, d47, d73, d37, d72, d27, hctz, hcto, hg1, hg2, g2, g3, g4, g5, g7, g40, g41, g42, hj, hj2, hw1, hcj.size, hcj.ones, hoz, hoo, d117, d711, d115, d511, d114, d411, d113, d311, d112, d211, hyz1, hyo, d1211, d1112, d127, d712, d125, d512, d124, d412, d123, d312, d122, d212, hb1, hc8.size, hc8.ones]) (by simp [go_sem, hcz, hco, hcz', hco', d32, d23, d43, d34, d42, d24, d54, d45, d53, d35, d52, d25, hcmz, hcmo, d75, d57, d74, d47, d73, d37, d72, d27, hctz, hcto, hg1, hg2, g2, g3, g4, g5, g7, g40, g41, g42, hj, hj2, hw1, hcj.size, hcj.ones, hoz, hoo, d117, d711, d115, d511, d114, d411, d113, d311, d112, d211, hyz1, hyo, d1211, d1112, d127, d712, d125, d512, d124, d412, d123, d312, d122, d212, hb1, hc8.size, hc8.ones]) (by simp [go_sem, hcz, hco, hcz', hco', d32, d23, d43, d34, d42, d24, d54, d45, d53, d35, d52, d25, hcmz, hcmo, d75, d57, d74, d47, d73, d37, d72, d27, hctz, hcto, hg1, hg2, g2, g3, g4, g5, g7, g40, g41, g42, hj, hj2, hw1, hcj.size, hcj.ones, hoz, hoo, d117, d711, d115, d511, d114, d411, d113, d311, d112, d211, hyz1, hyo, d1211, d1112, d127, d712, d125, d512, d124, d412, d123, d312, d122, d212, hb1, hc8.size, hc8.ones]) (View.le_trans hD3 hD8) (hc8) (by simp [gS, hat])
        · have hb1 : (kindOf list[j] == 7) = false := by rw [hkb7, decide_eq_false hj7]
          refine hR _ _ _ ?_; clear hR R
          iterate 5 (refine seqX_hide2 fun R hR => ?_; simp [go_sem, hcz, hco, hcz', hco', d32, d23, d43, d34, d42, d24, d54, d45, d53, d35, d52, d25, hcmz, hcmo, d75, d57, d74, d47, d73, d37, d72, d27, hctz, hcto, hg1, hg2, g2, g3, g4, g5, g7, g40, g41, g42, hj, hj2, hw1, hcj.size, hcj.ones, hoz, hoo, d117, d711, d115, d511, d114, d411, d113, d311, d112, d211, hyz1, hyo, d1211, d1112, d127, d712, d125, d512, d124, d412, d123, d312, d122, d212, hb1]; refine hR _ _ _ ?_; clear hR R)
          refine seqX_hide2 fun R hR => ?_
          simp [go_sem, hcz, hco, hcz', hco', d32, d23, d43, d34, d42, d24, d54, d45, d53, d35, d52, d25, hcmz, hcmo, d75, d57, d74, d47, d73, d37, d72, d27, hctz, hcto, hg1, hg2, g2, g3, g4, g5, g7, g40, g41, g42, hj, hj2, hw1, hcj.size, hcj.ones, hoz, hoo, d117, d711, d115, d511, d114, d411, d113, d311, d112, d211, hyz1, hyo, d1211, d1112, d127, d712, d125, d512, d124, d412, d123, d312, d122, d212, hb1]
          refine hR _ _ _ ?_; clear hR R
          iterate 2 (refine seqX_hide2 fun R hR => ?_; simp [go_sem, hcz, hco, hcz', hco', d32, d23, d43, d34, d42, d24, d54, d45, d53, d35, d52, d25, hcmz, hcmo, d75, d57, d74, d47, d73, d37, d72, d27, hctz, hcto, hg1, hg2, g2, g3, g4, g5, g7, g40, g41, g42, hj, hj2, hw1, hcj.size, hcj.ones, hoz, hoo, d117, d711, d115, d511, d114, d411, d113, d311, d112, d211, hyz1, hyo, d1211, d1112, d127, d712, d125, d512, d124, d412, d123, d312, d122, d212, hb1]; refine hR _ _ _ ?_; clear hR R)
          rw [seqX_nil]
          refine hK _ _ _ ?_; clear hK K
          refine hN18 _ _ _ ?_
          refine xc_iffalse (by simp [go_sem, hcz, hco, hcz', hco', d32, d23, d43, d34, d42, d24, d54, d45, d53, d35, d52, d25, hcmz, hcmo, d75, d57, d74, d47, d73, d37, d72, d27, hctz, hcto, hg1, hg2, g2, g3, g4, g5, g7, g40, g41, g42, hj, hj2, hw1, hcj.size, hcj.ones, hoz, hoo, d117, d711, d115, d511, d114, d411, d113, d311, d112, d211, hyz1, hyo, d1211, d1112, d127, d712, d125, d512, d124, d412, d123, d312, d122, d212, hb1]) ?_
          refine xc_two fun N19 hN19 => ?_
          refine xc_two fun N20 hN20 => ?_
          refine xc_reg1 6 rfl fun K hK => ?_
          simp only [show (List.range 6).map (·, true) = [(0, true), (1, true), (2, true), (3, true), (4, true), (5, true)] from rfl, rslv_cons, rslv_nil, List.getElem?_toArray, List.getElem?_cons_zero, List.getElem?_cons_succ, gres]
          (refine seqX_hide2 fun R hR => ?_; simp [go_sem, hcz, hco, hcz', hco', d32, d23, d43, d34, d42, d24, d54, d45, d53, d35, d52, d25, hcmz, hcmo, d75, d57, d74, d47, d73, d37, d72, d27, hctz, hcto, hg1, hg2, g2, g3, g4, g5, g7, g40, g41, g42, hj, hj2, hw1, hcj.size, hcj.ones, hoz, hoo, d117, d711, d115, d511, d114, d411, d113, d311, d112, d211, hyz1, hyo, d1211, d1112, d127, d712, d125, d512, d124, d412, d123, d312, d122, d212, hb1]; refine hR _ _ _ ?_; clear hR R)
          refine seqX_hide2 fun R hR => ?_
          simp [go_sem, hcz, hco, hcz', hco', d32, d23, d43, d34, d42, d24, d54, d45, d53, d35, d52, d25, hcmz, hcmo, d75, d57, d74, d47, d73, d37, d72, d27, hctz, hcto, hg1, hg2, g2, g3, g4, g5, g7, g40, g41, g42, hj, hj2, hw1, hcj.size, hcj.ones, hoz, hoo, d117, d711, d115, d511, d114, d411, d113, d311, d112, d211, hyz1, hyo, d1211, d1112, d127, d712, d125, d512, d124, d412, d123, d312, d122, d212, hb1]
          refine call_ov hP (isTable23 D5 list[j] cj hcj1) ?_
          clear hP
          rintro _ D6 ⟨rfl, hD6⟩ hP
          have hco9 := hco9.le hD6
          have hcj1 := hcj1.le hD6
          have hy := hy.le hD6
          have hD3 := View.le_trans hD3 hD6
          refine hR _ _ _ ?_; clear hR R
          iterate 4 (refine seqX_hide2 fun R hR => ?_; simp [go_sem, hcz, hco, hcz', hco', d32, d23, d43, d34, d42, d24, d54, d45, d53, d35, d52, d25, hcmz, hcmo, d75, d57, d74, d47, d73, d37, d72, d27, hctz, hcto, hg1, hg2, g2, g3, g4, g5, g7, g40, g41, g42, hj, hj2, hw1, hcj.size, hcj.ones, hoz, hoo, d117, d711, d115, d511, d114, d411, d113, d311, d112, d211, hyz1, hyo, d1211, d1112, d127, d712, d125, d512, d124, d412, d123, d312, d122, d212, hb1]; refine hR _ _ _ ?_; clear hR R)
          rw [seqX_nil]
          refine hK _ _ _ ?_; clear hK K
          refine hN20 _ _ _ ?_
          refine xc_iffalse (by simp [go_sem, hcz, hco, hcz', hco', d32, d23, d43, d34, d42, d24, d54, d45, d53, d35, d52, d25, hcmz, hcmo, d75, d57, d74, d47, d73, d37, d72, d27, hctz, hcto, hg1, hg2, g2, g3, g4, g5, g7, g40, g41, g42, hj, hj2, hw1, hcj.size, hcj.ones, hoz, hoo, d117, d711, d115, d511, d114, d411, d113, d311, d112, d211, hyz1, hyo, d1211, d1112, d127, d712, d125, d512, d124, d412, d123, d312, d122, d212, hb1]) ?_
          refine xc_reg1 8 rfl fun K hK => ?_
          simp only [show (List.range 8).map (·, true) = [(0, true), (1, true), (2, true), (3, true), (4, true), (5, true), (6, true), (7, true)] from rfl, rslv_cons, rslv_nil, List.getElem?_toArray, List.getElem?_cons_zero, List.getElem?_cons_succ, gres]
          (refine seqX_hide2 fun R hR => ?_; simp [go_sem, hcz, hco, hcz', hco', d32, d23, d43, d34, d42, d24, d54, d45, d53, d35, d52, d25, hcmz, hcmo, d75, d57, d74, d47, d73, d37, d72, d27, hctz, hcto, hg1, hg2, g2, g3, g4, g5, g7, g40, g41, g42, hj, hj2, hw1, hcj.size, hcj.ones, hoz, hoo, d117, d711, d115, d511, d114, d411, d113, d311, d112, d211, hyz1, hyo, d1211, d1112, d127, d712, d125, d512, d124, d412, d123, d312, d122, d212, hb1]; refine hR _ _ _ ?_; clear hR R)
          refine seqX_hide2 fun R hR => ?_
          simp [go_sem, hcz, hco, hcz', hco', d32, d23, d43, d34, d42, d24, d54, d45, d53, d35, d52, d25, hcmz, hcmo, d75, d57, d74, d47, d73, d37, d72, d27, hctz, hcto, hg1, hg2, g2, g3, g4, g5, g7, g40, g41, g42, hj, hj2, hw1, hcj.size, hcj.ones, hoz, hoo, d117, d711, d115, d511, d114, d411, d113, d311, d112, d211, hyz1, hyo, d1211, d1112, d127, d712, d125, d512, d124, d412, d123, d312, d122, d212, hb1]
          refine call_ov hP (isTable23 D6 list[j] cj hcj1) ?_
          clear hP
          rintro _ D7 ⟨rfl, hD7⟩ hP
          have hco9 := hco9.le hD7
          have hcj1 := hcj1.le hD7
          have hy := hy.le hD7
          have hD3 := View.le_trans hD3 hD7
          refine hR _ _ _ ?_; clear hR R
          iterate 3 (refine seqX_hide2 fun R hR => ?_; simp [go_sem, hcz, hco, hcz', hco', d32, d23, d43, d34, d42, d24, d54, d45, d53, d35, d52, d25, hcmz, hcmo, d75, d57, d74, d47, d73, d37, d72, d27, hctz, hcto, hg1, hg2, g2, g3, g4, g5, g7, g40, g41, g42, hj, hj2, hw1, hcj.size, hcj.ones, hoz, hoo, d117, d711, d115, d511, d114, d411, d113, d311, d112, d211, hyz1, hyo, d1211, d1112, d127, d712, d125, d512, d124, d412, d123, d312, d122, d212, hb1]; refine hR _ _ _ ?_; clear hR R)
          refine seqX_hide2 fun R hR => ?_
          simp [go_sem, hcz, hco, hcz', hco', d32, d23, d43, d34, d42, d24, d54, d45, d53, d35, d52, d25, hcmz, hcmo, d75, d57, d74, d47, d73, d37, d72, d27, hctz, hcto, hg1, hg2, g2, g3, g4, g5, g7, g40, g41, g42, hj, hj2, hw1, hcj.size, hcj.ones, hoz, hoo, d117, d711, d115, d511, d114, d411, d113, d311, d112, d211, hyz1, hyo, d1211, d1112, d127, d712, d125, d512, d124, d412, d123, d312, d122, d212, hb1]
          refine call_ov hP (isTable23 D7 y cy hy) ?_
          clear hP
          rintro _ D8 ⟨rfl, hD8⟩ hP
          have hco9 := hco9.le hD8
          have hcj1 := hcj1.le hD8
          have hD3 := View.le_trans hD3 hD8
          by_cases hy7 : kindOf y = 7
          · have hb2 : (kindOf y == 7) = true := by rw [hkb7, decide_eq_true hy7]
            rcases hyz with ⟨rfl, hat⟩ | ⟨rfl, hat, rfl⟩
            rotate_left
            · simp [kindOf, rz] at hy7
            refine hR _ _ _ ?_; clear hR R
            iterate 2 (refine seqX_hide2 fun R hR => ?_; simp [go_sem, hcz, hco, hcz', hco', d32, d23, d43, d34, d42, d24, d54, d45, d53, d35, d52, d25, hcmz, hcmo, d75, d57, d74, d47, d73, d37, d72, d27, hctz, hcto, hg1, hg2, g2, g3, g4, g5, g7, g40, g41, g42, hj, hj2, hw1, hcj.size, hcj.ones, hoz, hoo, d117, d711, d115, d511, d114, d411, d113, d311, d112, d211, hyz1, hyo, d1211, d1112, d127, d712, d125, d512, d124, d412, d123, d312, d122, d212, hb1, hb2]; refine hR _ _ _ ?_; clear hR R)
            rw [seqX_nil]
            refine hK _ _ _ ?_; clear hK K
            refine hN19 _ _ _ ?_
            refine xc_iftrue (by simp [go_sem, hcz, hco, hcz', hco', d32, d23, d43, d34, d42, d24, d54, d45, d53, d35, d52, d25, hcmz, hcmo, d75, d57, d74, d47, d73, d37, d72, d27, hctz, hcto, hg1, hg2, g2, g3, g4, g5, g7, g40, g41, g42, hj, hj2, hw1, hcj.size, hcj.ones, hoz, hoo, d117, d711, d115, d511, d114, d411, d113, d311, d112, d211, hyz1, hyo, d1211, d1112, d127, d712, d125, d512, d124, d412, d123, d312, d122, d212, hb1, hb2]) ?_
            exact tail (D8) (out) (co) _ hP (by simp [go_sem, hcz, hco, hcz', hco', d32, d23, d43, d34, d42, d24, d54, d45, d53, d35, d52, d25, hcmz, hcmo, d75, d57, d74, d47, d73, d37, d72, d27, hctz, hcto, hg1, hg2, g2, g3, g4, g5, g7, g40, g41, g42, hj, hj2, hw1, hcj.size, hcj.ones, hoz, hoo, d117, d711, d115, d511, d114, d411, d113, d311, d112, d211, hyz1, hyo, d1211, d1112, d127, d712, d125, d512, d124, d412, d123, d312, d122, d212, hb1, hb2]) (by simp [go_sem, hcz, hco, hcz', hco', d32, d23, d43, d34, d42, d24, d54, d45, d53, d35, d52, d25, hcmz, hcmo, d75, d57, d74, d47, d73, d37, d72, d27, hctz, hcto, hg1, hg2, g2, g3, g4, g5, g7, g40, g41, g42, hj, hj2, hw1, hcj.size, hcj.ones, hoz, hoo, d117, d711, d115, d511, d114, d411, d113, d311, d112, d211, hyz1, hyo, d1211, d1112, d127, d712, d125, d512, d124, d412, d123, d312, d122, d212, hb1, hb2]) (by simp [go_sem, hcz, hco, hcz', hco', d32, d23, d43, d34, d42, d24, d54, d45, d53, d35, d52, d25, hcmz, hcmo, d75, d57, d74, d47, d73, d37, d72, d27, hctz, hcto, hg1, hg2, g2, g3, g4, g5, g7, g40, g41, g42, hj, hj2, hw1, hcj.size, hcj.ones, hoz, hoo, d117, d711, d115, d511, d114, d411, d113, d311, d112, d211, hyz1, hyo, d1211, d1112, d127, d712, d125, d512, d124, d412, d123, d312, d122, d212, hb1, hb2]) (by simp [go_sem, hcz, hco, hcz', hco', d32, d23, d43, d34, d42, d24, d54, d45, d53, d35, d52, d25, hcmz, hcmo, d75, d57, d74, d47, d73, d37, d72, d27, hctz, hcto, hg1, hg2, g2, g3, g4, g5, g7, g40, g41, g42, hj, hj2, hw1, hcj.size, hcj.ones, hoz, hoo, d117, d711, d115, d511, d114, d411, d113, d311, d112, d211, hyz1, hyo, d1211, d1112, d127, d712, d125, d512, d124, d412, d123, d312, d122, d212, hb1, hb2]) (by simp [go_sem, hcz, hco, hcz', hco', d32, d23, d43, d34, d42, d24, d54, d45, d53, d35, d52, d25, hcmz, hcmo, d75, d57, d74, d47, d73, d37, d72, d27, hctz, hcto, hg1, hg2, g2, g3, g4, g5, g7, g40, g41, g42, hj, hj2, hw1, hcj.size, hcj.ones, hoz, hoo, d117, d711, d115, d511, d114, d411, d113, d311, d112, d211, hyz1, hyo, d1211, d1112, d127, d712, d125, d512, d124, d412, d123, d312, d122, d212, hb1, hb2]) (by simp [go_sem, hcz, hco, hcz', hco', d32, d23, d43, d34, d42, d24, d54, d45, d53, d35, d52, d25, hcmz, hcmo, d75, d57, d74, d47, d73, d37, d72, d27, hctz, hcto, hg1, hg2, g2, g3, g4, g5, g7, g40, g41, g42, hj, hj2, hw1, hcj.size, hcj.ones, hoz, hoo, d117, d711, d115, d511, d114, d411, d113, d311, d112, d211, hyz1, hyo, d1211, d1112, d127, d712, d125, d512, d124, d412, d123, d312, d122, d212, hb1, hb2]) (by simp [go_sem, hcz, hco, hcz', hco', d32, d23, d43, d34, d42, d24, d54, d45, d53, d35, d52, d25, hcmz, hcmo, d75, d57, d74, d47, d73, d37, d72, d27, hctz, hcto, hg1, hg2, g2, g3, g4, g5, g7, g40, g41, g42, hj, hj2, hw1, hcj.size, hcj.ones, hoz, hoo, d117, d711, d115, d511, d114, d411, d113, d311, d112, d211, hyz1, hyo, d1211, d1112, d127, d712, d125, d512, d124, d412, d123, d312, d122, d212, hb1, hb2]) (by simp [go_sem, hcz, hco, hcz', hco', d32, d23, d43, d34, d42, d24, d54, d45, d53, d35, d52, d25, hcmz, hcmo, d75, d57, d74, d47, d73, d37, d72, d27, hctz, hcto, hg1, hg2, g2, g3, g4, g5, g7, g40, g41, g42, hj, hj2, hw1, hcj.size, hcj.ones, hoz, hoo, d117, d711, d115, d511, d114, d411, d113, d311, d112, d211, hyz1, hyo, d1211, d1112, d127, d712, d125, d512, d124, d412, d123, d312, d122, d212, hb1, hb2]) (hD3) (hco9) (by simp [gS, hat, hj7, hy7])
          · have hb2 : (kindOf y == 7) = false := by rw [hkb7, decide_eq_false hy7]
            refine hR _ _ _ ?_; clear hR R
            iterate 2 (refine seqX_hide2 fun R hR => ?_; simp [go_sem, hcz, hco, hcz', hco', d32, d23, d43, d34, d42, d24, d54, d45, d53, d35, d52, d25, hcmz, hcmo, d75, d57, d74, d47, d73, d37, d72, d27, hctz, hcto, hg1, hg2, g2, g3, g4, g5, g7, g40, g41, g42, hj, hj2, hw1, hcj.size, hcj.ones, hoz, hoo, d117, d711, d115, d511, d114, d411, d113, d311, d112, d211, hyz1, hyo, d1211, d1112, d127, d712, d125, d512, d124, d412, d123, d312, d122, d212, hb1, hb2]; refine hR _ _ _ ?_; clear hR R)
            rw [seqX_nil]
            refine hK _ _ _ ?_; clear hK K
            refine hN19 _ _ _ ?_
            refine xc_iffalse (by simp [go_sem, hcz, hco, hcz', hco', d32, d23, d43, d34, d42, d24, d54, d45, d53, d35, d52, d25, hcmz, hcmo, d75, d57, d74, d47, d73, d37, d72, d27, hctz, hcto, hg1, hg2, g2, g3, g4, g5, g7, g40, g41, g42, hj, hj2, hw1, hcj.size, hcj.ones, hoz, hoo, d117, d711, d115, d511, d114, d411, d113, d311, d112, d211, hyz1, hyo, d1211, d1112, d127, d712, d125, d512, d124, d412, d123, d312, d122, d212, hb1, hb2]) ?_
            refine xc_reg1 5 rfl fun K hK => ?_
            simp only [show (List.range 5).map (·, true) = [(0, true), (1, true), (2, true), (3, true), (4, true)] from rfl, rslv_cons, rslv_nil, List.getElem?_toArray, List.getElem?_cons_zero, List.getElem?_cons_succ, gres]
            iterate 3 (refine seqX_hide2 fun R hR => ?_; simp [go_sem, hcz, hco, hcz', hco', d32, d23, d43, d34, d42, d24, d54, d45, d53, d35, d52, d25, hcmz, hcmo, d75, d57, d74, d47, d73, d37, d72, d27, hctz, hcto, hg1, hg2, g2, g3, g4, g5, g7, g40, g41, g42, hj, hj2, hw1, hcj.size, hcj.ones, hoz, hoo, d117, d711, d115, d511, d114, d411, d113, d311, d112, d211, hyz1, hyo, d1211, d1112, d127, d712, d125, d512, d124, d412, d123, d312, d122, d212, hb1, hb2]; refine hR _ _ _ ?_; clear hR R)
            refine seqX_hide2 fun R hR => ?_
            simp [go_sem, hcz, hco, hcz', hco', d32, d23, d43, d34, d42, d24, d54, d45, d53, d35, d52, d25, hcmz, hcmo, d75, d57, d74, d47, d73, d37, d72, d27, hctz, hcto, hg1, hg2, g2, g3, g4, g5, g7, g40, g41, g42, hj, hj2, hw1, hcj.size, hcj.ones, hoz, hoo, d117, d711, d115, d511, d114, d411, d113, d311, d112, d211, hyz1, hyo, d1211, d1112, d127, d712, d125, d512, d124, d412, d123, d312, d122, d212, hb1, hb2]
            refine call_ov hP (with45 D8 out list[j] co cj keys[j] hco9 hcj1 hpo) ?_
            clear hP
            rintro _ D9 ⟨c8, rfl, hD9, hc8⟩ hP
            refine hR _ _ _ ?_; clear hR R
            refine seqX_hide2 fun R hR => ?_
            simp [go_sem, hcz, hco, hcz', hco', d32, d23, d43, d34, d42, d24, d54, d45, d53, d35, d52, d25, hcmz, hcmo, d75, d57, d74, d47, d73, d37, d72, d27, hctz, hcto, hg1, hg2, g2, g3, g4, g5, g7, g40, g41, g42, hj, hj2, hw1, hcj.size, hcj.ones, hoz, hoo, d117, d711, d115, d511, d114, d411, d113, d311, d112, d211, hyz1, hyo, d1211, d1112, d127, d712, d125, d512, d124, d412, d123, d312, d122, d212, hb1, hb2, hc8.size, hc8.ones]
            refine hR _ _ _ ?_; clear hR R
            rw [seqX_nil]
            refine hK _ _ _ ?_; clear hK K
            exact tail (D9) (_) (c8) _ hP (by simp [go_sem, hcz, hco, hcz', hco', d32, d23, d43, d34, d42, d24, d54, d45, d53, d35, d52, d25, hcmz, hcmo, d75, d57, d74, d47, d73, d37, d72, d27, hctz, hcto, hg1, hg2, g2, g3, g4, g5, g7, g40, g41, g42, hj, hj2, hw1, hcj.size, hcj.ones, hoz, hoo, d117, d711, d115, d511, d114, d411, d113, d311, d112, d211, hyz1, hyo, d1211, d1112, d127, d712, d125, d512, d124, d412, d123, d312, d122, d212, hb1, hb2, hc8.size, hc8.ones]) (by simp [go_sem, hcz, hco, hcz', hco', d32, d23, d43, d34, d42, d24, d54, d45, d53, d35, d52, d25, hcmz, hcmo, d75, d57, d74, d47, d73, d37, d72, d27, hctz, hcto, hg1, hg2, g2, g3, g4, g5, g7, g40, g41, g42, hj, hj2, hw1, hcj.size, hcj.ones, hoz, hoo, d117, d711, d115, d511, d114, d411, d113, d311, d112, d211, hyz1, hyo, d1211, d1112, d127, d712, d125, d512, d124, d412, d123, d312, d122, d212, hb1, hb2, hc8.size, hc8.ones]) (by simp [go_sem, hcz, hco, hcz', hco', d32, d23, d43, d34, d42, d24, d54, d45, d53, d35, d52, d25, hcmz, hcmo, d75, d57, d74, d47, d73, d37, d72, d27, hctz, hcto, hg1, hg2, g2, g3, g4, g5, g7, g40, g41, g42, hj, hj2, hw1, hcj.size, hcj.ones, hoz, hoo, d117, d711, d115, d511, d114, d411, d113, d311, d112, d211, hyz1, hyo, d1211, d1112, d127, d712, d125, d512, d124, d412, d123, d312, d122, d212, hb1, hb2, hc8.size, hc8.ones]) (by simp [go_sem, hcz, hco, hcz', hco', d32, d23, d43, d34, d42, d24, d54, d45, d53, d35, d52, d25, hcmz, hcmo, d75, d57, d74, d47, d73, d37, d72, d27, hctz, hcto, hg1, hg2, g2, g3, g4, g5, g7, g40, g41, g42, hj, hj2, hw1, hcj.size, hcj.ones, hoz, hoo, d117, d711, d115, d511, d114, d411, d113, d311, d112, d211, hyz1, hyo, d1211, d1112, d127, d712, d125, d512, d124, d412, d123, d312, d122, d212, hb1, hb2, hc8.size, hc8.ones]) (by simp [go_sem, hcz, hco, hcz', hco', d32, d23, d43, d34, d42, d24, d54, d45, d53, d35, d52, d25, hcmz, hcmo, d75, d57, d74, d47, d73, d37, d72, d27, hctz, hcto, hg1, hg2, g2, g3, g4, g5, g7, g40, g41, g42, hj, hj2, hw1, hcj.size, hcj.ones, hoz, hoo, d117, d711, d115, d511, d114, d411, d113, d311, d112, d211, hyz1, hyo, d1211, d1112, d127, d712, d125, d512, d124, d412, d123, d312, d122, d212, hb1, hb2, hc8.size, hc8.ones]) (by simp [go_sem, hcz, hco, hcz', hco', d32, d23, d43, d34, d42, d24, d54, d45, d53, d35, d52, d25, hcmz, hcmo, d75, d57, d74, d47, d73, d37, d72, d27, hctz, hcto, hg1, hg2, g2, g3, g4, g5, g7, g40, g41, g42, hj, hj2, hw1, hcj.size, hcj.ones, hoz, hoo, d117, d711, d115, d511, d114, d411, d113, d311, d112, d211, hyz1, hyo, d1211, d1112, d127, d712, d125, d512, d124, d412, d123, d312, d122, d212, hb1, hb2, hc8.size, hc8.ones]) (by simp [go_sem, hcz, hco, hcz', hco', d32, d23, d43, d34, d42, d24, d54, d45, d53, d35, d52, d25, hcmz, hcmo, d75, d57, d74, d47, d73, d37, d72, d27, hctz, hcto, hg1, hg2, g2, g3, g4, g5, g7, g40, g41, g42, hj, hj2, hw1, hcj.size, hcj.ones, hoz, hoo, d117, d711, d115, d511, d114, d411, d113, d311, d112, d211, hyz1, hyo, d1211, d1112, d127, d712, d125, d512, d124, d412, d123, d312, d122, d212, hb1, hb2, hc8.size, hc8.ones]) (by simp [go_sem, hcz, hco, hcz', hco', d32, d23, d43, d34, d42, d24, d54, d45, d53, d35, d52, d25, hcmz, hcmo, d75, d57, d74, d47, d73, d37, d72, d27, hctz, hcto, hg1, hg2, g2, g3, g4, g5, g7, g40, g41, g42, hj, hj2, hw1, hcj.size, hcj.ones, hoz, hoo, d117, d711, d115, d511, d114, d411, d113, d311, d112, d211, hyz1, hyo, d1211, d1112, d127, d712, d125, d512, d124, d412, d123, d312, d122, d212, hb1, hb2, hc8.size, hc8.ones]) (View.le_trans hD3 hD9) (hc8) (by rcases hyz with ⟨_, hat⟩ | ⟨_, hat, _⟩ <;> simp [gS, hat, hj7, hy7])
      · rw [List.drop_of_length_le (by omega), gL_nil] at hwk
        have hpv : Pl v := good_pl h7 hG (by omega)
        refine xc_two fun N12 hN12 => ?_
        refine xc_reg1 1 rfl fun K hK => ?_
        simp only [show (List.range 1).map (·, true) = [(0, true)] from rfl, rslv_cons, rslv_nil, List.getElem?_toArray, List.getElem?_cons_zero, List.getElem?_cons_succ, gres]
        (refine seqX_hide2 fun R hR => ?_; simp [go_sem, hcz, hco, hcz', hco', d32, d23, d43, d34, d42, d24, d54, d45, d53, d35, d52, d25, hcmz, hcmo, d75, d57, d74, d47, d73, d37, d72, d27, hctz, hcto, hg1, hg2, g2, g3, g4, g5, g7, g40, g41, g42, hco9.size, hco9.ones, hj]; refine hR _ _ _ ?_; clear hR R)
        rw [seqX_nil]
        refine hK _ _ _ ?_; clear hK K
        refine hN12 _ _ _ ?_
        refine xc_two fun N13 hN13 => ?_
        refine xc_iffalse (by simp [go_sem, hcz, hco, hcz', hco', d32, d23, d43, d34, d42, d24, d54, d45, d53, d35, d52, d25, hcmz, hcmo, d75, d57, d74, d47, d73, d37, d72, d27, hctz, hcto, hg1, hg2, g2, g3, g4, g5, g7, g40, g41, g42, hco9.size, hco9.ones]) ?_
        refine hX1 _ _ _ _ ?_
        refine hN10 _ _ _ ?_
        refine xc_two fun N14 hN14 => ?_
        refine xc_reg1 4 rfl fun K hK => ?_
        simp only [show (List.range 4).map (·, true) = [(0, true), (1, true), (2, true), (3, true)] from rfl, rslv_cons, rslv_nil, List.getElem?_toArray, List.getElem?_cons_zero, List.getElem?_cons_succ, gres]
        iterate 2 (refine seqX_hide2 fun R hR => ?_; simp [go_sem, hcz, hco, hcz', hco', d32, d23, d43, d34, d42, d24, d54, d45, d53, d35, d52, d25, hcmz, hcmo, d75, d57, d74, d47, d73, d37, d72, d27, hctz, hcto, hg1, hg2, g2, g3, g4, g5, g7, g40, g41, g42, hco9.size, hco9.ones]; refine hR _ _ _ ?_; clear hR R)
        refine seqX_hide2 fun R hR => ?_
        simp [go_sem, hcz, hco, hcz', hco', d32, d23, d43, d34, d42, d24, d54, d45, d53, d35, d52, d25, hcmz, hcmo, d75, d57, d74, d47, d73, d37, d72, d27, hctz, hcto, hg1, hg2, g2, g3, g4, g5, g7, g40, g41, g42, hco9.size, hco9.ones]
        refine call_ov hP (with45 D v out c co gkey (hc.le hAD') hco9 hpv) ?_
        clear hP
        rintro _ D9 ⟨c8, rfl, hD9, hc8⟩ hP
        refine hR _ _ _ ?_; clear hR R
        refine seqX_hide2 fun R hR => ?_
        simp [go_sem, hcz, hco, hcz', hco', d32, d23, d43, d34, d42, d24, d54, d45, d53, d35, d52, d25, hcmz, hcmo, d75, d57, d74, d47, d73, d37, d72, d27, hctz, hcto, hg1, hg2, g2, g3, g4, g5, g7, g40, g41, g42, hco9.size, hco9.ones, hc8.size, hc8.ones]
        refine hR _ _ _ ?_; clear hR R
        rw [seqX_nil]
        refine hK _ _ _ ?_; clear hK K
        refine hN14 _ _ _ ?_
        simp [go_sem, hcz, hco, hcz', hco', d32, d23, d43, d34, d42, d24, d54, d45, d53, d35, d52, d25, hcmz, hcmo, d75, d57, d74, d47, d73, d37, d72, d27, hctz, hcto, hg1, hg2, g2, g3, g4, g5, g7, g40, g41, g42, hco9.size, hco9.ones, hc8.size, hc8.ones]
        rw [if_pos ⟨k1, k2⟩]
        subst hwk
        refine ⟨View.le_trans hAD' (View.le_trans hD9 ?_), hc8.le ?_⟩
        · exact le_ov hP
        · exact le_ov hP
    rcases hyz with ⟨rfl, hat⟩ | ⟨rfl, hat, rfl⟩
    · skip
      refine xc_iffalse (by simp [go_sem, hcz, hco, hcz', hco', d32, d23, d43, d34, d42, d24, hyz1, hyo, d54, d45, d53, d35, d52, d25, g2, g3, g4, g5, hcmz, hcmo, d75, d57, d74, d47, d73, d37, d72, d27]) ?_
      exact m2 (cy) _ hP (by simp [go_sem, hcz, hco, hcz', hco', d32, d23, d43, d34, d42, d24, hyz1, hyo, d54, d45, d53, d35, d52, d25, g2, g3, g4, g5, hcmz, hcmo, d75, d57, d74, d47, d73, d37, d72, d27]) (by simp [go_sem, hcz, hco, hcz', hco', d32, d23, d43, d34, d42, d24, hyz1, hyo, d54, d45, d53, d35, d52, d25, g2, g3, g4, g5, hcmz, hcmo, d75, d57, d74, d47, d73, d37, d72, d27]) (by simp [go_sem, hcz, hco, hcz', hco', d32, d23, d43, d34, d42, d24, hyz1, hyo, d54, d45, d53, d35, d52, d25, g2, g3, g4, g5, hcmz, hcmo, d75, d57, d74, d47, d73, d37, d72, d27]) (by simp [go_sem, hcz, hco, hcz', hco', d32, d23, d43, d34, d42, d24, hyz1, hyo, d54, d45, d53, d35, d52, d25, g2, g3, g4, g5, hcmz, hcmo, d75, d57, d74, d47, d73, d37, d72, d27]) (by simp [go_sem, hcz, hco, hcz', hco', d32, d23, d43, d34, d42, d24, hyz1, hyo, d54, d45, d53, d35, d52, d25, g2, g3, g4, g5, hcmz, hcmo, d75, d57, d74, d47, d73, d37, d72, d27]) (by rw [hat]; exact hy)
    · skip
      refine xc_iftrue (by simp [go_sem, hcz, hco, hcz', hco', d32, d23, d43, d34, d42, d24, hyz1, hyo, d54, d45, d53, d35, d52, d25, g2, g3, g4, g5, hcmz, hcmo, d75, d57, d74, d47, d73, d37, d72, d27]) ?_
      refine xc_reg1 2 rfl fun K hK => ?_
      simp only [show (List.range 2).map (·, true) = [(0, true), (1, true)] from rfl, rslv_cons, rslv_nil, List.getElem?_toArray, List.getElem?_cons_zero, List.getElem?_cons_succ, gres]
      (refine seqX_hide2 fun R hR => ?_; simp [go_sem, hcz, hco, hcz', hco', d32, d23, d43, d34, d42, d24, hyz1, hyo, d54, d45, d53, d35, d52, d25, g2, g3, g4, g5, hcmz, hcmo, d75, d57, d74, d47, d73, d37, d72, d27]; refine hR _ _ _ ?_; clear hR R)
      refine seqX_hide2 fun R hR => ?_
      simp [go_sem, hcz, hco, hcz', hco', d32, d23, d43, d34, d42, d24, hyz1, hyo, d54, d45, d53, d35, d52, d25, g2, g3, g4, g5, hcmz, hcmo, d75, d57, d74, d47, d73, d37, d72, d27]
      refine hR _ _ _ ?_; clear hR R
      rw [seqX_nil]
      refine hK _ _ _ ?_; clear hK K
      exact m2 ((rvc 7 false 0 0 ⟨#[]⟩ nl nl)) _ hP (by simp [go_sem, hcz, hco, hcz', hco', d32, d23, d43, d34, d42, d24, hyz1, hyo, d54, d45, d53, d35, d52, d25, g2, g3, g4, g5, hcmz, hcmo, d75, d57, d74, d47, d73, d37, d72, d27]) (by simp [go_sem, hcz, hco, hcz', hco', d32, d23, d43, d34, d42, d24, hyz1, hyo, d54, d45, d53, d35, d52, d25, g2, g3, g4, g5, hcmz, hcmo, d75, d57, d74, d47, d73, d37, d72, d27]) (by simp [go_sem, hcz, hco, hcz', hco', d32, d23, d43, d34, d42, d24, hyz1, hyo, d54, d45, d53, d35, d52, d25, g2, g3, g4, g5, hcmz, hcmo, d75, d57, d74, d47, d73, d37, d72, d27]) (by simp [go_sem, hcz, hco, hcz', hco', d32, d23, d43, d34, d42, d24, hyz1, hyo, d54, d45, d53, d35, d52, d25, g2, g3, g4, g5, hcmz, hcmo, d75, d57, d74, d47, d73, d37, d72, d27]) (by simp [go_sem, hcz, hco, hcz', hco', d32, d23, d43, d34, d42, d24, hyz1, hyo, d54, d45, d53, d35, d52, d25, g2, g3, g4, g5, hcmz, hcmo, d75, d57, d74, d47, d73, d37, d72, d27]) (by rw [hat]; exact tabnil_is _)
  rcases hyz with ⟨rfl, hat⟩ | ⟨rfl, hat, rfl⟩
  · skip
    refine xc_iffalse (by simp [go_sem, hcz, hco, hcz', hco', d32, d23, d43, d34, d42, d24, hyz1, hyo, d54, d45, d53, d35, d52, d25]) ?_
    exact m1 (cy) _ hP (by simp [go_sem, hcz, hco, hcz', hco', d32, d23, d43, d34, d42, d24, hyz1, hyo, d54, d45, d53, d35, d52, d25]) (by simp [go_sem, hcz, hco, hcz', hco', d32, d23, d43, d34, d42, d24, hyz1, hyo, d54, d45, d53, d35, d52, d25]) (by simp [go_sem, hcz, hco, hcz', hco', d32, d23, d43, d34, d42, d24, hyz1, hyo, d54, d45, d53, d35, d52, d25]) (by simp [go_sem, hcz, hco, hcz', hco', d32, d23, d43, d34, d42, d24, hyz1, hyo, d54, d45, d53, d35, d52, d25]) (by rw [hat]; exact hy)
  · skip
    refine xc_iftrue (by simp [go_sem, hcz, hco, hcz', hco', d32, d23, d43, d34, d42, d24, hyz1, hyo, d54, d45, d53, d35, d52, d25]) ?_
    refine xc_reg1 2 rfl fun K hK => ?_
    simp only [show (List.range 2).map (·, true) = [(0, true), (1, true)] from rfl, rslv_cons, rslv_nil, List.getElem?_toArray, List.getElem?_cons_zero, List.getElem?_cons_succ, gres]
    (refine seqX_hide2 fun R hR => ?_; simp [go_sem, hcz, hco, hcz', hco', d32, d23, d43, d34, d42, d24, hyz1, hyo, d54, d45, d53, d35, d52, d25]; refine hR _ _ _ ?_; clear hR R)
    refine seqX_hide2 fun R hR => ?_
    simp [go_sem, hcz, hco, hcz', hco', d32, d23, d43, d34, d42, d24, hyz1, hyo, d54, d45, d53, d35, d52, d25]
    refine hR _ _ _ ?_; clear hR R
    rw [seqX_nil]
    refine hK _ _ _ ?_; clear hK K
    exact m1 ((rvc 7 false 0 0 ⟨#[]⟩ nl nl)) _ hP (by simp [go_sem, hcz, hco, hcz', hco', d32, d23, d43, d34, d42, d24, hyz1, hyo, d54, d45, d53, d35, d52, d25]) (by simp [go_sem, hcz, hco, hcz', hco', d32, d23, d43, d34, d42, d24, hyz1, hyo, d54, d45, d53, d35, d52, d25]) (by simp [go_sem, hcz, hco, hcz', hco', d32, d23, d43, d34, d42, d24, hyz1, hyo, d54, d45, d53, d35, d52, d25]) (by simp [go_sem, hcz, hco, hcz', hco', d32, d23, d43, d34, d42, d24, hyz1, hyo, d54, d45, d53, d35, d52, d25]) (by rw [hat]; exact tabnil_is _)
end Go.Proofs.YtogfpbnbojhpoaaV

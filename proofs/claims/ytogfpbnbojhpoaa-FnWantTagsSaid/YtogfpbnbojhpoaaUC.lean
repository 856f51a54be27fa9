/- Tables: spec.Without. -/
import Derived.Test.YtogfpbnbojhpoaaUB
namespace Go.Proofs.YtogfpbnbojhpoaaV
open Go.RowKit
set_option linter.unusedSimpArgs false
set_option linter.unusedVariables false
set_option maxRecDepth 20000 in
set_option maxHeartbeats 4000000 in
theorem without46 (A : View) (v : RV) (c : Array Value) (s : ByteArray) (hc : IsRV A v c) (hpl : Pl v) :
    VCalls Try.prog 46 #[.agg c, .string s] A fun r A' => ∃ c', r = .agg c' ∧ A ≤ A' ∧ IsRV A' (lessR v s) c' := by
  obtain ⟨k, b, i, f, t, keys, list⟩ := v
  have hcz := hc.size
  have hc0 := hc
  rw [IsRV] at hc0
  obtain ⟨ks, ls, rfl, hks, hkl, ⟨bl, cl, rfl⟩, hel⟩ := hc0
  obtain ⟨bk, ck, rfl⟩ := hks.slice
  obtain ⟨hlen, hSn⟩ := hpl
  refine xcalls Try.func46 rfl (by simp [Try.ntmps46]) ?_
  simp only [Try.f46]
  have hP : Priv A (addrs []) := Priv.nil A
  show xc _ _ _ _ _ _ (ov A [])
  refine xc_two fun N1 hN1 => ?_
  refine xc_reg1 2 rfl fun K hK => ?_
  simp only [show (List.range 2).map (·, true) = [(0, true), (1, true)] from rfl, rslv_cons, rslv_nil, List.getElem?_toArray, List.getElem?_cons_zero, List.getElem?_cons_succ, gres]
  refine seqX_hide2 fun R hR => ?_
  simp [go_sem]
  intro q2 hq2
  replace hP := hP.cons hq2
  clear hq2
  refine hR _ _ _ ?_; clear hR R
  refine seqX_hide2 fun R hR => ?_
  simp [go_sem]
  intro q4 hq4
  replace hP := hP.cons hq4
  clear hq4
  have d42 : q4 ≠ q2 := (hP.ne q2 (by simp [addrs])).1
  have d24 : q2 ≠ q4 := (hP.ne q2 (by simp [addrs])).2
  refine hR _ _ _ ?_; clear hR R
  rw [seqX_nil]
  refine hK _ _ _ ?_; clear hK K
  refine hN1 _ _ _ ?_
  refine xc_two fun N2 hN2 => ?_
  refine xc_reg1 3 rfl fun K hK => ?_
  simp only [show (List.range 3).map (·, true) = [(0, true), (1, true), (2, true)] from rfl, rslv_cons, rslv_nil, List.getElem?_toArray, List.getElem?_cons_zero, List.getElem?_cons_succ, gres]
  (refine seqX_hide2 fun R hR => ?_; simp [go_sem, d42, d24]; refine hR _ _ _ ?_; clear hR R)
  refine seqX_hide2 fun R hR => ?_
  simp [go_sem, d42, d24]
  intro q5 hq5
  replace hP := hP.cons hq5
  clear hq5
  have d54 : q5 ≠ q4 := (hP.ne q4 (by simp [addrs])).1
  have d45 : q4 ≠ q5 := (hP.ne q4 (by simp [addrs])).2
  have d52 : q5 ≠ q2 := (hP.ne q2 (by simp [addrs])).1
  have d25 : q2 ≠ q5 := (hP.ne q2 (by simp [addrs])).2
  refine hR _ _ _ ?_; clear hR R
  refine seqX_hide2 fun R hR => ?_
  simp [go_sem, d42, d24, d54, d45, d52, d25]
  refine hR _ _ _ ?_; clear hR R
  rw [seqX_nil]
  refine hK _ _ _ ?_; clear hK K
  refine hN2 _ _ _ ?_
  refine xc_two fun N3 hN3 => ?_
  refine xc_two fun N4 hN4 => ?_
  refine xc_reg1 4 rfl fun K hK => ?_
  simp only [show (List.range 4).map (·, true) = [(0, true), (1, true), (2, true), (3, true)] from rfl, rslv_cons, rslv_nil, List.getElem?_toArray, List.getElem?_cons_zero, List.getElem?_cons_succ, gres]
  iterate 4 (refine seqX_hide2 fun R hR => ?_; simp [go_sem, d42, d24, d54, d45, d52, d25]; refine hR _ _ _ ?_; clear hR R)
  rw [seqX_nil]
  refine hK _ _ _ ?_; clear hK K
  refine hN4 _ _ _ ?_
  rw [xc_block]
  rw [xc_loop]
  refine vloopK (fun k' e ds A' => ∃ (j : Nat) (D : View) (uk : Value) (uv : Value) (acc : KV) (vs : List Value), k' = keys.length - j ∧ ds = [] ∧ A' = ov D [(q5, .cells (rvc 7 false 0 0 ⟨#[]⟩ uk uv) 27 (0, 0)), (q4, .cells zc 27 (0, 0)), (q2, .cells (rvc k b i f t (.slice bk keys.length ck) (.slice bl list.length cl)) 27 (0, 0))] ∧ Priv D [q5, q4, q2] ∧ e 1 = .string s ∧ e 2 = .pointer (some ⟨q2, 0, none⟩) ∧ e 4 = .pointer (some ⟨q4, 0, none⟩) ∧ e 5 = .pointer (some ⟨q5, 0, none⟩) ∧ e 10 = .slice bk keys.length ck ∧ e 11 = .int .i64 keys.length ∧ e 12 = .int .i64 j ∧ (j ≤ keys.length) ∧ (A ≤ D) ∧ (Grow A D uk uv acc vs) ∧ (acc.length ≤ j) ∧ (acc ++ ((keys.zip list).drop j).filter (fun p => p.1 ≠ s) = (keys.zip list).filter (fun p => p.1 ≠ s))) _ ⟨0, A, nl, nl, [], [], rfl, rfl, rfl, hP, by simp [go_sem, d42, d24, d54, d45, d52, d25], by simp [go_sem, d42, d24, d54, d45, d52, d25], by simp [go_sem, d42, d24, d54, d45, d52, d25], by simp [go_sem, d42, d24, d54, d45, d52, d25], by simp [go_sem, d42, d24, d54, d45, d52, d25], by simp [go_sem, d42, d24, d54, d45, d52, d25], by simp [go_sem, d42, d24, d54, d45, d52, d25], by omega, View.le_refl _, Grow.nil _ _, Nat.zero_le _, by simp⟩ ?_
  clear hP
  rintro k' e ds _ ⟨j, D, uk, uv, acc, vs, rfl, rfl, rfl, hP, g1, g2, g4, g5, g10, g11, g12, hjl, hAD, hg, hac, hwk⟩ J1 X1 hJ1 hX1
  refine xc_sound _ ?_
  have hw1 := wrap_nat (i := j) (by omega)
  by_cases hj : j < keys.length
  · obtain ⟨a, cap, f1, u1⟩ := hks.at' hj
    simp only [Value.slice.injEq] at f1
    obtain ⟨rfl, -, rfl⟩ := f1
    have u0 := u1
    have u1 := le_cell hAD u1
    obtain ⟨a2, cap2, cj, f2, u2, hcj⟩ := hel j (by omega)
    simp only [Value.slice.injEq] at f2
    obtain ⟨rfl, -, rfl⟩ := f2
    have hj2 : j < list.length := by omega
    rw [List.drop_eq_getElem_cons (by rw [List.length_zip]; omega), List.getElem_zip] at hwk
    have hbs := bs_beq keys[j] s
    refine xc_two fun N5 hN5 => ?_
    refine xc_reg1 1 rfl fun K hK => ?_
    simp only [show (List.range 1).map (·, true) = [(0, true)] from rfl, rslv_cons, rslv_nil, List.getElem?_toArray, List.getElem?_cons_zero, List.getElem?_cons_succ, gres]
    (refine seqX_hide2 fun R hR => ?_; simp [go_sem, d42, d24, d54, d45, d52, d25, g1, g2, g4, g5, g10, g11, g12, hj, hj2, hw1, bc hP u1, hcj.size, hcj.ones]; refine hR _ _ _ ?_; clear hR R)
    rw [seqX_nil]
    refine hK _ _ _ ?_; clear hK K
    refine hN5 _ _ _ ?_
    refine xc_two fun N6 hN6 => ?_
    refine xc_iftrue (by simp [go_sem, d42, d24, d54, d45, d52, d25, g1, g2, g4, g5, g10, g11, g12, hj, hj2, hw1, bc hP u1, hcj.size, hcj.ones]) ?_
    refine hN6 _ _ _ ?_
    refine xc_two fun N7 hN7 => ?_
    rw [xc_block]
    refine xc_two fun N8 hN8 => ?_
    refine xc_reg1 5 rfl fun K hK => ?_
    simp only [show (List.range 5).map (·, true) = [(0, true), (1, true), (2, true), (3, true), (4, true)] from rfl, rslv_cons, rslv_nil, List.getElem?_toArray, List.getElem?_cons_zero, List.getElem?_cons_succ, gres]
    iterate 5 (refine seqX_hide2 fun R hR => ?_; simp [go_sem, d42, d24, d54, d45, d52, d25, g1, g2, g4, g5, g10, g11, g12, hj, hj2, hw1, bc hP u1, hcj.size, hcj.ones]; refine hR _ _ _ ?_; clear hR R)
    rw [seqX_nil]
    refine hK _ _ _ ?_; clear hK K
    refine hN8 _ _ _ ?_
    refine xc_two fun N9 hN9 => ?_
    by_cases hks : keys[j] = s
    · rw [decide_eq_true hks] at hbs
      rw [List.filter_cons_of_neg (by simp [hks])] at hwk
      refine xc_reg1 3 rfl fun K hK => ?_
      simp only [show (List.range 3).map (·, true) = [(0, true), (1, true), (2, true)] from rfl, rslv_cons, rslv_nil, List.getElem?_toArray, List.getElem?_cons_zero, List.getElem?_cons_succ, gres]
      iterate 3 (refine seqX_hide2 fun R hR => ?_; simp [go_sem, d42, d24, d54, d45, d52, d25, g1, g2, g4, g5, g10, g11, g12, hj, hj2, hw1, bc hP u1, hcj.size, hcj.ones, hbs]; refine hR _ _ _ ?_; clear hR R)
      rw [seqX_nil]
      refine hK _ _ _ ?_; clear hK K
      refine hN9 _ _ _ ?_
      refine xc_iffalse (by simp [go_sem, d42, d24, d54, d45, d52, d25, g1, g2, g4, g5, g10, g11, g12, hj, hj2, hw1, bc hP u1, hcj.size, hcj.ones]) ?_
      refine hN7 _ _ _ ?_
      refine xc_reg1 2 rfl fun K hK => ?_
      simp only [show (List.range 2).map (·, true) = [(0, true), (1, true)] from rfl, rslv_cons, rslv_nil, List.getElem?_toArray, List.getElem?_cons_zero, List.getElem?_cons_succ, gres]
      iterate 2 (refine seqX_hide2 fun R hR => ?_; simp [go_sem, d42, d24, d54, d45, d52, d25, g1, g2, g4, g5, g10, g11, g12, hj, hj2, hw1, bc hP u1, hcj.size, hcj.ones]; refine hR _ _ _ ?_; clear hR R)
      rw [seqX_nil]
      refine hK _ _ _ ?_; clear hK K
      refine hJ1 (keys.length - (j + 1)) _ _ _ (by omega) ⟨j + 1, D, uk, uv, acc, vs, rfl, rfl, rfl, hP, by simp [go_sem, d42, d24, d54, d45, d52, d25, g1, g2, g4, g5, g10, g11, g12, hj, hj2, hw1, bc hP u1, hcj.size, hcj.ones], by simp [go_sem, d42, d24, d54, d45, d52, d25, g1, g2, g4, g5, g10, g11, g12, hj, hj2, hw1, bc hP u1, hcj.size, hcj.ones], by simp [go_sem, d42, d24, d54, d45, d52, d25, g1, g2, g4, g5, g10, g11, g12, hj, hj2, hw1, bc hP u1, hcj.size, hcj.ones], by simp [go_sem, d42, d24, d54, d45, d52, d25, g1, g2, g4, g5, g10, g11, g12, hj, hj2, hw1, bc hP u1, hcj.size, hcj.ones], by simp [go_sem, d42, d24, d54, d45, d52, d25, g1, g2, g4, g5, g10, g11, g12, hj, hj2, hw1, bc hP u1, hcj.size, hcj.ones], by simp [go_sem, d42, d24, d54, d45, d52, d25, g1, g2, g4, g5, g10, g11, g12, hj, hj2, hw1, bc hP u1, hcj.size, hcj.ones], by simp [go_sem, d42, d24, d54, d45, d52, d25, g1, g2, g4, g5, g10, g11, g12, hj, hj2, hw1, bc hP u1, hcj.size, hcj.ones], by omega, hAD, hg, by omega, hwk⟩
    · rw [decide_eq_false hks] at hbs
      rw [List.filter_cons_of_pos (by simp [hks])] at hwk
      refine xc_reg1 3 rfl fun K hK => ?_
      simp only [show (List.range 3).map (·, true) = [(0, true), (1, true), (2, true)] from rfl, rslv_cons, rslv_nil, List.getElem?_toArray, List.getElem?_cons_zero, List.getElem?_cons_succ, gres]
      iterate 3 (refine seqX_hide2 fun R hR => ?_; simp [go_sem, d42, d24, d54, d45, d52, d25, g1, g2, g4, g5, g10, g11, g12, hj, hj2, hw1, bc hP u1, hcj.size, hcj.ones, hbs]; refine hR _ _ _ ?_; clear hR R)
      rw [seqX_nil]
      refine hK _ _ _ ?_; clear hK K
      refine hN9 _ _ _ ?_
      have hPA := hP.sub hAD
      refine xc_iftrue (by simp [go_sem, d42, d24, d54, d45, d52, d25, g1, g2, g4, g5, g10, g11, g12, hj, hj2, hw1, hcj.size, hcj.ones, bcs hPA u2]) ?_
      rw [xc_draws]
      refine vdrawK [(0, true), (1, true), (2, true), (3, true), (4, true), (5, true), (6, true), (7, true), (8, true), (9, true), (10, true), (11, true), (12, true), (13, false), (14, true), (15, false), (16, true), (17, false)] (ov A [(q5, .cells (rvc 7 false 0 0 ⟨#[]⟩ uk uv) 27 (0, 0)), (q4, .cells zc 27 (0, 0)), (q2, .cells (rvc k b i f t (.slice (some a) keys.length ck) (.slice (some a2) list.length cl)) 27 (0, 0))]) mixed (by kernel_rfl) (ov_mono hAD) fun K hK => ?_
      simp only [rslv_cons, rslv_nil, List.getElem?_toArray, List.getElem?_cons_zero, List.getElem?_cons_succ, gres]
      iterate 3 (refine seqR_hide fun R hR => ?_; simp [go_sem, d42, d24, d54, d45, d52, d25, g1, g2, g4, g5, g10, g11, g12, hj, hj2, hw1, hcj.size, hcj.ones, bcs hPA u2]; refine hR _ _ _ ?_; clear hR R)
      refine seqR_hide fun R hR => ?_
      simp [go_sem, d42, d24, d54, d45, d52, d25, g1, g2, g4, g5, g10, g11, g12, hj, hj2, hw1, hcj.size, hcj.ones, bcs hPA u2]
      intro q23 hq23
      replace hP := hP.cons hq23
      clear hq23
      have d235 : q23 ≠ q5 := (hP.ne q5 (by simp [addrs])).1
      have d523 : q5 ≠ q23 := (hP.ne q5 (by simp [addrs])).2
      have d234 : q23 ≠ q4 := (hP.ne q4 (by simp [addrs])).1
      have d423 : q4 ≠ q23 := (hP.ne q4 (by simp [addrs])).2
      have d232 : q23 ≠ q2 := (hP.ne q2 (by simp [addrs])).1
      have d223 : q2 ≠ q23 := (hP.ne q2 (by simp [addrs])).2
      refine hR _ _ _ ?_; clear hR R
      refine seqR_hide fun R hR => ?_
      simp [go_sem, d42, d24, d54, d45, d52, d25, g1, g2, g4, g5, g10, g11, g12, hj, hj2, hw1, hcj.size, hcj.ones, bcs hPA u2, d235, d523, d234, d423, d232, d223]
      refine app_text (s := keys[j]) hP hg.keys hAD (by simp [appended, View.cells?, go_sem]) rfl (by omega) ?_
      clear hP
      rintro v1 D1 hA1 k1 e1 hP
      obtain ⟨k2, a1⟩ := hg.side e1
      refine ⟨push_le hP (ov_mono hA1), hR _ _ _ ?_⟩; clear hR R
      iterate 7 (refine seqR_hide fun R hR => ?_; simp [go_sem, d42, d24, d54, d45, d52, d25, g1, g2, g4, g5, g10, g11, g12, hj, hj2, hw1, hcj.size, hcj.ones, bcs hPA u2, d235, d523, d234, d423, d232, d223]; refine hR _ _ _ ?_; clear hR R)
      refine seqR_hide fun R hR => ?_
      simp [go_sem, d42, d24, d54, d45, d52, d25, g1, g2, g4, g5, g10, g11, g12, hj, hj2, hw1, hcj.size, hcj.ones, bcs hPA u2, d235, d523, d234, d423, d232, d223]
      intro q32 hq32
      replace hP := hP.cons hq32
      clear hq32
      have d3223 : q32 ≠ q23 := (hP.ne q23 (by simp [addrs])).1
      have d2332 : q23 ≠ q32 := (hP.ne q23 (by simp [addrs])).2
      have d325 : q32 ≠ q5 := (hP.ne q5 (by simp [addrs])).1
      have d532 : q5 ≠ q32 := (hP.ne q5 (by simp [addrs])).2
      have d324 : q32 ≠ q4 := (hP.ne q4 (by simp [addrs])).1
      have d432 : q4 ≠ q32 := (hP.ne q4 (by simp [addrs])).2
      have d322 : q32 ≠ q2 := (hP.ne q2 (by simp [addrs])).1
      have d232 : q2 ≠ q32 := (hP.ne q2 (by simp [addrs])).2
      refine hR _ _ _ ?_; clear hR R
      refine seqR_hide fun R hR => ?_
      simp [go_sem, d42, d24, d54, d45, d52, d25, g1, g2, g4, g5, g10, g11, g12, hj, hj2, hw1, hcj.size, hcj.ones, bcs hPA u2, d235, d523, d234, d423, d232, d223, d3223, d2332, d325, d532, d324, d432, d322, d232]
      refine app_val hP k2 hA1 (by simp [appended, go_sem, hcj.size]) hcj rfl (by omega) ?_
      clear hP
      rintro v2 D2 hA2 k3 e2 hP
      have hg2 := hg.push hcj k1 a1 k3 e2
      obtain ⟨⟨y1, z1, rfl⟩, ⟨y2, z2, rfl⟩⟩ := hg2.slices1
      refine hR _ _ _ ?_; clear hR R
      (refine seqR_hide fun R hR => ?_; simp [go_sem, d42, d24, d54, d45, d52, d25, g1, g2, g4, g5, g10, g11, g12, hj, hj2, hw1, hcj.size, hcj.ones, bcs hPA u2, d235, d523, d234, d423, d232, d223, d3223, d2332, d325, d532, d324, d432, d322, d232]; refine hR _ _ _ ?_; clear hR R)
      refine seqR_hide fun R hR => ?_
      simp [go_sem, d42, d24, d54, d45, d52, d25, g1, g2, g4, g5, g10, g11, g12, hj, hj2, hw1, hcj.size, hcj.ones, bcs hPA u2, d235, d523, d234, d423, d232, d223, d3223, d2332, d325, d532, d324, d432, d322, d232]
      refine hR _ _ _ ?_; clear hR R
      (refine seqR_hide fun R hR => ?_; simp [go_sem, d42, d24, d54, d45, d52, d25, g1, g2, g4, g5, g10, g11, g12, hj, hj2, hw1, hcj.size, hcj.ones, bcs hPA u2, d235, d523, d234, d423, d232, d223, d3223, d2332, d325, d532, d324, d432, d322, d232]; refine hR _ _ _ ?_; clear hR R)
      refine seqR_hide fun R hR => ?_
      simp [go_sem, d42, d24, d54, d45, d52, d25, g1, g2, g4, g5, g10, g11, g12, hj, hj2, hw1, hcj.size, hcj.ones, bcs hPA u2, d235, d523, d234, d423, d232, d223, d3223, d2332, d325, d532, d324, d432, d322, d232]
      refine hR _ _ _ ?_; clear hR R
      rw [seqR_nil]
      refine hK _ _ _ ?_; clear hK K
      refine hN7 _ _ _ ?_
      refine xc_reg1 2 rfl fun K hK => ?_
      simp only [show (List.range 2).map (·, true) = [(0, true), (1, true)] from rfl, rslv_cons, rslv_nil, List.getElem?_toArray, List.getElem?_cons_zero, List.getElem?_cons_succ, gres]
      iterate 2 (refine seqX_hide2 fun R hR => ?_; simp [go_sem, d42, d24, d54, d45, d52, d25, g1, g2, g4, g5, g10, g11, g12, hj, hj2, hw1, hcj.size, hcj.ones, bcs hPA u2, d235, d523, d234, d423, d232, d223, d3223, d2332, d325, d532, d324, d432, d322, d232]; refine hR _ _ _ ?_; clear hR R)
      rw [seqX_nil]
      refine hK _ _ _ ?_; clear hK K
      refine sink_goal 0 hP rfl fun hPn lq32 nq32 => ?_
      clear hP; have hP := hPn; clear hPn
      simp only [List.eraseIdx_cons_zero, List.eraseIdx_cons_succ, addrs_cons, addrs_nil] at hP ⊢
      refine sink_goal 0 hP rfl fun hPn lq23 nq23 => ?_
      clear hP; have hP := hPn; clear hPn
      simp only [List.eraseIdx_cons_zero, List.eraseIdx_cons_succ, addrs_cons, addrs_nil] at hP ⊢
      have hle2 := View.le_trans lq32 lq23
      refine hJ1 (keys.length - (j + 1)) _ _ _ (by omega) ⟨j + 1, _, _, _, acc ++ [(keys[j], list[j])], vs ++ cj.toList, rfl, rfl, rfl, hP, by simp [go_sem, d42, d24, d54, d45, d52, d25, g1, g2, g4, g5, g10, g11, g12, hj, hj2, hw1, hcj.size, hcj.ones, bcs hPA u2, d235, d523, d234, d423, d232, d223, d3223, d2332, d325, d532, d324, d432, d322, d232], by simp [go_sem, d42, d24, d54, d45, d52, d25, g1, g2, g4, g5, g10, g11, g12, hj, hj2, hw1, hcj.size, hcj.ones, bcs hPA u2, d235, d523, d234, d423, d232, d223, d3223, d2332, d325, d532, d324, d432, d322, d232], by simp [go_sem, d42, d24, d54, d45, d52, d25, g1, g2, g4, g5, g10, g11, g12, hj, hj2, hw1, hcj.size, hcj.ones, bcs hPA u2, d235, d523, d234, d423, d232, d223, d3223, d2332, d325, d532, d324, d432, d322, d232], by simp [go_sem, d42, d24, d54, d45, d52, d25, g1, g2, g4, g5, g10, g11, g12, hj, hj2, hw1, hcj.size, hcj.ones, bcs hPA u2, d235, d523, d234, d423, d232, d223, d3223, d2332, d325, d532, d324, d432, d322, d232], by simp [go_sem, d42, d24, d54, d45, d52, d25, g1, g2, g4, g5, g10, g11, g12, hj, hj2, hw1, hcj.size, hcj.ones, bcs hPA u2, d235, d523, d234, d423, d232, d223, d3223, d2332, d325, d532, d324, d432, d322, d232], by simp [go_sem, d42, d24, d54, d45, d52, d25, g1, g2, g4, g5, g10, g11, g12, hj, hj2, hw1, hcj.size, hcj.ones, bcs hPA u2, d235, d523, d234, d423, d232, d223, d3223, d2332, d325, d532, d324, d432, d322, d232], by simp [go_sem, d42, d24, d54, d45, d52, d25, g1, g2, g4, g5, g10, g11, g12, hj, hj2, hw1, hcj.size, hcj.ones, bcs hPA u2, d235, d523, d234, d423, d232, d223, d3223, d2332, d325, d532, d324, d432, d322, d232], by omega, View.le_trans hA2 hle2, hg2.le hle2, by simp; omega, by simpa using hwk⟩
  · rw [List.drop_of_length_le (by rw [List.length_zip]; omega), List.filter_nil, List.append_nil] at hwk
    obtain ⟨⟨y1, z1, rfl⟩, ⟨y2, z2, rfl⟩⟩ := hg.slices
    refine xc_two fun N5 hN5 => ?_
    refine xc_reg1 1 rfl fun K hK => ?_
    simp only [show (List.range 1).map (·, true) = [(0, true)] from rfl, rslv_cons, rslv_nil, List.getElem?_toArray, List.getElem?_cons_zero, List.getElem?_cons_succ, gres]
    (refine seqX_hide2 fun R hR => ?_; simp [go_sem, d42, d24, d54, d45, d52, d25, g1, g2, g4, g5, g10, g11, g12, hj]; refine hR _ _ _ ?_; clear hR R)
    rw [seqX_nil]
    refine hK _ _ _ ?_; clear hK K
    refine hN5 _ _ _ ?_
    refine xc_two fun N6 hN6 => ?_
    refine xc_iffalse (by simp [go_sem, d42, d24, d54, d45, d52, d25, g1, g2, g4, g5, g10, g11, g12]) ?_
    refine hX1 _ _ _ _ ?_
    refine hN3 _ _ _ ?_
    refine xc_two fun N7 hN7 => ?_
    refine xc_reg1 2 rfl fun K hK => ?_
    simp only [show (List.range 2).map (·, true) = [(0, true), (1, true)] from rfl, rslv_cons, rslv_nil, List.getElem?_toArray, List.getElem?_cons_zero, List.getElem?_cons_succ, gres]
    (refine seqX_hide2 fun R hR => ?_; simp [go_sem, d42, d24, d54, d45, d52, d25, g1, g2, g4, g5, g10, g11, g12]; refine hR _ _ _ ?_; clear hR R)
    refine seqX_hide2 fun R hR => ?_
    simp [go_sem, d42, d24, d54, d45, d52, d25, g1, g2, g4, g5, g10, g11, g12]
    refine hR _ _ _ ?_; clear hR R
    rw [seqX_nil]
    refine hK _ _ _ ?_; clear hK K
    refine hN7 _ _ _ ?_
    simp [go_sem, d42, d24, d54, d45, d52, d25, g1, g2, g4, g5, g10, g11, g12]
    subst hwk
    refine ⟨View.le_trans hAD ?_, (hg.isRV hAD (by omega) 7 false 0 0 ⟨#[]⟩).le ?_⟩
    · exact le_ov hP
    · exact le_ov hP
end Go.Proofs.YtogfpbnbojhpoaaV

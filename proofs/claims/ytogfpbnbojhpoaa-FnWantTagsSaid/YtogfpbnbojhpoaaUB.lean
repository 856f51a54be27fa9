/- Tables: spec.With. -/
import Derived.Test.YtogfpbnbojhpoaaUA
namespace Go.Proofs.YtogfpbnbojhpoaaV
open Go.RowKit
set_option linter.unusedSimpArgs false
set_option linter.unusedVariables false
set_option maxRecDepth 20000 in
set_option maxHeartbeats 4000000 in
theorem with45 (A : View) (v w : RV) (c cw : Array Value) (s : ByteArray) (hc : IsRV A v c) (hw : IsRV A w cw) (hpl : Pl v) :
    VCalls Try.prog 45 #[.agg c, .string s, .agg cw] A fun r A' => ∃ c', r = .agg c' ∧ A ≤ A' ∧ IsRV A' (withR v s w) c' := by
  obtain ⟨k, b, i, f, t, keys, list⟩ := v
  have hcz := hc.size
  have hwz := hw.size
  have hwo := hw.ones
  have hc0 := hc
  rw [IsRV] at hc0
  obtain ⟨ks, ls, rfl, hks, hkl, ⟨bl, cl, rfl⟩, hel⟩ := hc0
  obtain ⟨bk, ck, rfl⟩ := hks.slice
  obtain ⟨hlen, hSn⟩ := hpl
  refine xcalls Try.func45 rfl (by simp [Try.ntmps45]) ?_
  simp only [Try.f45]
  have hP : Priv A (addrs []) := Priv.nil A
  show xc _ _ _ _ _ _ (ov A [])
  refine xc_two fun N1 hN1 => ?_
  refine xc_reg1 3 rfl fun K hK => ?_
  simp only [show (List.range 3).map (·, true) = [(0, true), (1, true), (2, true)] from rfl, rslv_cons, rslv_nil, List.getElem?_toArray, List.getElem?_cons_zero, List.getElem?_cons_succ, gres]
  refine seqX_hide2 fun R hR => ?_
  simp [go_sem, hwz, hwo]
  intro q3 hq3
  replace hP := hP.cons hq3
  clear hq3
  refine hR _ _ _ ?_; clear hR R
  refine seqX_hide2 fun R hR => ?_
  simp [go_sem, hwz, hwo]
  intro q5 hq5
  replace hP := hP.cons hq5
  clear hq5
  have d53 : q5 ≠ q3 := (hP.ne q3 (by simp [addrs])).1
  have d35 : q3 ≠ q5 := (hP.ne q3 (by simp [addrs])).2
  refine hR _ _ _ ?_; clear hR R
  refine seqX_hide2 fun R hR => ?_
  simp [go_sem, hwz, hwo, d53, d35]
  intro q6 hq6
  replace hP := hP.cons hq6
  clear hq6
  have d65 : q6 ≠ q5 := (hP.ne q5 (by simp [addrs])).1
  have d56 : q5 ≠ q6 := (hP.ne q5 (by simp [addrs])).2
  have d63 : q6 ≠ q3 := (hP.ne q3 (by simp [addrs])).1
  have d36 : q3 ≠ q6 := (hP.ne q3 (by simp [addrs])).2
  refine hR _ _ _ ?_; clear hR R
  rw [seqX_nil]
  refine hK _ _ _ ?_; clear hK K
  refine hN1 _ _ _ ?_
  refine xc_two fun N2 hN2 => ?_
  refine xc_reg1 3 rfl fun K hK => ?_
  simp only [show (List.range 3).map (·, true) = [(0, true), (1, true), (2, true)] from rfl, rslv_cons, rslv_nil, List.getElem?_toArray, List.getElem?_cons_zero, List.getElem?_cons_succ, gres]
  (refine seqX_hide2 fun R hR => ?_; simp [go_sem, hwz, hwo, d53, d35, d65, d56, d63, d36]; refine hR _ _ _ ?_; clear hR R)
  refine seqX_hide2 fun R hR => ?_
  simp [go_sem, hwz, hwo, d53, d35, d65, d56, d63, d36]
  intro q7 hq7
  replace hP := hP.cons hq7
  clear hq7
  have d76 : q7 ≠ q6 := (hP.ne q6 (by simp [addrs])).1
  have d67 : q6 ≠ q7 := (hP.ne q6 (by simp [addrs])).2
  have d75 : q7 ≠ q5 := (hP.ne q5 (by simp [addrs])).1
  have d57 : q5 ≠ q7 := (hP.ne q5 (by simp [addrs])).2
  have d73 : q7 ≠ q3 := (hP.ne q3 (by simp [addrs])).1
  have d37 : q3 ≠ q7 := (hP.ne q3 (by simp [addrs])).2
  refine hR _ _ _ ?_; clear hR R
  refine seqX_hide2 fun R hR => ?_
  simp [go_sem, hwz, hwo, d53, d35, d65, d56, d63, d36, d76, d67, d75, d57, d73, d37]
  refine hR _ _ _ ?_; clear hR R
  rw [seqX_nil]
  refine hK _ _ _ ?_; clear hK K
  refine hN2 _ _ _ ?_
  refine xc_two fun N3 hN3 => ?_
  refine xc_reg1 1 rfl fun K hK => ?_
  simp only [show (List.range 1).map (·, true) = [(0, true)] from rfl, rslv_cons, rslv_nil, List.getElem?_toArray, List.getElem?_cons_zero, List.getElem?_cons_succ, gres]
  (refine seqX_hide2 fun R hR => ?_; simp [go_sem, hwz, hwo, d53, d35, d65, d56, d63, d36, d76, d67, d75, d57, d73, d37]; refine hR _ _ _ ?_; clear hR R)
  rw [seqX_nil]
  refine hK _ _ _ ?_; clear hK K
  refine hN3 _ _ _ ?_
  refine xc_two fun N4 hN4 => ?_
  refine xc_two fun N5 hN5 => ?_
  refine xc_reg1 4 rfl fun K hK => ?_
  simp only [show (List.range 4).map (·, true) = [(0, true), (1, true), (2, true), (3, true)] from rfl, rslv_cons, rslv_nil, List.getElem?_toArray, List.getElem?_cons_zero, List.getElem?_cons_succ, gres]
  iterate 4 (refine seqX_hide2 fun R hR => ?_; simp [go_sem, hwz, hwo, d53, d35, d65, d56, d63, d36, d76, d67, d75, d57, d73, d37]; refine hR _ _ _ ?_; clear hR R)
  rw [seqX_nil]
  refine hK _ _ _ ?_; clear hK K
  refine hN5 _ _ _ ?_
  rw [xc_block]
  rw [xc_loop]
  refine vloopK (fun k' e ds A' => ∃ (j : Nat) (D : View) (uk : Value) (uv : Value) (acc : KV) (vs : List Value) (d : Bool), k' = keys.length - j ∧ ds = [] ∧ A' = ov D [(q7, .cells (rvc 7 false 0 0 ⟨#[]⟩ uk uv) 27 (0, 0)), (q6, .cells zc 27 (0, 0)), (q5, .cells cw 27 (0, 0)), (q3, .cells (rvc k b i f t (.slice bk keys.length ck) (.slice bl list.length cl)) 27 (0, 0))] ∧ Priv D [q7, q6, q5, q3] ∧ e 1 = .string s ∧ e 3 = .pointer (some ⟨q3, 0, none⟩) ∧ e 5 = .pointer (some ⟨q5, 0, none⟩) ∧ e 6 = .pointer (some ⟨q6, 0, none⟩) ∧ e 7 = .pointer (some ⟨q7, 0, none⟩) ∧ e 8 = .bool d ∧ e 13 = .slice bk keys.length ck ∧ e 14 = .int .i64 keys.length ∧ e 15 = .int .i64 j ∧ (j ≤ keys.length) ∧ (A ≤ D) ∧ (Grow A D uk uv acc vs) ∧ (acc.length ≤ 2 * j) ∧ (acc ++ wgo s w d ((keys.zip list).drop j) = wgo s w false (keys.zip list))) _ ⟨0, A, nl, nl, [], [], false, rfl, rfl, rfl, hP, by simp [go_sem, hwz, hwo, d53, d35, d65, d56, d63, d36, d76, d67, d75, d57, d73, d37], by simp [go_sem, hwz, hwo, d53, d35, d65, d56, d63, d36, d76, d67, d75, d57, d73, d37], by simp [go_sem, hwz, hwo, d53, d35, d65, d56, d63, d36, d76, d67, d75, d57, d73, d37], by simp [go_sem, hwz, hwo, d53, d35, d65, d56, d63, d36, d76, d67, d75, d57, d73, d37], by simp [go_sem, hwz, hwo, d53, d35, d65, d56, d63, d36, d76, d67, d75, d57, d73, d37], by simp [go_sem, hwz, hwo, d53, d35, d65, d56, d63, d36, d76, d67, d75, d57, d73, d37], by simp [go_sem, hwz, hwo, d53, d35, d65, d56, d63, d36, d76, d67, d75, d57, d73, d37], by simp [go_sem, hwz, hwo, d53, d35, d65, d56, d63, d36, d76, d67, d75, d57, d73, d37], by simp [go_sem, hwz, hwo, d53, d35, d65, d56, d63, d36, d76, d67, d75, d57, d73, d37], by omega, View.le_refl _, Grow.nil _ _, Nat.zero_le _, by simp⟩ ?_
  clear hP
  rintro k' e ds _ ⟨j, D, uk, uv, acc, vs, d, rfl, rfl, rfl, hP, g1, g3, g5, g6, g7, g8, g13, g14, g15, hjl, hAD, hg, hac, hwk⟩ J1 X1 hJ1 hX1
  refine xc_sound _ ?_
  have hw1 := wrap_nat (i := j) (by omega)
  by_cases hj : j < keys.length
  · obtain ⟨a, cap, f1, u1⟩ := hks.at' hj
    simp only [Value.slice.injEq] at f1
    obtain ⟨rfl, -, rfl⟩ := f1
    have u0 := u1
    have u1 := le_cell hAD u1
    obtain ⟨a2, cap2, cj, f2, u2', hcj⟩ := hel j (by omega)
    simp only [Value.slice.injEq] at f2
    obtain ⟨rfl, -, rfl⟩ := f2
    have u0' := u2'
    have u2' := le_cells hAD _ _ _ u2'
    have hj2 : j < list.length := by omega
    rw [List.drop_eq_getElem_cons (by rw [List.length_zip]; omega), List.getElem_zip, wgo] at hwk
    have hel2 := hel j (by omega)
    refine xc_two fun N6 hN6 => ?_
    refine xc_reg1 1 rfl fun K hK => ?_
    simp only [show (List.range 1).map (·, true) = [(0, true)] from rfl, rslv_cons, rslv_nil, List.getElem?_toArray, List.getElem?_cons_zero, List.getElem?_cons_succ, gres]
    (refine seqX_hide2 fun R hR => ?_; simp [go_sem, hwz, hwo, d53, d35, d65, d56, d63, d36, d76, d67, d75, d57, d73, d37, g1, g3, g5, g6, g7, g8, g13, g14, g15, hj, hj2, hw1, bc hP u1, bcs hP u2']; refine hR _ _ _ ?_; clear hR R)
    rw [seqX_nil]
    refine hK _ _ _ ?_; clear hK K
    refine hN6 _ _ _ ?_
    refine xc_two fun N7 hN7 => ?_
    refine xc_iftrue (by simp [go_sem, hwz, hwo, d53, d35, d65, d56, d63, d36, d76, d67, d75, d57, d73, d37, g1, g3, g5, g6, g7, g8, g13, g14, g15, hj, hj2, hw1, bc hP u1, bcs hP u2']) ?_
    refine hN7 _ _ _ ?_
    refine xc_two fun N8 hN8 => ?_
    rw [xc_block]
    refine xc_two fun N9 hN9 => ?_
    refine xc_reg1 5 rfl fun K hK => ?_
    simp only [show (List.range 5).map (·, true) = [(0, true), (1, true), (2, true), (3, true), (4, true)] from rfl, rslv_cons, rslv_nil, List.getElem?_toArray, List.getElem?_cons_zero, List.getElem?_cons_succ, gres]
    iterate 5 (refine seqX_hide2 fun R hR => ?_; simp [go_sem, hwz, hwo, d53, d35, d65, d56, d63, d36, d76, d67, d75, d57, d73, d37, g1, g3, g5, g6, g7, g8, g13, g14, g15, hj, hj2, hw1, bc hP u1, bcs hP u2']; refine hR _ _ _ ?_; clear hR R)
    rw [seqX_nil]
    refine hK _ _ _ ?_; clear hK K
    refine hN9 _ _ _ ?_
    refine xc_two fun N10 hN10 => ?_
    refine xc_two fun N11 hN11 => ?_
    have tail : ∀ (D' : View) (uk' : Value) (uv' : Value) (acc' : KV) (vs' : List Value) (d' : Bool) (e : Env), Priv D' [q7, q6, q5, q3] → e 1 = .string s → e 3 = .pointer (some ⟨q3, 0, none⟩) → e 5 = .pointer (some ⟨q5, 0, none⟩) → e 6 = .pointer (some ⟨q6, 0, none⟩) → e 7 = .pointer (some ⟨q7, 0, none⟩) → e 8 = .bool d' → e 9 = .int .i64 j → e 10 = .string keys[j] → e 13 = .slice (some a) keys.length ck → e 14 = .int .i64 keys.length → e 15 = .int .i64 j → (A ≤ D') → (Grow A D' uk' uv' acc' vs') → (acc'.length ≤ 2 * j + 1) → (acc' ++ ((if keys[j] = s then [] else [(keys[j], list[j])]) ++ wgo s w d' ((keys.zip list).drop (j + 1))) = wgo s w false (keys.zip list)) → N10 e [] (ov D' [(q7, .cells (rvc 7 false 0 0 ⟨#[]⟩ uk' uv') 27 (0, 0)), (q6, .cells zc 27 (0, 0)), (q5, .cells cw 27 (0, 0)), (q3, .cells (rvc k b i f t (.slice (some a) keys.length ck) (.slice (some a2) list.length cl)) 27 (0, 0))]) := by
      clear g1 g3 g5 g6 g7 g8 g13 g14 g15
      clear hP
      intro D' uk' uv' acc' vs' d' e hP g1 g3 g5 g6 g7 g8 g9 g10 g13 g14 g15 hAD' hg' hac' hwk'
      refine hN10 _ _ _ ?_
      have x1 := le_cell (show A ≤ D' from hAD') u0
      have x2 := le_cells hAD' _ _ _ u0'
      have hbs := bs_beq keys[j] s
      by_cases hks : keys[j] = s
      · rw [decide_eq_true hks] at hbs
        rw [if_pos hks] at hwk'
        refine xc_two fun N12 hN12 => ?_
        refine xc_reg1 3 rfl fun K hK => ?_
        simp only [show (List.range 3).map (·, true) = [(0, true), (1, true), (2, true)] from rfl, rslv_cons, rslv_nil, List.getElem?_toArray, List.getElem?_cons_zero, List.getElem?_cons_succ, gres]
        iterate 3 (refine seqX_hide2 fun R hR => ?_; simp [go_sem, hwz, hwo, d53, d35, d65, d56, d63, d36, d76, d67, d75, d57, d73, d37, hj, hj2, hw1, g1, g3, g5, g6, g7, g8, g9, g10, g13, g14, g15, bc hP x1, bcs hP x2, hbs]; refine hR _ _ _ ?_; clear hR R)
        rw [seqX_nil]
        refine hK _ _ _ ?_; clear hK K
        refine hN12 _ _ _ ?_
        refine xc_iffalse (by simp [go_sem, hwz, hwo, d53, d35, d65, d56, d63, d36, d76, d67, d75, d57, d73, d37, hj, hj2, hw1, g1, g3, g5, g6, g7, g8, g9, g10, g13, g14, g15, bc hP x1, bcs hP x2]) ?_
        refine hN8 _ _ _ ?_
        refine xc_reg1 2 rfl fun K hK => ?_
        simp only [show (List.range 2).map (·, true) = [(0, true), (1, true)] from rfl, rslv_cons, rslv_nil, List.getElem?_toArray, List.getElem?_cons_zero, List.getElem?_cons_succ, gres]
        iterate 2 (refine seqX_hide2 fun R hR => ?_; simp [go_sem, hwz, hwo, d53, d35, d65, d56, d63, d36, d76, d67, d75, d57, d73, d37, hj, hj2, hw1, g1, g3, g5, g6, g7, g8, g9, g10, g13, g14, g15, bc hP x1, bcs hP x2]; refine hR _ _ _ ?_; clear hR R)
        rw [seqX_nil]
        refine hK _ _ _ ?_; clear hK K
        refine hJ1 (keys.length - (j + 1)) _ _ _ (by omega) ⟨j + 1, D', uk', uv', acc', vs', d', rfl, rfl, rfl, hP, by simp [go_sem, hwz, hwo, d53, d35, d65, d56, d63, d36, d76, d67, d75, d57, d73, d37, hj, hj2, hw1, g1, g3, g5, g6, g7, g8, g9, g10, g13, g14, g15, bc hP x1, bcs hP x2], by simp [go_sem, hwz, hwo, d53, d35, d65, d56, d63, d36, d76, d67, d75, d57, d73, d37, hj, hj2, hw1, g1, g3, g5, g6, g7, g8, g9, g10, g13, g14, g15, bc hP x1, bcs hP x2], by simp [go_sem, hwz, hwo, d53, d35, d65, d56, d63, d36, d76, d67, d75, d57, d73, d37, hj, hj2, hw1, g1, g3, g5, g6, g7, g8, g9, g10, g13, g14, g15, bc hP x1, bcs hP x2], by simp [go_sem, hwz, hwo, d53, d35, d65, d56, d63, d36, d76, d67, d75, d57, d73, d37, hj, hj2, hw1, g1, g3, g5, g6, g7, g8, g9, g10, g13, g14, g15, bc hP x1, bcs hP x2], by simp [go_sem, hwz, hwo, d53, d35, d65, d56, d63, d36, d76, d67, d75, d57, d73, d37, hj, hj2, hw1, g1, g3, g5, g6, g7, g8, g9, g10, g13, g14, g15, bc hP x1, bcs hP x2], by simp [go_sem, hwz, hwo, d53, d35, d65, d56, d63, d36, d76, d67, d75, d57, d73, d37, hj, hj2, hw1, g1, g3, g5, g6, g7, g8, g9, g10, g13, g14, g15, bc hP x1, bcs hP x2], by simp [go_sem, hwz, hwo, d53, d35, d65, d56, d63, d36, d76, d67, d75, d57, d73, d37, hj, hj2, hw1, g1, g3, g5, g6, g7, g8, g9, g10, g13, g14, g15, bc hP x1, bcs hP x2], by simp [go_sem, hwz, hwo, d53, d35, d65, d56, d63, d36, d76, d67, d75, d57, d73, d37, hj, hj2, hw1, g1, g3, g5, g6, g7, g8, g9, g10, g13, g14, g15, bc hP x1, bcs hP x2], by simp [go_sem, hwz, hwo, d53, d35, d65, d56, d63, d36, d76, d67, d75, d57, d73, d37, hj, hj2, hw1, g1, g3, g5, g6, g7, g8, g9, g10, g13, g14, g15, bc hP x1, bcs hP x2], by omega, hAD', hg', by omega, by simpa using hwk'⟩
      · rw [decide_eq_false hks] at hbs
        rw [if_neg hks] at hwk'
        refine xc_two fun N12 hN12 => ?_
        refine xc_reg1 3 rfl fun K hK => ?_
        simp only [show (List.range 3).map (·, true) = [(0, true), (1, true), (2, true)] from rfl, rslv_cons, rslv_nil, List.getElem?_toArray, List.getElem?_cons_zero, List.getElem?_cons_succ, gres]
        iterate 3 (refine seqX_hide2 fun R hR => ?_; simp [go_sem, hwz, hwo, d53, d35, d65, d56, d63, d36, d76, d67, d75, d57, d73, d37, hj, hj2, hw1, g1, g3, g5, g6, g7, g8, g9, g10, g13, g14, g15, bc hP x1, bcs hP x2, hbs]; refine hR _ _ _ ?_; clear hR R)
        rw [seqX_nil]
        refine hK _ _ _ ?_; clear hK K
        refine hN12 _ _ _ ?_
        have hPA := hP.sub hAD'
        refine xc_iftrue (by simp [go_sem, hwz, hwo, d53, d35, d65, d56, d63, d36, d76, d67, d75, d57, d73, d37, hj, hj2, hw1, g1, g3, g5, g6, g7, g8, g9, g10, g13, g14, g15, bc hPA u0, bcs hPA u0']) ?_
        rw [xc_draws]
        refine vdrawK [(0, true), (1, true), (2, true), (3, true), (4, true), (5, true), (6, true), (7, true), (8, true), (9, true), (10, true), (11, true), (12, true), (13, false), (14, true), (15, false), (16, true), (17, false)] (ov A [(q7, .cells (rvc 7 false 0 0 ⟨#[]⟩ uk' uv') 27 (0, 0)), (q6, .cells zc 27 (0, 0)), (q5, .cells cw 27 (0, 0)), (q3, .cells (rvc k b i f t (.slice (some a) keys.length ck) (.slice (some a2) list.length cl)) 27 (0, 0))]) mixed (by kernel_rfl) (ov_mono hAD') fun K hK => ?_
        simp only [rslv_cons, rslv_nil, List.getElem?_toArray, List.getElem?_cons_zero, List.getElem?_cons_succ, gres]
        iterate 3 (refine seqR_hide fun R hR => ?_; simp [go_sem, hwz, hwo, d53, d35, d65, d56, d63, d36, d76, d67, d75, d57, d73, d37, hj, hj2, hw1, g1, g3, g5, g6, g7, g8, g9, g10, g13, g14, g15, bc hPA u0, bcs hPA u0']; refine hR _ _ _ ?_; clear hR R)
        refine seqR_hide fun R hR => ?_
        simp [go_sem, hwz, hwo, d53, d35, d65, d56, d63, d36, d76, d67, d75, d57, d73, d37, hj, hj2, hw1, g1, g3, g5, g6, g7, g8, g9, g10, g13, g14, g15, bc hPA u0, bcs hPA u0']
        intro q45 hq45
        replace hP := hP.cons hq45
        clear hq45
        have d457 : q45 ≠ q7 := (hP.ne q7 (by simp [addrs])).1
        have d745 : q7 ≠ q45 := (hP.ne q7 (by simp [addrs])).2
        have d456 : q45 ≠ q6 := (hP.ne q6 (by simp [addrs])).1
        have d645 : q6 ≠ q45 := (hP.ne q6 (by simp [addrs])).2
        have d455 : q45 ≠ q5 := (hP.ne q5 (by simp [addrs])).1
        have d545 : q5 ≠ q45 := (hP.ne q5 (by simp [addrs])).2
        have d453 : q45 ≠ q3 := (hP.ne q3 (by simp [addrs])).1
        have d345 : q3 ≠ q45 := (hP.ne q3 (by simp [addrs])).2
        refine hR _ _ _ ?_; clear hR R
        refine seqR_hide fun R hR => ?_
        simp [go_sem, hwz, hwo, d53, d35, d65, d56, d63, d36, d76, d67, d75, d57, d73, d37, hj, hj2, hw1, g1, g3, g5, g6, g7, g8, g9, g10, g13, g14, g15, bc hPA u0, bcs hPA u0', d457, d745, d456, d645, d455, d545, d453, d345]
        refine app_text (s := keys[j]) hP hg'.keys hAD' (by simp [appended, View.cells?, go_sem]) rfl (by omega) ?_
        clear hP
        rintro v1 D1 hA1 k1 e1 hP
        obtain ⟨k2, a1⟩ := hg'.side e1
        refine ⟨push_le hP (ov_mono hA1), hR _ _ _ ?_⟩; clear hR R
        iterate 7 (refine seqR_hide fun R hR => ?_; simp [go_sem, hwz, hwo, d53, d35, d65, d56, d63, d36, d76, d67, d75, d57, d73, d37, hj, hj2, hw1, g1, g3, g5, g6, g7, g8, g9, g10, g13, g14, g15, bc hPA u0, bcs hPA u0', d457, d745, d456, d645, d455, d545, d453, d345, hcj.size, hcj.ones]; refine hR _ _ _ ?_; clear hR R)
        refine seqR_hide fun R hR => ?_
        simp [go_sem, hwz, hwo, d53, d35, d65, d56, d63, d36, d76, d67, d75, d57, d73, d37, hj, hj2, hw1, g1, g3, g5, g6, g7, g8, g9, g10, g13, g14, g15, bc hPA u0, bcs hPA u0', d457, d745, d456, d645, d455, d545, d453, d345, hcj.size, hcj.ones]
        intro q54 hq54
        replace hP := hP.cons hq54
        clear hq54
        have d5445 : q54 ≠ q45 := (hP.ne q45 (by simp [addrs])).1
        have d4554 : q45 ≠ q54 := (hP.ne q45 (by simp [addrs])).2
        have d547 : q54 ≠ q7 := (hP.ne q7 (by simp [addrs])).1
        have d754 : q7 ≠ q54 := (hP.ne q7 (by simp [addrs])).2
        have d546 : q54 ≠ q6 := (hP.ne q6 (by simp [addrs])).1
        have d654 : q6 ≠ q54 := (hP.ne q6 (by simp [addrs])).2
        have d545 : q54 ≠ q5 := (hP.ne q5 (by simp [addrs])).1
        have d554 : q5 ≠ q54 := (hP.ne q5 (by simp [addrs])).2
        have d543 : q54 ≠ q3 := (hP.ne q3 (by simp [addrs])).1
        have d354 : q3 ≠ q54 := (hP.ne q3 (by simp [addrs])).2
        refine hR _ _ _ ?_; clear hR R
        refine seqR_hide fun R hR => ?_
        simp [go_sem, hwz, hwo, d53, d35, d65, d56, d63, d36, d76, d67, d75, d57, d73, d37, hj, hj2, hw1, g1, g3, g5, g6, g7, g8, g9, g10, g13, g14, g15, bc hPA u0, bcs hPA u0', d457, d745, d456, d645, d455, d545, d453, d345, hcj.size, hcj.ones, d5445, d4554, d547, d754, d546, d654, d545, d554, d543, d354]
        refine app_val hP k2 hA1 (by simp [appended, go_sem, hcj.size]) hcj rfl (by omega) ?_
        clear hP
        rintro v2 D2 hA2 k3 e2 hP
        have hg2 := hg'.push hcj k1 a1 k3 e2
        obtain ⟨⟨y1, z1, rfl⟩, ⟨y2, z2, rfl⟩⟩ := hg2.slices1
        refine hR _ _ _ ?_; clear hR R
        (refine seqR_hide fun R hR => ?_; simp [go_sem, hwz, hwo, d53, d35, d65, d56, d63, d36, d76, d67, d75, d57, d73, d37, hj, hj2, hw1, g1, g3, g5, g6, g7, g8, g9, g10, g13, g14, g15, bc hPA u0, bcs hPA u0', d457, d745, d456, d645, d455, d545, d453, d345, hcj.size, hcj.ones, d5445, d4554, d547, d754, d546, d654, d545, d554, d543, d354]; refine hR _ _ _ ?_; clear hR R)
        refine seqR_hide fun R hR => ?_
        simp [go_sem, hwz, hwo, d53, d35, d65, d56, d63, d36, d76, d67, d75, d57, d73, d37, hj, hj2, hw1, g1, g3, g5, g6, g7, g8, g9, g10, g13, g14, g15, bc hPA u0, bcs hPA u0', d457, d745, d456, d645, d455, d545, d453, d345, hcj.size, hcj.ones, d5445, d4554, d547, d754, d546, d654, d545, d554, d543, d354]
        refine hR _ _ _ ?_; clear hR R
        (refine seqR_hide fun R hR => ?_; simp [go_sem, hwz, hwo, d53, d35, d65, d56, d63, d36, d76, d67, d75, d57, d73, d37, hj, hj2, hw1, g1, g3, g5, g6, g7, g8, g9, g10, g13, g14, g15, bc hPA u0, bcs hPA u0', d457, d745, d456, d645, d455, d545, d453, d345, hcj.size, hcj.ones, d5445, d4554, d547, d754, d546, d654, d545, d554, d543, d354]; refine hR _ _ _ ?_; clear hR R)
        refine seqR_hide fun R hR => ?_
        simp [go_sem, hwz, hwo, d53, d35, d65, d56, d63, d36, d76, d67, d75, d57, d73, d37, hj, hj2, hw1, g1, g3, g5, g6, g7, g8, g9, g10, g13, g14, g15, bc hPA u0, bcs hPA u0', d457, d745, d456, d645, d455, d545, d453, d345, hcj.size, hcj.ones, d5445, d4554, d547, d754, d546, d654, d545, d554, d543, d354]
        refine hR _ _ _ ?_; clear hR R
        rw [seqR_nil]
        refine hK _ _ _ ?_; clear hK K
        refine hN8 _ _ _ ?_
        refine xc_reg1 2 rfl fun K hK => ?_
        simp only [show (List.range 2).map (·, true) = [(0, true), (1, true)] from rfl, rslv_cons, rslv_nil, List.getElem?_toArray, List.getElem?_cons_zero, List.getElem?_cons_succ, gres]
        iterate 2 (refine seqX_hide2 fun R hR => ?_; simp [go_sem, hwz, hwo, d53, d35, d65, d56, d63, d36, d76, d67, d75, d57, d73, d37, hj, hj2, hw1, g1, g3, g5, g6, g7, g8, g9, g10, g13, g14, g15, bc hPA u0, bcs hPA u0', d457, d745, d456, d645, d455, d545, d453, d345, hcj.size, hcj.ones, d5445, d4554, d547, d754, d546, d654, d545, d554, d543, d354]; refine hR _ _ _ ?_; clear hR R)
        rw [seqX_nil]
        refine hK _ _ _ ?_; clear hK K
        refine sink_goal 0 hP rfl fun hPn lq54 nq54 => ?_
        clear hP; have hP := hPn; clear hPn
        simp only [List.eraseIdx_cons_zero, List.eraseIdx_cons_succ, addrs_cons, addrs_nil] at hP ⊢
        refine sink_goal 0 hP rfl fun hPn lq45 nq45 => ?_
        clear hP; have hP := hPn; clear hPn
        simp only [List.eraseIdx_cons_zero, List.eraseIdx_cons_succ, addrs_cons, addrs_nil] at hP ⊢
        have hle2 := View.le_trans lq54 lq45
        refine hJ1 (keys.length - (j + 1)) _ _ _ (by omega) ⟨j + 1, _, _, _, acc' ++ [(keys[j], list[j])], vs' ++ cj.toList, d', rfl, rfl, rfl, hP, by simp [go_sem, hwz, hwo, d53, d35, d65, d56, d63, d36, d76, d67, d75, d57, d73, d37, hj, hj2, hw1, g1, g3, g5, g6, g7, g8, g9, g10, g13, g14, g15, bc hPA u0, bcs hPA u0', d457, d745, d456, d645, d455, d545, d453, d345, hcj.size, hcj.ones, d5445, d4554, d547, d754, d546, d654, d545, d554, d543, d354], by simp [go_sem, hwz, hwo, d53, d35, d65, d56, d63, d36, d76, d67, d75, d57, d73, d37, hj, hj2, hw1, g1, g3, g5, g6, g7, g8, g9, g10, g13, g14, g15, bc hPA u0, bcs hPA u0', d457, d745, d456, d645, d455, d545, d453, d345, hcj.size, hcj.ones, d5445, d4554, d547, d754, d546, d654, d545, d554, d543, d354], by simp [go_sem, hwz, hwo, d53, d35, d65, d56, d63, d36, d76, d67, d75, d57, d73, d37, hj, hj2, hw1, g1, g3, g5, g6, g7, g8, g9, g10, g13, g14, g15, bc hPA u0, bcs hPA u0', d457, d745, d456, d645, d455, d545, d453, d345, hcj.size, hcj.ones, d5445, d4554, d547, d754, d546, d654, d545, d554, d543, d354], by simp [go_sem, hwz, hwo, d53, d35, d65, d56, d63, d36, d76, d67, d75, d57, d73, d37, hj, hj2, hw1, g1, g3, g5, g6, g7, g8, g9, g10, g13, g14, g15, bc hPA u0, bcs hPA u0', d457, d745, d456, d645, d455, d545, d453, d345, hcj.size, hcj.ones, d5445, d4554, d547, d754, d546, d654, d545, d554, d543, d354], by simp [go_sem, hwz, hwo, d53, d35, d65, d56, d63, d36, d76, d67, d75, d57, d73, d37, hj, hj2, hw1, g1, g3, g5, g6, g7, g8, g9, g10, g13, g14, g15, bc hPA u0, bcs hPA u0', d457, d745, d456, d645, d455, d545, d453, d345, hcj.size, hcj.ones, d5445, d4554, d547, d754, d546, d654, d545, d554, d543, d354], by simp [go_sem, hwz, hwo, d53, d35, d65, d56, d63, d36, d76, d67, d75, d57, d73, d37, hj, hj2, hw1, g1, g3, g5, g6, g7, g8, g9, g10, g13, g14, g15, bc hPA u0, bcs hPA u0', d457, d745, d456, d645, d455, d545, d453, d345, hcj.size, hcj.ones, d5445, d4554, d547, d754, d546, d654, d545, d554, d543, d354], by simp [go_sem, hwz, hwo, d53, d35, d65, d56, d63, d36, d76, d67, d75, d57, d73, d37, hj, hj2, hw1, g1, g3, g5, g6, g7, g8, g9, g10, g13, g14, g15, bc hPA u0, bcs hPA u0', d457, d745, d456, d645, d455, d545, d453, d345, hcj.size, hcj.ones, d5445, d4554, d547, d754, d546, d654, d545, d554, d543, d354], by simp [go_sem, hwz, hwo, d53, d35, d65, d56, d63, d36, d76, d67, d75, d57, d73, d37, hj, hj2, hw1, g1, g3, g5, g6, g7, g8, g9, g10, g13, g14, g15, bc hPA u0, bcs hPA u0', d457, d745, d456, d645, d455, d545, d453, d345, hcj.size, hcj.ones, d5445, d4554, d547, d754, d546, d654, d545, d554, d543, d354], by simp [go_sem, hwz, hwo, d53, d35, d65, d56, d63, d36, d76, d67, d75, d57, d73, d37, hj, hj2, hw1, g1, g3, g5, g6, g7, g8, g9, g10, g13, g14, g15, bc hPA u0, bcs hPA u0', d457, d745, d456, d645, d455, d545, d453, d345, hcj.size, hcj.ones, d5445, d4554, d547, d754, d546, d654, d545, d554, d543, d354], by omega, View.le_trans hA2 hle2, hg2.le hle2, by simp; omega, by simpa using hwk'⟩
    cases d with
    | true =>
      refine xc_reg1 7 rfl fun K hK => ?_
      simp only [show (List.range 7).map (·, true) = [(0, true), (1, true), (2, true), (3, true), (4, true), (5, true), (6, true)] from rfl, rslv_cons, rslv_nil, List.getElem?_toArray, List.getElem?_cons_zero, List.getElem?_cons_succ, gres]
      iterate 7 (refine seqX_hide2 fun R hR => ?_; simp [go_sem, hwz, hwo, d53, d35, d65, d56, d63, d36, d76, d67, d75, d57, d73, d37, g1, g3, g5, g6, g7, g8, g13, g14, g15, hj, hj2, hw1, bc hP u1, bcs hP u2']; refine hR _ _ _ ?_; clear hR R)
      rw [seqX_nil]
      refine hK _ _ _ ?_; clear hK K
      refine hN11 _ _ _ ?_
      refine xc_iffalse (by simp [go_sem, hwz, hwo, d53, d35, d65, d56, d63, d36, d76, d67, d75, d57, d73, d37, g1, g3, g5, g6, g7, g8, g13, g14, g15, hj, hj2, hw1, bc hP u1, bcs hP u2']) ?_
      exact tail (D) (uk) (uv) (acc) (vs) (true) _ hP (by simp [go_sem, hwz, hwo, d53, d35, d65, d56, d63, d36, d76, d67, d75, d57, d73, d37, g1, g3, g5, g6, g7, g8, g13, g14, g15, hj, hj2, hw1, bc hP u1, bcs hP u2']) (by simp [go_sem, hwz, hwo, d53, d35, d65, d56, d63, d36, d76, d67, d75, d57, d73, d37, g1, g3, g5, g6, g7, g8, g13, g14, g15, hj, hj2, hw1, bc hP u1, bcs hP u2']) (by simp [go_sem, hwz, hwo, d53, d35, d65, d56, d63, d36, d76, d67, d75, d57, d73, d37, g1, g3, g5, g6, g7, g8, g13, g14, g15, hj, hj2, hw1, bc hP u1, bcs hP u2']) (by simp [go_sem, hwz, hwo, d53, d35, d65, d56, d63, d36, d76, d67, d75, d57, d73, d37, g1, g3, g5, g6, g7, g8, g13, g14, g15, hj, hj2, hw1, bc hP u1, bcs hP u2']) (by simp [go_sem, hwz, hwo, d53, d35, d65, d56, d63, d36, d76, d67, d75, d57, d73, d37, g1, g3, g5, g6, g7, g8, g13, g14, g15, hj, hj2, hw1, bc hP u1, bcs hP u2']) (by simp [go_sem, hwz, hwo, d53, d35, d65, d56, d63, d36, d76, d67, d75, d57, d73, d37, g1, g3, g5, g6, g7, g8, g13, g14, g15, hj, hj2, hw1, bc hP u1, bcs hP u2']) (by simp [go_sem, hwz, hwo, d53, d35, d65, d56, d63, d36, d76, d67, d75, d57, d73, d37, g1, g3, g5, g6, g7, g8, g13, g14, g15, hj, hj2, hw1, bc hP u1, bcs hP u2']) (by simp [go_sem, hwz, hwo, d53, d35, d65, d56, d63, d36, d76, d67, d75, d57, d73, d37, g1, g3, g5, g6, g7, g8, g13, g14, g15, hj, hj2, hw1, bc hP u1, bcs hP u2']) (by simp [go_sem, hwz, hwo, d53, d35, d65, d56, d63, d36, d76, d67, d75, d57, d73, d37, g1, g3, g5, g6, g7, g8, g13, g14, g15, hj, hj2, hw1, bc hP u1, bcs hP u2']) (by simp [go_sem, hwz, hwo, d53, d35, d65, d56, d63, d36, d76, d67, d75, d57, d73, d37, g1, g3, g5, g6, g7, g8, g13, g14, g15, hj, hj2, hw1, bc hP u1, bcs hP u2']) (by simp [go_sem, hwz, hwo, d53, d35, d65, d56, d63, d36, d76, d67, d75, d57, d73, d37, g1, g3, g5, g6, g7, g8, g13, g14, g15, hj, hj2, hw1, bc hP u1, bcs hP u2']) (hAD) (hg) (by omega) (by simpa using hwk)
    | false =>
      cases hb : Op.bytesLess keys[j].toList s.toList with
      | true =>
        refine xc_reg1 7 rfl fun K hK => ?_
        simp only [show (List.range 7).map (·, true) = [(0, true), (1, true), (2, true), (3, true), (4, true), (5, true), (6, true)] from rfl, rslv_cons, rslv_nil, List.getElem?_toArray, List.getElem?_cons_zero, List.getElem?_cons_succ, gres]
        iterate 7 (refine seqX_hide2 fun R hR => ?_; simp [go_sem, hwz, hwo, d53, d35, d65, d56, d63, d36, d76, d67, d75, d57, d73, d37, g1, g3, g5, g6, g7, g8, g13, g14, g15, hj, hj2, hw1, bc hP u1, bcs hP u2', hb]; refine hR _ _ _ ?_; clear hR R)
        rw [seqX_nil]
        refine hK _ _ _ ?_; clear hK K
        refine hN11 _ _ _ ?_
        refine xc_iffalse (by simp [go_sem, hwz, hwo, d53, d35, d65, d56, d63, d36, d76, d67, d75, d57, d73, d37, g1, g3, g5, g6, g7, g8, g13, g14, g15, hj, hj2, hw1, bc hP u1, bcs hP u2']) ?_
        exact tail (D) (uk) (uv) (acc) (vs) (false) _ hP (by simp [go_sem, hwz, hwo, d53, d35, d65, d56, d63, d36, d76, d67, d75, d57, d73, d37, g1, g3, g5, g6, g7, g8, g13, g14, g15, hj, hj2, hw1, bc hP u1, bcs hP u2']) (by simp [go_sem, hwz, hwo, d53, d35, d65, d56, d63, d36, d76, d67, d75, d57, d73, d37, g1, g3, g5, g6, g7, g8, g13, g14, g15, hj, hj2, hw1, bc hP u1, bcs hP u2']) (by simp [go_sem, hwz, hwo, d53, d35, d65, d56, d63, d36, d76, d67, d75, d57, d73, d37, g1, g3, g5, g6, g7, g8, g13, g14, g15, hj, hj2, hw1, bc hP u1, bcs hP u2']) (by simp [go_sem, hwz, hwo, d53, d35, d65, d56, d63, d36, d76, d67, d75, d57, d73, d37, g1, g3, g5, g6, g7, g8, g13, g14, g15, hj, hj2, hw1, bc hP u1, bcs hP u2']) (by simp [go_sem, hwz, hwo, d53, d35, d65, d56, d63, d36, d76, d67, d75, d57, d73, d37, g1, g3, g5, g6, g7, g8, g13, g14, g15, hj, hj2, hw1, bc hP u1, bcs hP u2']) (by simp [go_sem, hwz, hwo, d53, d35, d65, d56, d63, d36, d76, d67, d75, d57, d73, d37, g1, g3, g5, g6, g7, g8, g13, g14, g15, hj, hj2, hw1, bc hP u1, bcs hP u2']) (by simp [go_sem, hwz, hwo, d53, d35, d65, d56, d63, d36, d76, d67, d75, d57, d73, d37, g1, g3, g5, g6, g7, g8, g13, g14, g15, hj, hj2, hw1, bc hP u1, bcs hP u2']) (by simp [go_sem, hwz, hwo, d53, d35, d65, d56, d63, d36, d76, d67, d75, d57, d73, d37, g1, g3, g5, g6, g7, g8, g13, g14, g15, hj, hj2, hw1, bc hP u1, bcs hP u2']) (by simp [go_sem, hwz, hwo, d53, d35, d65, d56, d63, d36, d76, d67, d75, d57, d73, d37, g1, g3, g5, g6, g7, g8, g13, g14, g15, hj, hj2, hw1, bc hP u1, bcs hP u2']) (by simp [go_sem, hwz, hwo, d53, d35, d65, d56, d63, d36, d76, d67, d75, d57, d73, d37, g1, g3, g5, g6, g7, g8, g13, g14, g15, hj, hj2, hw1, bc hP u1, bcs hP u2']) (by simp [go_sem, hwz, hwo, d53, d35, d65, d56, d63, d36, d76, d67, d75, d57, d73, d37, g1, g3, g5, g6, g7, g8, g13, g14, g15, hj, hj2, hw1, bc hP u1, bcs hP u2']) (hAD) (hg) (by omega) (by simpa [geB, hb] using hwk)
      | false =>
        refine xc_reg1 7 rfl fun K hK => ?_
        simp only [show (List.range 7).map (·, true) = [(0, true), (1, true), (2, true), (3, true), (4, true), (5, true), (6, true)] from rfl, rslv_cons, rslv_nil, List.getElem?_toArray, List.getElem?_cons_zero, List.getElem?_cons_succ, gres]
        iterate 7 (refine seqX_hide2 fun R hR => ?_; simp [go_sem, hwz, hwo, d53, d35, d65, d56, d63, d36, d76, d67, d75, d57, d73, d37, g1, g3, g5, g6, g7, g8, g13, g14, g15, hj, hj2, hw1, bc hP u1, bcs hP u2', hb]; refine hR _ _ _ ?_; clear hR R)
        rw [seqX_nil]
        refine hK _ _ _ ?_; clear hK K
        refine hN11 _ _ _ ?_
        have hPA := hP.sub hAD
        refine xc_iftrue (by simp [go_sem, hwz, hwo, d53, d35, d65, d56, d63, d36, d76, d67, d75, d57, d73, d37, g1, g3, g5, g6, g7, g8, g13, g14, g15, hj, hj2, hw1, bc hPA u0, bcs hPA u0']) ?_
        rw [xc_draws]
        refine vdrawK [(0, true), (1, true), (2, true), (3, true), (4, true), (5, true), (6, true), (7, true), (8, true), (9, false), (10, true), (11, false), (12, true), (13, false), (14, true)] (ov A [(q7, .cells (rvc 7 false 0 0 ⟨#[]⟩ uk uv) 27 (0, 0)), (q6, .cells zc 27 (0, 0)), (q5, .cells cw 27 (0, 0)), (q3, .cells (rvc k b i f t (.slice (some a) keys.length ck) (.slice (some a2) list.length cl)) 27 (0, 0))]) mixed (by kernel_rfl) (ov_mono hAD) fun K hK => ?_
        simp only [rslv_cons, rslv_nil, List.getElem?_toArray, List.getElem?_cons_zero, List.getElem?_cons_succ, gres]
        iterate 3 (refine seqR_hide fun R hR => ?_; simp [go_sem, hwz, hwo, d53, d35, d65, d56, d63, d36, d76, d67, d75, d57, d73, d37, g1, g3, g5, g6, g7, g8, g13, g14, g15, hj, hj2, hw1, bc hPA u0, bcs hPA u0']; refine hR _ _ _ ?_; clear hR R)
        refine seqR_hide fun R hR => ?_
        simp [go_sem, hwz, hwo, d53, d35, d65, d56, d63, d36, d76, d67, d75, d57, d73, d37, g1, g3, g5, g6, g7, g8, g13, g14, g15, hj, hj2, hw1, bc hPA u0, bcs hPA u0']
        intro q30 hq30
        replace hP := hP.cons hq30
        clear hq30
        have d307 : q30 ≠ q7 := (hP.ne q7 (by simp [addrs])).1
        have d730 : q7 ≠ q30 := (hP.ne q7 (by simp [addrs])).2
        have d306 : q30 ≠ q6 := (hP.ne q6 (by simp [addrs])).1
        have d630 : q6 ≠ q30 := (hP.ne q6 (by simp [addrs])).2
        have d305 : q30 ≠ q5 := (hP.ne q5 (by simp [addrs])).1
        have d530 : q5 ≠ q30 := (hP.ne q5 (by simp [addrs])).2
        have d303 : q30 ≠ q3 := (hP.ne q3 (by simp [addrs])).1
        have d330 : q3 ≠ q30 := (hP.ne q3 (by simp [addrs])).2
        refine hR _ _ _ ?_; clear hR R
        refine seqR_hide fun R hR => ?_
        simp [go_sem, hwz, hwo, d53, d35, d65, d56, d63, d36, d76, d67, d75, d57, d73, d37, g1, g3, g5, g6, g7, g8, g13, g14, g15, hj, hj2, hw1, bc hPA u0, bcs hPA u0', d307, d730, d306, d630, d305, d530, d303, d330]
        refine app_text (s := s) hP hg.keys hAD (by simp [appended, View.cells?, go_sem]) rfl (by omega) ?_
        clear hP
        rintro v1 D1 hA1 k1 e1 hP
        obtain ⟨k2, a1⟩ := hg.side e1
        refine ⟨push_le hP (ov_mono hA1), hR _ _ _ ?_⟩; clear hR R
        iterate 3 (refine seqR_hide fun R hR => ?_; simp [go_sem, hwz, hwo, d53, d35, d65, d56, d63, d36, d76, d67, d75, d57, d73, d37, g1, g3, g5, g6, g7, g8, g13, g14, g15, hj, hj2, hw1, bc hPA u0, bcs hPA u0', d307, d730, d306, d630, d305, d530, d303, d330]; refine hR _ _ _ ?_; clear hR R)
        refine seqR_hide fun R hR => ?_
        simp [go_sem, hwz, hwo, d53, d35, d65, d56, d63, d36, d76, d67, d75, d57, d73, d37, g1, g3, g5, g6, g7, g8, g13, g14, g15, hj, hj2, hw1, bc hPA u0, bcs hPA u0', d307, d730, d306, d630, d305, d530, d303, d330]
        intro q35 hq35
        replace hP := hP.cons hq35
        clear hq35
        have d3530 : q35 ≠ q30 := (hP.ne q30 (by simp [addrs])).1
        have d3035 : q30 ≠ q35 := (hP.ne q30 (by simp [addrs])).2
        have d357 : q35 ≠ q7 := (hP.ne q7 (by simp [addrs])).1
        have d735 : q7 ≠ q35 := (hP.ne q7 (by simp [addrs])).2
        have d356 : q35 ≠ q6 := (hP.ne q6 (by simp [addrs])).1
        have d635 : q6 ≠ q35 := (hP.ne q6 (by simp [addrs])).2
        have d355 : q35 ≠ q5 := (hP.ne q5 (by simp [addrs])).1
        have d535 : q5 ≠ q35 := (hP.ne q5 (by simp [addrs])).2
        have d353 : q35 ≠ q3 := (hP.ne q3 (by simp [addrs])).1
        have d335 : q3 ≠ q35 := (hP.ne q3 (by simp [addrs])).2
        refine hR _ _ _ ?_; clear hR R
        refine seqR_hide fun R hR => ?_
        simp [go_sem, hwz, hwo, d53, d35, d65, d56, d63, d36, d76, d67, d75, d57, d73, d37, g1, g3, g5, g6, g7, g8, g13, g14, g15, hj, hj2, hw1, bc hPA u0, bcs hPA u0', d307, d730, d306, d630, d305, d530, d303, d330, d3530, d3035, d357, d735, d356, d635, d355, d535, d353, d335]
        refine app_val hP k2 hA1 (by simp [appended, go_sem, hwz]) hw rfl (by omega) ?_
        clear hP
        rintro v2 D2 hA2 k3 e2 hP
        have hg2 := hg.push hw k1 a1 k3 e2
        obtain ⟨⟨y1, z1, rfl⟩, ⟨y2, z2, rfl⟩⟩ := hg2.slices1
        refine hR _ _ _ ?_; clear hR R
        (refine seqR_hide fun R hR => ?_; simp [go_sem, hwz, hwo, d53, d35, d65, d56, d63, d36, d76, d67, d75, d57, d73, d37, g1, g3, g5, g6, g7, g8, g13, g14, g15, hj, hj2, hw1, bc hPA u0, bcs hPA u0', d307, d730, d306, d630, d305, d530, d303, d330, d3530, d3035, d357, d735, d356, d635, d355, d535, d353, d335]; refine hR _ _ _ ?_; clear hR R)
        refine seqR_hide fun R hR => ?_
        simp [go_sem, hwz, hwo, d53, d35, d65, d56, d63, d36, d76, d67, d75, d57, d73, d37, g1, g3, g5, g6, g7, g8, g13, g14, g15, hj, hj2, hw1, bc hPA u0, bcs hPA u0', d307, d730, d306, d630, d305, d530, d303, d330, d3530, d3035, d357, d735, d356, d635, d355, d535, d353, d335]
        refine hR _ _ _ ?_; clear hR R
        (refine seqR_hide fun R hR => ?_; simp [go_sem, hwz, hwo, d53, d35, d65, d56, d63, d36, d76, d67, d75, d57, d73, d37, g1, g3, g5, g6, g7, g8, g13, g14, g15, hj, hj2, hw1, bc hPA u0, bcs hPA u0', d307, d730, d306, d630, d305, d530, d303, d330, d3530, d3035, d357, d735, d356, d635, d355, d535, d353, d335]; refine hR _ _ _ ?_; clear hR R)
        refine seqR_hide fun R hR => ?_
        simp [go_sem, hwz, hwo, d53, d35, d65, d56, d63, d36, d76, d67, d75, d57, d73, d37, g1, g3, g5, g6, g7, g8, g13, g14, g15, hj, hj2, hw1, bc hPA u0, bcs hPA u0', d307, d730, d306, d630, d305, d530, d303, d330, d3530, d3035, d357, d735, d356, d635, d355, d535, d353, d335]
        refine hR _ _ _ ?_; clear hR R
        (refine seqR_hide fun R hR => ?_; simp [go_sem, hwz, hwo, d53, d35, d65, d56, d63, d36, d76, d67, d75, d57, d73, d37, g1, g3, g5, g6, g7, g8, g13, g14, g15, hj, hj2, hw1, bc hPA u0, bcs hPA u0', d307, d730, d306, d630, d305, d530, d303, d330, d3530, d3035, d357, d735, d356, d635, d355, d535, d353, d335]; refine hR _ _ _ ?_; clear hR R)
        rw [seqR_nil]
        refine hK _ _ _ ?_; clear hK K
        refine sink_goal 0 hP rfl fun hPn lq35 nq35 => ?_
        clear hP; have hP := hPn; clear hPn
        simp only [List.eraseIdx_cons_zero, List.eraseIdx_cons_succ, addrs_cons, addrs_nil] at hP ⊢
        refine sink_goal 0 hP rfl fun hPn lq30 nq30 => ?_
        clear hP; have hP := hPn; clear hPn
        simp only [List.eraseIdx_cons_zero, List.eraseIdx_cons_succ, addrs_cons, addrs_nil] at hP ⊢
        have hle2 := View.le_trans lq35 lq30
        exact tail (_) (_) (_) (acc ++ [(s, w)]) (vs ++ cw.toList) (true) _ hP (by simp [go_sem, hwz, hwo, d53, d35, d65, d56, d63, d36, d76, d67, d75, d57, d73, d37, g1, g3, g5, g6, g7, g8, g13, g14, g15, hj, hj2, hw1, bc hPA u0, bcs hPA u0', d307, d730, d306, d630, d305, d530, d303, d330, d3530, d3035, d357, d735, d356, d635, d355, d535, d353, d335]) (by simp [go_sem, hwz, hwo, d53, d35, d65, d56, d63, d36, d76, d67, d75, d57, d73, d37, g1, g3, g5, g6, g7, g8, g13, g14, g15, hj, hj2, hw1, bc hPA u0, bcs hPA u0', d307, d730, d306, d630, d305, d530, d303, d330, d3530, d3035, d357, d735, d356, d635, d355, d535, d353, d335]) (by simp [go_sem, hwz, hwo, d53, d35, d65, d56, d63, d36, d76, d67, d75, d57, d73, d37, g1, g3, g5, g6, g7, g8, g13, g14, g15, hj, hj2, hw1, bc hPA u0, bcs hPA u0', d307, d730, d306, d630, d305, d530, d303, d330, d3530, d3035, d357, d735, d356, d635, d355, d535, d353, d335]) (by simp [go_sem, hwz, hwo, d53, d35, d65, d56, d63, d36, d76, d67, d75, d57, d73, d37, g1, g3, g5, g6, g7, g8, g13, g14, g15, hj, hj2, hw1, bc hPA u0, bcs hPA u0', d307, d730, d306, d630, d305, d530, d303, d330, d3530, d3035, d357, d735, d356, d635, d355, d535, d353, d335]) (by simp [go_sem, hwz, hwo, d53, d35, d65, d56, d63, d36, d76, d67, d75, d57, d73, d37, g1, g3, g5, g6, g7, g8, g13, g14, g15, hj, hj2, hw1, bc hPA u0, bcs hPA u0', d307, d730, d306, d630, d305, d530, d303, d330, d3530, d3035, d357, d735, d356, d635, d355, d535, d353, d335]) (by simp [go_sem, hwz, hwo, d53, d35, d65, d56, d63, d36, d76, d67, d75, d57, d73, d37, g1, g3, g5, g6, g7, g8, g13, g14, g15, hj, hj2, hw1, bc hPA u0, bcs hPA u0', d307, d730, d306, d630, d305, d530, d303, d330, d3530, d3035, d357, d735, d356, d635, d355, d535, d353, d335]) (by simp [go_sem, hwz, hwo, d53, d35, d65, d56, d63, d36, d76, d67, d75, d57, d73, d37, g1, g3, g5, g6, g7, g8, g13, g14, g15, hj, hj2, hw1, bc hPA u0, bcs hPA u0', d307, d730, d306, d630, d305, d530, d303, d330, d3530, d3035, d357, d735, d356, d635, d355, d535, d353, d335]) (by simp [go_sem, hwz, hwo, d53, d35, d65, d56, d63, d36, d76, d67, d75, d57, d73, d37, g1, g3, g5, g6, g7, g8, g13, g14, g15, hj, hj2, hw1, bc hPA u0, bcs hPA u0', d307, d730, d306, d630, d305, d530, d303, d330, d3530, d3035, d357, d735, d356, d635, d355, d535, d353, d335]) (by simp [go_sem, hwz, hwo, d53, d35, d65, d56, d63, d36, d76, d67, d75, d57, d73, d37, g1, g3, g5, g6, g7, g8, g13, g14, g15, hj, hj2, hw1, bc hPA u0, bcs hPA u0', d307, d730, d306, d630, d305, d530, d303, d330, d3530, d3035, d357, d735, d356, d635, d355, d535, d353, d335]) (by simp [go_sem, hwz, hwo, d53, d35, d65, d56, d63, d36, d76, d67, d75, d57, d73, d37, g1, g3, g5, g6, g7, g8, g13, g14, g15, hj, hj2, hw1, bc hPA u0, bcs hPA u0', d307, d730, d306, d630, d305, d530, d303, d330, d3530, d3035, d357, d735, d356, d635, d355, d535, d353, d335]) (by simp [go_sem, hwz, hwo, d53, d35, d65, d56, d63, d36, d76, d67, d75, d57, d73, d37, g1, g3, g5, g6, g7, g8, g13, g14, g15, hj, hj2, hw1, bc hPA u0, bcs hPA u0', d307, d730, d306, d630, d305, d530, d303, d330, d3530, d3035, d357, d735, d356, d635, d355, d535, d353, d335]) (View.le_trans hA2 hle2) (hg2.le hle2) (by simp; omega) (by simpa [geB, hb] using hwk)
  · rw [List.drop_of_length_le (by rw [List.length_zip]; omega), wgo] at hwk
    refine xc_two fun N6 hN6 => ?_
    refine xc_reg1 1 rfl fun K hK => ?_
    simp only [show (List.range 1).map (·, true) = [(0, true)] from rfl, rslv_cons, rslv_nil, List.getElem?_toArray, List.getElem?_cons_zero, List.getElem?_cons_succ, gres]
    (refine seqX_hide2 fun R hR => ?_; simp [go_sem, hwz, hwo, d53, d35, d65, d56, d63, d36, d76, d67, d75, d57, d73, d37, g1, g3, g5, g6, g7, g8, g13, g14, g15, hj]; refine hR _ _ _ ?_; clear hR R)
    rw [seqX_nil]
    refine hK _ _ _ ?_; clear hK K
    refine hN6 _ _ _ ?_
    refine xc_two fun N7 hN7 => ?_
    refine xc_iffalse (by simp [go_sem, hwz, hwo, d53, d35, d65, d56, d63, d36, d76, d67, d75, d57, d73, d37, g1, g3, g5, g6, g7, g8, g13, g14, g15]) ?_
    refine hX1 _ _ _ _ ?_
    refine hN4 _ _ _ ?_
    refine xc_two fun N8 hN8 => ?_
    refine xc_two fun N9 hN9 => ?_
    refine xc_reg1 2 rfl fun K hK => ?_
    simp only [show (List.range 2).map (·, true) = [(0, true), (1, true)] from rfl, rslv_cons, rslv_nil, List.getElem?_toArray, List.getElem?_cons_zero, List.getElem?_cons_succ, gres]
    iterate 2 (refine seqX_hide2 fun R hR => ?_; simp [go_sem, hwz, hwo, d53, d35, d65, d56, d63, d36, d76, d67, d75, d57, d73, d37, g1, g3, g5, g6, g7, g8, g13, g14, g15]; refine hR _ _ _ ?_; clear hR R)
    rw [seqX_nil]
    refine hK _ _ _ ?_; clear hK K
    refine hN9 _ _ _ ?_
    have fin : ∀ (D : View) (u1 u2 : Value) (acc : KV) (vs : List Value), A ≤ D → Grow A D u1 u2 acc vs → acc.length ≤ 1000000 → acc = wgo s w false (keys.zip list) → IsRV D (withR (.mk k b i f t keys list) s w) (rvc 7 false 0 0 ⟨#[]⟩ u1 u2) := by
      intro D u1 u2 acc vs h1 h2 h3 h4
      subst h4
      exact h2.isRV h1 (by omega) _ _ _ _ _
    cases d with
    | true =>
      obtain ⟨⟨y1, z1, rfl⟩, ⟨y2, z2, rfl⟩⟩ := hg.slices
      refine xc_iffalse (by simp [go_sem, hwz, hwo, d53, d35, d65, d56, d63, d36, d76, d67, d75, d57, d73, d37, g1, g3, g5, g6, g7, g8, g13, g14, g15]) ?_
      refine hN8 _ _ _ ?_
      refine xc_two fun N10 hN10 => ?_
      refine xc_reg1 2 rfl fun K hK => ?_
      simp only [show (List.range 2).map (·, true) = [(0, true), (1, true)] from rfl, rslv_cons, rslv_nil, List.getElem?_toArray, List.getElem?_cons_zero, List.getElem?_cons_succ, gres]
      (refine seqX_hide2 fun R hR => ?_; simp [go_sem, hwz, hwo, d53, d35, d65, d56, d63, d36, d76, d67, d75, d57, d73, d37, g1, g3, g5, g6, g7, g8, g13, g14, g15]; refine hR _ _ _ ?_; clear hR R)
      refine seqX_hide2 fun R hR => ?_
      simp [go_sem, hwz, hwo, d53, d35, d65, d56, d63, d36, d76, d67, d75, d57, d73, d37, g1, g3, g5, g6, g7, g8, g13, g14, g15]
      refine hR _ _ _ ?_; clear hR R
      rw [seqX_nil]
      refine hK _ _ _ ?_; clear hK K
      refine hN10 _ _ _ ?_
      simp [go_sem, hwz, hwo, d53, d35, d65, d56, d63, d36, d76, d67, d75, d57, d73, d37, g1, g3, g5, g6, g7, g8, g13, g14, g15]
      exact ⟨View.le_trans hAD (le_ov hP), (fin _ _ _ _ _ hAD hg (by omega) (by simpa using hwk)).le (le_ov hP)⟩
    | false =>
      have hPA := hP.sub hAD
      refine xc_iftrue (by simp [go_sem, hwz, hwo, d53, d35, d65, d56, d63, d36, d76, d67, d75, d57, d73, d37, g1, g3, g5, g6, g7, g8, g13, g14, g15]) ?_
      rw [xc_draws]
      refine vdrawK [(0, true), (1, true), (2, true), (3, true), (4, true), (5, true), (6, true), (7, true), (8, true), (9, false), (10, true), (11, false), (12, true), (13, false)] (ov A [(q7, .cells (rvc 7 false 0 0 ⟨#[]⟩ uk uv) 27 (0, 0)), (q6, .cells zc 27 (0, 0)), (q5, .cells cw 27 (0, 0)), (q3, .cells (rvc k b i f t (.slice bk keys.length ck) (.slice bl list.length cl)) 27 (0, 0))]) mixed (by kernel_rfl) (ov_mono hAD) fun K hK => ?_
      simp only [rslv_cons, rslv_nil, List.getElem?_toArray, List.getElem?_cons_zero, List.getElem?_cons_succ, gres]
      iterate 3 (refine seqR_hide fun R hR => ?_; simp [go_sem, hwz, hwo, d53, d35, d65, d56, d63, d36, d76, d67, d75, d57, d73, d37, g1, g3, g5, g6, g7, g8, g13, g14, g15]; refine hR _ _ _ ?_; clear hR R)
      refine seqR_hide fun R hR => ?_
      simp [go_sem, hwz, hwo, d53, d35, d65, d56, d63, d36, d76, d67, d75, d57, d73, d37, g1, g3, g5, g6, g7, g8, g13, g14, g15]
      intro q64 hq64
      replace hP := hP.cons hq64
      clear hq64
      have d647 : q64 ≠ q7 := (hP.ne q7 (by simp [addrs])).1
      have d764 : q7 ≠ q64 := (hP.ne q7 (by simp [addrs])).2
      have d646 : q64 ≠ q6 := (hP.ne q6 (by simp [addrs])).1
      have d664 : q6 ≠ q64 := (hP.ne q6 (by simp [addrs])).2
      have d645 : q64 ≠ q5 := (hP.ne q5 (by simp [addrs])).1
      have d564 : q5 ≠ q64 := (hP.ne q5 (by simp [addrs])).2
      have d643 : q64 ≠ q3 := (hP.ne q3 (by simp [addrs])).1
      have d364 : q3 ≠ q64 := (hP.ne q3 (by simp [addrs])).2
      refine hR _ _ _ ?_; clear hR R
      refine seqR_hide fun R hR => ?_
      simp [go_sem, hwz, hwo, d53, d35, d65, d56, d63, d36, d76, d67, d75, d57, d73, d37, g1, g3, g5, g6, g7, g8, g13, g14, g15, d647, d764, d646, d664, d645, d564, d643, d364]
      refine app_text (s := s) hP hg.keys hAD (by simp [appended, View.cells?, go_sem]) rfl (by omega) ?_
      clear hP
      rintro v1 D1 hA1 k1 e1 hP
      obtain ⟨k2, a1⟩ := hg.side e1
      refine ⟨push_le hP (ov_mono hA1), hR _ _ _ ?_⟩; clear hR R
      iterate 3 (refine seqR_hide fun R hR => ?_; simp [go_sem, hwz, hwo, d53, d35, d65, d56, d63, d36, d76, d67, d75, d57, d73, d37, g1, g3, g5, g6, g7, g8, g13, g14, g15, d647, d764, d646, d664, d645, d564, d643, d364]; refine hR _ _ _ ?_; clear hR R)
      refine seqR_hide fun R hR => ?_
      simp [go_sem, hwz, hwo, d53, d35, d65, d56, d63, d36, d76, d67, d75, d57, d73, d37, g1, g3, g5, g6, g7, g8, g13, g14, g15, d647, d764, d646, d664, d645, d564, d643, d364]
      intro q69 hq69
      replace hP := hP.cons hq69
      clear hq69
      have d6964 : q69 ≠ q64 := (hP.ne q64 (by simp [addrs])).1
      have d6469 : q64 ≠ q69 := (hP.ne q64 (by simp [addrs])).2
      have d697 : q69 ≠ q7 := (hP.ne q7 (by simp [addrs])).1
      have d769 : q7 ≠ q69 := (hP.ne q7 (by simp [addrs])).2
      have d696 : q69 ≠ q6 := (hP.ne q6 (by simp [addrs])).1
      have d669 : q6 ≠ q69 := (hP.ne q6 (by simp [addrs])).2
      have d695 : q69 ≠ q5 := (hP.ne q5 (by simp [addrs])).1
      have d569 : q5 ≠ q69 := (hP.ne q5 (by simp [addrs])).2
      have d693 : q69 ≠ q3 := (hP.ne q3 (by simp [addrs])).1
      have d369 : q3 ≠ q69 := (hP.ne q3 (by simp [addrs])).2
      refine hR _ _ _ ?_; clear hR R
      refine seqR_hide fun R hR => ?_
      simp [go_sem, hwz, hwo, d53, d35, d65, d56, d63, d36, d76, d67, d75, d57, d73, d37, g1, g3, g5, g6, g7, g8, g13, g14, g15, d647, d764, d646, d664, d645, d564, d643, d364, d6964, d6469, d697, d769, d696, d669, d695, d569, d693, d369]
      refine app_val hP k2 hA1 (by simp [appended, go_sem, hwz]) hw rfl (by omega) ?_
      clear hP
      rintro v2 D2 hA2 k3 e2 hP
      have hg2 := hg.push hw k1 a1 k3 e2
      obtain ⟨⟨y1, z1, rfl⟩, ⟨y2, z2, rfl⟩⟩ := hg2.slices1
      refine hR _ _ _ ?_; clear hR R
      (refine seqR_hide fun R hR => ?_; simp [go_sem, hwz, hwo, d53, d35, d65, d56, d63, d36, d76, d67, d75, d57, d73, d37, g1, g3, g5, g6, g7, g8, g13, g14, g15, d647, d764, d646, d664, d645, d564, d643, d364, d6964, d6469, d697, d769, d696, d669, d695, d569, d693, d369]; refine hR _ _ _ ?_; clear hR R)
      refine seqR_hide fun R hR => ?_
      simp [go_sem, hwz, hwo, d53, d35, d65, d56, d63, d36, d76, d67, d75, d57, d73, d37, g1, g3, g5, g6, g7, g8, g13, g14, g15, d647, d764, d646, d664, d645, d564, d643, d364, d6964, d6469, d697, d769, d696, d669, d695, d569, d693, d369]
      refine hR _ _ _ ?_; clear hR R
      (refine seqR_hide fun R hR => ?_; simp [go_sem, hwz, hwo, d53, d35, d65, d56, d63, d36, d76, d67, d75, d57, d73, d37, g1, g3, g5, g6, g7, g8, g13, g14, g15, d647, d764, d646, d664, d645, d564, d643, d364, d6964, d6469, d697, d769, d696, d669, d695, d569, d693, d369]; refine hR _ _ _ ?_; clear hR R)
      refine seqR_hide fun R hR => ?_
      simp [go_sem, hwz, hwo, d53, d35, d65, d56, d63, d36, d76, d67, d75, d57, d73, d37, g1, g3, g5, g6, g7, g8, g13, g14, g15, d647, d764, d646, d664, d645, d564, d643, d364, d6964, d6469, d697, d769, d696, d669, d695, d569, d693, d369]
      refine hR _ _ _ ?_; clear hR R
      rw [seqR_nil]
      refine hK _ _ _ ?_; clear hK K
      refine hN8 _ _ _ ?_
      refine xc_two fun N10 hN10 => ?_
      refine xc_reg1 2 rfl fun K hK => ?_
      simp only [show (List.range 2).map (·, true) = [(0, true), (1, true)] from rfl, rslv_cons, rslv_nil, List.getElem?_toArray, List.getElem?_cons_zero, List.getElem?_cons_succ, gres]
      (refine seqX_hide2 fun R hR => ?_; simp [go_sem, hwz, hwo, d53, d35, d65, d56, d63, d36, d76, d67, d75, d57, d73, d37, g1, g3, g5, g6, g7, g8, g13, g14, g15, d647, d764, d646, d664, d645, d564, d643, d364, d6964, d6469, d697, d769, d696, d669, d695, d569, d693, d369]; refine hR _ _ _ ?_; clear hR R)
      refine seqX_hide2 fun R hR => ?_
      simp [go_sem, hwz, hwo, d53, d35, d65, d56, d63, d36, d76, d67, d75, d57, d73, d37, g1, g3, g5, g6, g7, g8, g13, g14, g15, d647, d764, d646, d664, d645, d564, d643, d364, d6964, d6469, d697, d769, d696, d669, d695, d569, d693, d369]
      refine hR _ _ _ ?_; clear hR R
      rw [seqX_nil]
      refine hK _ _ _ ?_; clear hK K
      refine hN10 _ _ _ ?_
      simp [go_sem, hwz, hwo, d53, d35, d65, d56, d63, d36, d76, d67, d75, d57, d73, d37, g1, g3, g5, g6, g7, g8, g13, g14, g15, d647, d764, d646, d664, d645, d564, d643, d364, d6964, d6469, d697, d769, d696, d669, d695, d569, d693, d369]
      refine ⟨View.le_trans hA2 ?_, (fin _ _ _ _ _ hA2 hg2 (by simp; omega) (by simpa using hwk)).le ?_⟩
      · exact le_ov hP
      · exact le_ov hP
end Go.Proofs.YtogfpbnbojhpoaaV

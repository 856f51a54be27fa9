/- Charts: spec.SameWants. -/
import Derived.Test.YtogfpbnbojhpoaaWC
namespace Go.Proofs.YtogfpbnbojhpoaaV
open Go.RowKit
set_option linter.unusedSimpArgs false
set_option linter.unusedVariables false
theorem eq61 (i : Imp) : xeqS Try.prog 61 (impc i) (impc i) = some true := by
  have h1 : Try.prog.stoodInHeld 61 = false := by kernel_rfl
  have h2 : Try.prog.eqGuardType Try.prog.depth 61 = false := by kernel_rfl
  unfold xeqS
  rw [Try.underlying61]
  simp [h1, h2, eqF, ti9, ti4, impc]
set_option maxRecDepth 20000 in
set_option maxHeartbeats 8000000 in
theorem same14 (A : View) (v v' : Value) (l : List Wt) (h : Wants A v l) (h' : Wants A v' l) (hll : l.length ≤ 1000) (hlt : ∀ w ∈ l, w.tags.length ≤ 1000 ∧ w.imps.length ≤ 1000) : VCalls Try.prog 14 #[v, v'] A fun r A' => r = .bool true ∧ A ≤ A' := by
  obtain ⟨bs, cp, rfl, hel⟩ := h
  obtain ⟨bs', cp', rfl, hel'⟩ := h'
  refine xcalls Try.func14 rfl (by simp [Try.ntmps14]) ?_
  simp only [Try.f14]
  have hP : Priv A (addrs []) := Priv.nil A
  show xc _ _ _ _ _ _ (ov A [])
  refine xc_two fun N1 hN1 => ?_
  refine xc_reg1 1 rfl fun K hK => ?_
  simp only [show (List.range 1).map (·, true) = [(0, true)] from rfl, rslv_cons, rslv_nil, List.getElem?_toArray, List.getElem?_cons_zero, List.getElem?_cons_succ, gres]
  (refine seqX_hide2 fun R hR => ?_; simp [go_sem]; refine hR _ _ _ ?_; clear hR R)
  rw [seqX_nil]
  refine hK _ _ _ ?_; clear hK K
  refine hN1 _ _ _ ?_
  refine xc_two fun N2 hN2 => ?_
  refine xc_two fun N3 hN3 => ?_
  refine xc_reg1 5 rfl fun K hK => ?_
  simp only [show (List.range 5).map (·, true) = [(0, true), (1, true), (2, true), (3, true), (4, true)] from rfl, rslv_cons, rslv_nil, List.getElem?_toArray, List.getElem?_cons_zero, List.getElem?_cons_succ, gres]
  iterate 5 (refine seqX_hide2 fun R hR => ?_; simp [go_sem]; refine hR _ _ _ ?_; clear hR R)
  rw [seqX_nil]
  refine hK _ _ _ ?_; clear hK K
  refine hN3 _ _ _ ?_
  refine xc_iffalse (by simp [go_sem]) ?_
  refine hN2 _ _ _ ?_
  refine xc_two fun N4 hN4 => ?_
  refine xc_two fun N5 hN5 => ?_
  refine xc_reg1 3 rfl fun K hK => ?_
  simp only [show (List.range 3).map (·, true) = [(0, true), (1, true), (2, true)] from rfl, rslv_cons, rslv_nil, List.getElem?_toArray, List.getElem?_cons_zero, List.getElem?_cons_succ, gres]
  iterate 3 (refine seqX_hide2 fun R hR => ?_; simp [go_sem]; refine hR _ _ _ ?_; clear hR R)
  rw [seqX_nil]
  refine hK _ _ _ ?_; clear hK K
  refine hN5 _ _ _ ?_
  rw [xc_block]
  rw [xc_loop]
  refine vloopK (fun k' e ds A' => ∃ (j : Nat) (D : View), k' = l.length - j ∧ ds = [] ∧ A' = ov D [] ∧ Priv D [] ∧ e 1 = .slice bs' l.length cp' ∧ e 17 = .slice bs l.length cp ∧ e 18 = .int .i64 l.length ∧ e 19 = .int .i64 j ∧ (j ≤ l.length) ∧ (A ≤ D)) _ ⟨0, A, rfl, rfl, rfl, hP, by simp [go_sem], by simp [go_sem], by simp [go_sem], by simp [go_sem], by omega, View.le_refl _⟩ ?_
  clear hP
  rintro k' e ds A' ⟨j, D, rfl, rfl, hV, hP, g1, g17, g18, g19, hjl, hAD⟩ J1 X1 hJ1 hX1
  refine xc_sound _ ?_
  replace hV := Eq.symm hV; subst hV; replace hP : Priv D (addrs []) := hP
  have hw1 := wrap_nat (i := j) (by omega)
  by_cases hj : j < l.length
  · obtain ⟨a, ci, rfl, u1, hci⟩ := hel j hj
    obtain ⟨a', ci', rfl, u1', hci'⟩ := hel' j hj
    have hlt1 := hlt _ (List.getElem_mem hj)
    generalize l[j] = w at hci hci' hlt1
    obtain ⟨tg, im, rfl, ht, hi⟩ := hci
    obtain ⟨tg', im', rfl, ht', hi'⟩ := hci'
    obtain ⟨b1, c1, rfl⟩ := ht.slice
    obtain ⟨b1', c1', rfl⟩ := ht'.slice
    obtain ⟨b2, c2, rfl, heli⟩ := hi
    obtain ⟨b2', c2', rfl, heli'⟩ := hi'
    have u1 := le_cells hAD _ _ _ u1
    have u1' := le_cells hAD _ _ _ u1'
    refine xc_two fun N6 hN6 => ?_
    refine xc_reg1 1 rfl fun K hK => ?_
    simp only [show (List.range 1).map (·, true) = [(0, true)] from rfl, rslv_cons, rslv_nil, List.getElem?_toArray, List.getElem?_cons_zero, List.getElem?_cons_succ, gres]
    (refine seqX_hide2 fun R hR => ?_; simp [go_sem, g1, g17, g18, g19, hj, hw1, bcs hP u1, bcs hP u1']; refine hR _ _ _ ?_; clear hR R)
    rw [seqX_nil]
    refine hK _ _ _ ?_; clear hK K
    refine hN6 _ _ _ ?_
    refine xc_two fun N7 hN7 => ?_
    refine xc_iftrue (by simp [go_sem, g1, g17, g18, g19, hj, hw1, bcs hP u1, bcs hP u1']) ?_
    refine hN7 _ _ _ ?_
    refine xc_two fun N8 hN8 => ?_
    rw [xc_block]
    refine xc_two fun N9 hN9 => ?_
    refine xc_reg1 6 rfl fun K hK => ?_
    simp only [show (List.range 6).map (·, true) = [(0, true), (1, true), (2, true), (3, true), (4, true), (5, true)] from rfl, rslv_cons, rslv_nil, List.getElem?_toArray, List.getElem?_cons_zero, List.getElem?_cons_succ, gres]
    iterate 3 (refine seqX_hide2 fun R hR => ?_; simp [go_sem, g1, g17, g18, g19, hj, hw1, bcs hP u1, bcs hP u1']; refine hR _ _ _ ?_; clear hR R)
    refine seqX_hide2 fun R hR => ?_
    simp [go_sem, g1, g17, g18, g19, hj, hw1, bcs hP u1, bcs hP u1']
    intro q6 hq6
    replace hP := hP.cons hq6
    clear hq6
    refine hR _ _ _ ?_; clear hR R
    (refine seqX_hide2 fun R hR => ?_; simp [go_sem, g1, g17, g18, g19, hj, hw1, bcs hP u1, bcs hP u1']; refine hR _ _ _ ?_; clear hR R)
    refine seqX_hide2 fun R hR => ?_
    simp [go_sem, g1, g17, g18, g19, hj, hw1, bcs hP u1, bcs hP u1']
    refine hR _ _ _ ?_; clear hR R
    rw [seqX_nil]
    refine hK _ _ _ ?_; clear hK K
    refine hN9 _ _ _ ?_
    refine xc_two fun N10 hN10 => ?_
    refine xc_reg1 6 rfl fun K hK => ?_
    simp only [show (List.range 6).map (·, true) = [(0, true), (1, true), (2, true), (3, true), (4, true), (5, true)] from rfl, rslv_cons, rslv_nil, List.getElem?_toArray, List.getElem?_cons_zero, List.getElem?_cons_succ, gres]
    iterate 4 (refine seqX_hide2 fun R hR => ?_; simp [go_sem, g1, g17, g18, g19, hj, hw1, bcs hP u1, bcs hP u1']; refine hR _ _ _ ?_; clear hR R)
    refine seqX_hide2 fun R hR => ?_
    simp [go_sem, g1, g17, g18, g19, hj, hw1, bcs hP u1, bcs hP u1']
    intro q7 hq7
    replace hP := hP.cons hq7
    clear hq7
    have d76 : q7 ≠ q6 := (hP.ne q6 (by simp [addrs])).1
    have d67 : q6 ≠ q7 := (hP.ne q6 (by simp [addrs])).2
    refine hR _ _ _ ?_; clear hR R
    refine seqX_hide2 fun R hR => ?_
    simp [go_sem, g1, g17, g18, g19, hj, hw1, bcs hP u1, bcs hP u1', d76, d67]
    refine hR _ _ _ ?_; clear hR R
    rw [seqX_nil]
    refine hK _ _ _ ?_; clear hK K
    refine hN10 _ _ _ ?_
    refine xc_two fun N11 hN11 => ?_
    refine xc_two fun N12 hN12 => ?_
    refine xc_reg1 51 rfl fun K hK => ?_
    simp only [show (List.range 51).map (·, true) = [(0, true), (1, true), (2, true), (3, true), (4, true), (5, true), (6, true), (7, true), (8, true), (9, true), (10, true), (11, true), (12, true), (13, true), (14, true), (15, true), (16, true), (17, true), (18, true), (19, true), (20, true), (21, true), (22, true), (23, true), (24, true), (25, true), (26, true), (27, true), (28, true), (29, true), (30, true), (31, true), (32, true), (33, true), (34, true), (35, true), (36, true), (37, true), (38, true), (39, true), (40, true), (41, true), (42, true), (43, true), (44, true), (45, true), (46, true), (47, true), (48, true), (49, true), (50, true)] from rfl, rslv_cons, rslv_nil, List.getElem?_toArray, List.getElem?_cons_zero, List.getElem?_cons_succ, gres]
    iterate 51 (refine seqX_hide2 fun R hR => ?_; simp [go_sem, g1, g17, g18, g19, hj, hw1, bcs hP u1, bcs hP u1', d76, d67]; refine hR _ _ _ ?_; clear hR R)
    rw [seqX_nil]
    refine hK _ _ _ ?_; clear hK K
    refine hN12 _ _ _ ?_
    refine xc_iffalse (by simp [go_sem, g1, g17, g18, g19, hj, hw1, bcs hP u1, bcs hP u1', d76, d67]) ?_
    refine hN11 _ _ _ ?_
    refine xc_two fun N13 hN13 => ?_
    refine xc_two fun N14 hN14 => ?_
    refine xc_reg1 4 rfl fun K hK => ?_
    simp only [show (List.range 4).map (·, true) = [(0, true), (1, true), (2, true), (3, true)] from rfl, rslv_cons, rslv_nil, List.getElem?_toArray, List.getElem?_cons_zero, List.getElem?_cons_succ, gres]
    iterate 4 (refine seqX_hide2 fun R hR => ?_; simp [go_sem, g1, g17, g18, g19, hj, hw1, bcs hP u1, bcs hP u1', d76, d67]; refine hR _ _ _ ?_; clear hR R)
    rw [seqX_nil]
    refine hK _ _ _ ?_; clear hK K
    refine hN14 _ _ _ ?_
    rw [xc_block]
    rw [xc_loop]
    refine vloopK (fun k' e ds A' => ∃ (i : Nat), k' = w.tags.length - i ∧ ds = [] ∧ A' = ov D [(q7, .cells (wc w.name w.ver w.cond w.alias (.slice b1' w.tags.length c1') w.en (.slice b2' w.imps.length c2')) 34 (0, 0)), (q6, .cells (wc w.name w.ver w.cond w.alias (.slice b1 w.tags.length c1) w.en (.slice b2 w.imps.length c2)) 34 (0, 0))] ∧ Priv D [q7, q6] ∧ e 1 = .slice (some a') l.length cp' ∧ e 6 = .pointer (some ⟨q6, 0, none⟩) ∧ e 7 = .pointer (some ⟨q7, 0, none⟩) ∧ e 17 = .slice (some a) l.length cp ∧ e 18 = .int .i64 l.length ∧ e 19 = .int .i64 j ∧ e 80 = .slice b1 w.tags.length c1 ∧ e 81 = .int .i64 w.tags.length ∧ e 82 = .int .i64 i ∧ (i ≤ w.tags.length)) _ ⟨0, rfl, rfl, rfl, hP, by simp [go_sem, g1, g17, g18, g19, hj, hw1, d76, d67], by simp [go_sem, g1, g17, g18, g19, hj, hw1, d76, d67], by simp [go_sem, g1, g17, g18, g19, hj, hw1, d76, d67], by simp [go_sem, g1, g17, g18, g19, hj, hw1, d76, d67], by simp [go_sem, g1, g17, g18, g19, hj, hw1, d76, d67], by simp [go_sem, g1, g17, g18, g19, hj, hw1, d76, d67], by simp [go_sem, g1, g17, g18, g19, hj, hw1, d76, d67], by simp [go_sem, g1, g17, g18, g19, hj, hw1, d76, d67], by simp [go_sem, g1, g17, g18, g19, hj, hw1, d76, d67], by omega⟩ ?_
    clear g1 g17 g18 g19
    clear hP
    rintro k' e ds _ ⟨i, rfl, rfl, rfl, hP, g1, g6, g7, g17, g18, g19, g80, g81, g82, hil⟩ J2 X2 hJ2 hX2
    refine xc_sound _ ?_
    have hw2 := wrap_nat (i := i) (by omega)
    by_cases hi : i < w.tags.length
    · obtain ⟨a2, cap2, f1, u2⟩ := ht.at' hi
      simp only [Value.slice.injEq] at f1
      obtain ⟨rfl, -, rfl⟩ := f1
      obtain ⟨a2', cap2', f1, u2'⟩ := ht'.at' hi
      simp only [Value.slice.injEq] at f1
      obtain ⟨rfl, -, rfl⟩ := f1
      have u2 := le_cell hAD u2
      have u2' := le_cell hAD u2'
      refine xc_two fun N15 hN15 => ?_
      refine xc_reg1 1 rfl fun K hK => ?_
      simp only [show (List.range 1).map (·, true) = [(0, true)] from rfl, rslv_cons, rslv_nil, List.getElem?_toArray, List.getElem?_cons_zero, List.getElem?_cons_succ, gres]
      (refine seqX_hide2 fun R hR => ?_; simp [go_sem, hj, hw1, d76, d67, g1, g6, g7, g17, g18, g19, g80, g81, g82, hi, hw2, bc hP u2, bc hP u2']; refine hR _ _ _ ?_; clear hR R)
      rw [seqX_nil]
      refine hK _ _ _ ?_; clear hK K
      refine hN15 _ _ _ ?_
      refine xc_two fun N16 hN16 => ?_
      refine xc_iftrue (by simp [go_sem, hj, hw1, d76, d67, g1, g6, g7, g17, g18, g19, g80, g81, g82, hi, hw2, bc hP u2, bc hP u2']) ?_
      refine hN16 _ _ _ ?_
      refine xc_two fun N17 hN17 => ?_
      rw [xc_block]
      refine xc_two fun N18 hN18 => ?_
      refine xc_reg1 5 rfl fun K hK => ?_
      simp only [show (List.range 5).map (·, true) = [(0, true), (1, true), (2, true), (3, true), (4, true)] from rfl, rslv_cons, rslv_nil, List.getElem?_toArray, List.getElem?_cons_zero, List.getElem?_cons_succ, gres]
      iterate 5 (refine seqX_hide2 fun R hR => ?_; simp [go_sem, hj, hw1, d76, d67, g1, g6, g7, g17, g18, g19, g80, g81, g82, hi, hw2, bc hP u2, bc hP u2']; refine hR _ _ _ ?_; clear hR R)
      rw [seqX_nil]
      refine hK _ _ _ ?_; clear hK K
      refine hN18 _ _ _ ?_
      refine xc_two fun N19 hN19 => ?_
      refine xc_reg1 7 rfl fun K hK => ?_
      simp only [show (List.range 7).map (·, true) = [(0, true), (1, true), (2, true), (3, true), (4, true), (5, true), (6, true)] from rfl, rslv_cons, rslv_nil, List.getElem?_toArray, List.getElem?_cons_zero, List.getElem?_cons_succ, gres]
      iterate 7 (refine seqX_hide2 fun R hR => ?_; simp [go_sem, hj, hw1, d76, d67, g1, g6, g7, g17, g18, g19, g80, g81, g82, hi, hw2, bc hP u2, bc hP u2']; refine hR _ _ _ ?_; clear hR R)
      rw [seqX_nil]
      refine hK _ _ _ ?_; clear hK K
      refine hN19 _ _ _ ?_
      refine xc_iffalse (by simp [go_sem, hj, hw1, d76, d67, g1, g6, g7, g17, g18, g19, g80, g81, g82, hi, hw2, bc hP u2, bc hP u2']) ?_
      refine hN17 _ _ _ ?_
      refine xc_reg1 2 rfl fun K hK => ?_
      simp only [show (List.range 2).map (·, true) = [(0, true), (1, true)] from rfl, rslv_cons, rslv_nil, List.getElem?_toArray, List.getElem?_cons_zero, List.getElem?_cons_succ, gres]
      iterate 2 (refine seqX_hide2 fun R hR => ?_; simp [go_sem, hj, hw1, d76, d67, g1, g6, g7, g17, g18, g19, g80, g81, g82, hi, hw2, bc hP u2, bc hP u2']; refine hR _ _ _ ?_; clear hR R)
      rw [seqX_nil]
      refine hK _ _ _ ?_; clear hK K
      refine hJ2 (w.tags.length - (i + 1)) _ _ _ (by omega) ⟨i + 1, rfl, rfl, rfl, hP, by simp [go_sem, hj, hw1, d76, d67, g1, g6, g7, g17, g18, g19, g80, g81, g82, hi, hw2, bc hP u2, bc hP u2'], by simp [go_sem, hj, hw1, d76, d67, g1, g6, g7, g17, g18, g19, g80, g81, g82, hi, hw2, bc hP u2, bc hP u2'], by simp [go_sem, hj, hw1, d76, d67, g1, g6, g7, g17, g18, g19, g80, g81, g82, hi, hw2, bc hP u2, bc hP u2'], by simp [go_sem, hj, hw1, d76, d67, g1, g6, g7, g17, g18, g19, g80, g81, g82, hi, hw2, bc hP u2, bc hP u2'], by simp [go_sem, hj, hw1, d76, d67, g1, g6, g7, g17, g18, g19, g80, g81, g82, hi, hw2, bc hP u2, bc hP u2'], by simp [go_sem, hj, hw1, d76, d67, g1, g6, g7, g17, g18, g19, g80, g81, g82, hi, hw2, bc hP u2, bc hP u2'], by simp [go_sem, hj, hw1, d76, d67, g1, g6, g7, g17, g18, g19, g80, g81, g82, hi, hw2, bc hP u2, bc hP u2'], by simp [go_sem, hj, hw1, d76, d67, g1, g6, g7, g17, g18, g19, g80, g81, g82, hi, hw2, bc hP u2, bc hP u2'], by simp [go_sem, hj, hw1, d76, d67, g1, g6, g7, g17, g18, g19, g80, g81, g82, hi, hw2, bc hP u2, bc hP u2'], by omega⟩
    · skip
      refine xc_two fun N15 hN15 => ?_
      refine xc_reg1 1 rfl fun K hK => ?_
      simp only [show (List.range 1).map (·, true) = [(0, true)] from rfl, rslv_cons, rslv_nil, List.getElem?_toArray, List.getElem?_cons_zero, List.getElem?_cons_succ, gres]
      (refine seqX_hide2 fun R hR => ?_; simp [go_sem, hj, hw1, d76, d67, g1, g6, g7, g17, g18, g19, g80, g81, g82, hi]; refine hR _ _ _ ?_; clear hR R)
      rw [seqX_nil]
      refine hK _ _ _ ?_; clear hK K
      refine hN15 _ _ _ ?_
      refine xc_two fun N16 hN16 => ?_
      refine xc_iffalse (by simp [go_sem, hj, hw1, d76, d67, g1, g6, g7, g17, g18, g19, g80, g81, g82, hi]) ?_
      refine hX2 _ _ _ _ ?_
      refine hN13 _ _ _ ?_
      refine xc_two fun N17 hN17 => ?_
      refine xc_reg1 4 rfl fun K hK => ?_
      simp only [show (List.range 4).map (·, true) = [(0, true), (1, true), (2, true), (3, true)] from rfl, rslv_cons, rslv_nil, List.getElem?_toArray, List.getElem?_cons_zero, List.getElem?_cons_succ, gres]
      iterate 4 (refine seqX_hide2 fun R hR => ?_; simp [go_sem, hj, hw1, d76, d67, g1, g6, g7, g17, g18, g19, g80, g81, g82, hi]; refine hR _ _ _ ?_; clear hR R)
      rw [seqX_nil]
      refine hK _ _ _ ?_; clear hK K
      refine hN17 _ _ _ ?_
      rw [xc_block]
      rw [xc_loop]
      refine vloopK (fun k' e ds A' => ∃ (i : Nat) (D2 : View), k' = w.imps.length - i ∧ ds = [] ∧ A' = ov D2 [(q7, .cells (wc w.name w.ver w.cond w.alias (.slice b1' w.tags.length c1') w.en (.slice b2' w.imps.length c2')) 34 (0, 0)), (q6, .cells (wc w.name w.ver w.cond w.alias (.slice b1 w.tags.length c1) w.en (.slice b2 w.imps.length c2)) 34 (0, 0))] ∧ Priv D2 [q7, q6] ∧ e 1 = .slice (some a') l.length cp' ∧ e 6 = .pointer (some ⟨q6, 0, none⟩) ∧ e 7 = .pointer (some ⟨q7, 0, none⟩) ∧ e 17 = .slice (some a) l.length cp ∧ e 18 = .int .i64 l.length ∧ e 19 = .int .i64 j ∧ e 96 = .slice b2 w.imps.length c2 ∧ e 97 = .int .i64 w.imps.length ∧ e 98 = .int .i64 i ∧ (i ≤ w.imps.length) ∧ (D ≤ D2)) _ ⟨0, D, rfl, rfl, rfl, hP, by simp [go_sem, hj, hw1, d76, d67, g1, g6, g7, g17, g18, g19, g80, g81, g82], by simp [go_sem, hj, hw1, d76, d67, g1, g6, g7, g17, g18, g19, g80, g81, g82], by simp [go_sem, hj, hw1, d76, d67, g1, g6, g7, g17, g18, g19, g80, g81, g82], by simp [go_sem, hj, hw1, d76, d67, g1, g6, g7, g17, g18, g19, g80, g81, g82], by simp [go_sem, hj, hw1, d76, d67, g1, g6, g7, g17, g18, g19, g80, g81, g82], by simp [go_sem, hj, hw1, d76, d67, g1, g6, g7, g17, g18, g19, g80, g81, g82], by simp [go_sem, hj, hw1, d76, d67, g1, g6, g7, g17, g18, g19, g80, g81, g82], by simp [go_sem, hj, hw1, d76, d67, g1, g6, g7, g17, g18, g19, g80, g81, g82], by simp [go_sem, hj, hw1, d76, d67, g1, g6, g7, g17, g18, g19, g80, g81, g82], by omega, View.le_refl _⟩ ?_
      clear g1 g6 g7 g17 g18 g19 g80 g81 g82
      clear hP
      rintro k' e ds _ ⟨i, D2, rfl, rfl, rfl, hP, g1, g6, g7, g17, g18, g19, g96, g97, g98, hil, hDD⟩ J2 X2 hJ2 hX2
      refine xc_sound _ ?_
      have hw2 := wrap_nat (i := i) (by omega)
      by_cases hi : i < w.imps.length
      · obtain ⟨a3, cj, rfl, u3, hcj⟩ := heli i hi
        obtain ⟨a3', cj', rfl, u3', hcj'⟩ := heli' i hi
        have hcj : cj = impc w.imps[i] := hcj
        have hcj' : cj' = impc w.imps[i] := hcj'
        subst hcj hcj'
        generalize w.imps[i] = x at u3 u3'
        have u3 := le_cells (View.le_trans hAD hDD) _ _ _ u3
        have u3' := le_cells (View.le_trans hAD hDD) _ _ _ u3'
        have hxz : (impc x).size = 4 := rfl
        have hxo : ones (impc x) = true := rfl
        have hxe := eq61 x
        refine xc_two fun N18 hN18 => ?_
        refine xc_reg1 1 rfl fun K hK => ?_
        simp only [show (List.range 1).map (·, true) = [(0, true)] from rfl, rslv_cons, rslv_nil, List.getElem?_toArray, List.getElem?_cons_zero, List.getElem?_cons_succ, gres]
        (refine seqX_hide2 fun R hR => ?_; simp [go_sem, hj, hw1, d76, d67, g1, g6, g7, g17, g18, g19, g96, g97, g98, hi, hw2, bcs hP u3, bcs hP u3', hxz, hxo, hxe]; refine hR _ _ _ ?_; clear hR R)
        rw [seqX_nil]
        refine hK _ _ _ ?_; clear hK K
        refine hN18 _ _ _ ?_
        refine xc_two fun N19 hN19 => ?_
        refine xc_iftrue (by simp [go_sem, hj, hw1, d76, d67, g1, g6, g7, g17, g18, g19, g96, g97, g98, hi, hw2, bcs hP u3, bcs hP u3', hxz, hxo, hxe]) ?_
        refine hN19 _ _ _ ?_
        refine xc_two fun N20 hN20 => ?_
        rw [xc_block]
        refine xc_two fun N21 hN21 => ?_
        refine xc_reg1 6 rfl fun K hK => ?_
        simp only [show (List.range 6).map (·, true) = [(0, true), (1, true), (2, true), (3, true), (4, true), (5, true)] from rfl, rslv_cons, rslv_nil, List.getElem?_toArray, List.getElem?_cons_zero, List.getElem?_cons_succ, gres]
        iterate 3 (refine seqX_hide2 fun R hR => ?_; simp [go_sem, hj, hw1, d76, d67, g1, g6, g7, g17, g18, g19, g96, g97, g98, hi, hw2, bcs hP u3, bcs hP u3', hxz, hxo, hxe]; refine hR _ _ _ ?_; clear hR R)
        refine seqX_hide2 fun R hR => ?_
        simp [go_sem, hj, hw1, d76, d67, g1, g6, g7, g17, g18, g19, g96, g97, g98, hi, hw2, bcs hP u3, bcs hP u3', hxz, hxo, hxe]
        intro q11 hq11
        replace hP := hP.cons hq11
        clear hq11
        have d117 : q11 ≠ q7 := (hP.ne q7 (by simp [addrs])).1
        have d711 : q7 ≠ q11 := (hP.ne q7 (by simp [addrs])).2
        have d116 : q11 ≠ q6 := (hP.ne q6 (by simp [addrs])).1
        have d611 : q6 ≠ q11 := (hP.ne q6 (by simp [addrs])).2
        refine hR _ _ _ ?_; clear hR R
        (refine seqX_hide2 fun R hR => ?_; simp [go_sem, hj, hw1, d76, d67, g1, g6, g7, g17, g18, g19, g96, g97, g98, hi, hw2, bcs hP u3, bcs hP u3', hxz, hxo, hxe, d117, d711, d116, d611]; refine hR _ _ _ ?_; clear hR R)
        refine seqX_hide2 fun R hR => ?_
        simp [go_sem, hj, hw1, d76, d67, g1, g6, g7, g17, g18, g19, g96, g97, g98, hi, hw2, bcs hP u3, bcs hP u3', hxz, hxo, hxe, d117, d711, d116, d611]
        refine hR _ _ _ ?_; clear hR R
        rw [seqX_nil]
        refine hK _ _ _ ?_; clear hK K
        refine hN21 _ _ _ ?_
        refine xc_two fun N22 hN22 => ?_
        rw [xc_draws]
        refine vdrawK [(0, true), (1, true), (2, true), (3, true), (4, true), (5, true), (6, true)] (ov D2 [(q11, .cells (impc x) 61 (0, 0)), (q7, .cells (wc w.name w.ver w.cond w.alias (.slice b1' w.tags.length c1') w.en (.slice (some a3') w.imps.length c2')) 34 (0, 0)), (q6, .cells (wc w.name w.ver w.cond w.alias (.slice b1 w.tags.length c1) w.en (.slice (some a3) w.imps.length c2)) 34 (0, 0))]) mixed (by kernel_rfl) (View.le_refl _) fun K hK => ?_
        simp only [rslv_cons, rslv_nil, List.getElem?_toArray, List.getElem?_cons_zero, List.getElem?_cons_succ, gres]
        iterate 7 (refine seqR_hide fun R hR => ?_; simp [go_sem, hj, hw1, d76, d67, g1, g6, g7, g17, g18, g19, g96, g97, g98, hi, hw2, bcs hP u3, bcs hP u3', hxz, hxo, hxe, d117, d711, d116, d611]; refine hR _ _ _ ?_; clear hR R)
        rw [seqR_nil]
        refine hK _ _ _ ?_; clear hK K
        refine hN22 _ _ _ ?_
        refine xc_iffalse (by simp [go_sem, hj, hw1, d76, d67, g1, g6, g7, g17, g18, g19, g96, g97, g98, hi, hw2, bcs hP u3, bcs hP u3', hxz, hxo, hxe, d117, d711, d116, d611]) ?_
        refine hN20 _ _ _ ?_
        refine xc_reg1 2 rfl fun K hK => ?_
        simp only [show (List.range 2).map (·, true) = [(0, true), (1, true)] from rfl, rslv_cons, rslv_nil, List.getElem?_toArray, List.getElem?_cons_zero, List.getElem?_cons_succ, gres]
        iterate 2 (refine seqX_hide2 fun R hR => ?_; simp [go_sem, hj, hw1, d76, d67, g1, g6, g7, g17, g18, g19, g96, g97, g98, hi, hw2, bcs hP u3, bcs hP u3', hxz, hxo, hxe, d117, d711, d116, d611]; refine hR _ _ _ ?_; clear hR R)
        rw [seqX_nil]
        refine hK _ _ _ ?_; clear hK K
        refine sink_goal 0 hP rfl fun hPn lq11 nq11 => ?_
        clear hP; have hP := hPn; clear hPn
        simp only [List.eraseIdx_cons_zero, List.eraseIdx_cons_succ, addrs_cons, addrs_nil] at hP ⊢
        refine hJ2 (w.imps.length - (i + 1)) _ _ _ (by omega) ⟨i + 1, _, rfl, rfl, rfl, hP, by simp [go_sem, hj, hw1, d76, d67, g1, g6, g7, g17, g18, g19, g96, g97, g98, hi, hw2, hxz, hxo, hxe, d117, d711, d116, d611], by simp [go_sem, hj, hw1, d76, d67, g1, g6, g7, g17, g18, g19, g96, g97, g98, hi, hw2, hxz, hxo, hxe, d117, d711, d116, d611], by simp [go_sem, hj, hw1, d76, d67, g1, g6, g7, g17, g18, g19, g96, g97, g98, hi, hw2, hxz, hxo, hxe, d117, d711, d116, d611], by simp [go_sem, hj, hw1, d76, d67, g1, g6, g7, g17, g18, g19, g96, g97, g98, hi, hw2, hxz, hxo, hxe, d117, d711, d116, d611], by simp [go_sem, hj, hw1, d76, d67, g1, g6, g7, g17, g18, g19, g96, g97, g98, hi, hw2, hxz, hxo, hxe, d117, d711, d116, d611], by simp [go_sem, hj, hw1, d76, d67, g1, g6, g7, g17, g18, g19, g96, g97, g98, hi, hw2, hxz, hxo, hxe, d117, d711, d116, d611], by simp [go_sem, hj, hw1, d76, d67, g1, g6, g7, g17, g18, g19, g96, g97, g98, hi, hw2, hxz, hxo, hxe, d117, d711, d116, d611], by simp [go_sem, hj, hw1, d76, d67, g1, g6, g7, g17, g18, g19, g96, g97, g98, hi, hw2, hxz, hxo, hxe, d117, d711, d116, d611], by simp [go_sem, hj, hw1, d76, d67, g1, g6, g7, g17, g18, g19, g96, g97, g98, hi, hw2, hxz, hxo, hxe, d117, d711, d116, d611], by omega, View.le_trans hDD lq11⟩
      · skip
        refine xc_two fun N18 hN18 => ?_
        refine xc_reg1 1 rfl fun K hK => ?_
        simp only [show (List.range 1).map (·, true) = [(0, true)] from rfl, rslv_cons, rslv_nil, List.getElem?_toArray, List.getElem?_cons_zero, List.getElem?_cons_succ, gres]
        (refine seqX_hide2 fun R hR => ?_; simp [go_sem, hj, hw1, d76, d67, g1, g6, g7, g17, g18, g19, g96, g97, g98, hi]; refine hR _ _ _ ?_; clear hR R)
        rw [seqX_nil]
        refine hK _ _ _ ?_; clear hK K
        refine hN18 _ _ _ ?_
        refine xc_two fun N19 hN19 => ?_
        refine xc_iffalse (by simp [go_sem, hj, hw1, d76, d67, g1, g6, g7, g17, g18, g19, g96, g97, g98, hi]) ?_
        refine hX2 _ _ _ _ ?_
        refine hN8 _ _ _ ?_
        refine xc_reg1 2 rfl fun K hK => ?_
        simp only [show (List.range 2).map (·, true) = [(0, true), (1, true)] from rfl, rslv_cons, rslv_nil, List.getElem?_toArray, List.getElem?_cons_zero, List.getElem?_cons_succ, gres]
        iterate 2 (refine seqX_hide2 fun R hR => ?_; simp [go_sem, hj, hw1, d76, d67, g1, g6, g7, g17, g18, g19, g96, g97, g98, hi]; refine hR _ _ _ ?_; clear hR R)
        rw [seqX_nil]
        refine hK _ _ _ ?_; clear hK K
        refine sink_goal 0 hP rfl fun hPn lq7 nq7 => ?_
        clear hP; have hP := hPn; clear hPn
        simp only [List.eraseIdx_cons_zero, List.eraseIdx_cons_succ, addrs_cons, addrs_nil] at hP ⊢
        refine sink_goal 0 hP rfl fun hPn lq6 nq6 => ?_
        clear hP; have hP := hPn; clear hPn
        simp only [List.eraseIdx_cons_zero, List.eraseIdx_cons_succ, addrs_cons, addrs_nil] at hP ⊢
        refine hJ1 (l.length - (j + 1)) _ _ _ (by omega) ⟨j + 1, _, rfl, rfl, rfl, hP, by simp [go_sem, hj, hw1, d76, d67, g1, g6, g7, g17, g18, g19, g96, g97, g98, hi], by simp [go_sem, hj, hw1, d76, d67, g1, g6, g7, g17, g18, g19, g96, g97, g98, hi], by simp [go_sem, hj, hw1, d76, d67, g1, g6, g7, g17, g18, g19, g96, g97, g98, hi], by simp [go_sem, hj, hw1, d76, d67, g1, g6, g7, g17, g18, g19, g96, g97, g98, hi], by omega, View.le_trans hAD (View.le_trans hDD (View.le_trans lq7 lq6))⟩
  · skip
    refine xc_two fun N6 hN6 => ?_
    refine xc_reg1 1 rfl fun K hK => ?_
    simp only [show (List.range 1).map (·, true) = [(0, true)] from rfl, rslv_cons, rslv_nil, List.getElem?_toArray, List.getElem?_cons_zero, List.getElem?_cons_succ, gres]
    (refine seqX_hide2 fun R hR => ?_; simp [go_sem, g1, g17, g18, g19, hj]; refine hR _ _ _ ?_; clear hR R)
    rw [seqX_nil]
    refine hK _ _ _ ?_; clear hK K
    refine hN6 _ _ _ ?_
    refine xc_two fun N7 hN7 => ?_
    refine xc_iffalse (by simp [go_sem, g1, g17, g18, g19]) ?_
    refine hX1 _ _ _ _ ?_
    refine hN4 _ _ _ ?_
    refine xc_two fun N8 hN8 => ?_
    refine xc_reg1 1 rfl fun K hK => ?_
    simp only [show (List.range 1).map (·, true) = [(0, true)] from rfl, rslv_cons, rslv_nil, List.getElem?_toArray, List.getElem?_cons_zero, List.getElem?_cons_succ, gres]
    (refine seqX_hide2 fun R hR => ?_; simp [go_sem, g1, g17, g18, g19]; refine hR _ _ _ ?_; clear hR R)
    rw [seqX_nil]
    refine hK _ _ _ ?_; clear hK K
    refine hN8 _ _ _ ?_
    simp [go_sem, g1, g17, g18, g19]
    exact hAD
end Go.Proofs.YtogfpbnbojhpoaaV

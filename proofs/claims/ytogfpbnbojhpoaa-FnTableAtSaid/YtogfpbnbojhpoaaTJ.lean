/- Tables: FnTableAt. -/
import Derived.Test.YtogfpbnbojhpoaaTI
namespace Go.Proofs.YtogfpbnbojhpoaaV
open Go.RowKit
theorem r7_good (lv : Nat) (h : 0 < lv) : Good r7 lv := by
  unfold r7
  rw [Good]
  exact ⟨h, fun _ => rfl, fun h => absurd rfl h, .inr (.inr (.inr (.inr (.inr (.inr ⟨rfl, fun i h => absurd h (by simp), rfl⟩))))), fun j h => absurd h (Nat.not_lt_zero _)⟩
theorem r7a_good : Good r7a 50 := by
  unfold r7a
  rw [Good]
  refine ⟨by decide, fun h => absurd h (by decide), fun h => absurd rfl h, .inr (.inr (.inr (.inr (.inr (.inr ⟨rfl, fun i h => absurd h (by simp), rfl⟩))))), fun j h => ?_⟩
  have hj0 : j = 0 := by simpa using h
  subst hj0
  exact r7_good 49 (by decide)
theorem r7a_nodes : nodes r7a ≤ 2000 := by
  unfold r7a
  rw [nodes_mk]
  simp only [List.map_cons, List.map_nil, List.sum_cons, List.sum_nil]
  unfold r7
  rw [nodes_mk]
  decide
theorem r7a_walk : walkT r7a [aB] = some r7 := by
  simp [walkT, at', atR, kindOf, r7a, r7]
theorem kind_norm (v : RV) (h : kindOf v = 7) : kindOf (norm v) = 7 := by
  obtain ⟨k, b, i, f, t, keys, list⟩ := v
  simp only [kindOf] at h
  subst h
  rw [norm]
  simp [kindOf]
set_option maxRecDepth 20000 in
set_option maxHeartbeats 4000000 in
theorem path19 (A : View) (p : ByteArray) (hp : p.size ≤ 2147483648) : VCalls Try.prog 19 #[.string p] A fun r A' => isB r ∧ A ≤ A' := by
  refine xcalls Try.func19 rfl (by simp [Try.ntmps19]) ?_
  simp only [Try.f19]
  refine xc_step fun C hC => ?_
  simp [go_sem]
  subst hC
  refine xc_step fun C hC => ?_
  simp [go_sem]
  refine (names47 A p hp).mono ?_
  rintro r B ⟨hT, hB⟩
  have hpl := parts_length p
  generalize parts p = ps at hT hpl
  obtain ⟨bn, cn, rfl⟩ := hT.slice
  simp [go_sem, xlen]
  refine vloopK (fun k e ds A' => ∃ i : Nat, k + i = ps.length ∧ A' = B ∧ ds = [] ∧ e 0 = .string p ∧ e 6 = .slice bn ps.length cn ∧ e 7 = .int .i64 ps.length ∧ e 8 = .int .i64 i) ps.length
    ⟨0, by simp, rfl, rfl, by simp [go_sem], by simp [go_sem], by simp [go_sem], by simp [go_sem]⟩ ?_
  rintro k e ds B ⟨i, hk, rfl, rfl, g0, g6, g7, g8⟩ J X hJ hX
  refine xc_sound _ ?_
  by_cases hi : i < ps.length
  · obtain ⟨a, cap, f1, u1⟩ := hT.at' hi
    simp only [Value.slice.injEq] at f1
    obtain ⟨rfl, -, rfl⟩ := f1
    have hw := wrap_nat (i := i) (by omega)
    refine xc_step fun C3 hC3 => ?_
    simp [go_sem, g7, g8, xbin, eqPlain, hi]
    subst hC3
    refine xc_step fun C3 hC3 => ?_
    simp [go_sem]
    subst hC3
    refine xc_step fun C3 hC3 => ?_
    rw [xc_seq, xc_block]
    refine xc_step fun C2 hC2 => ?_
    simp [go_sem, g6, g8, xindexAt, hi, vload, u1]
    subst hC2
    cases he : ps[i].toList.isEmpty with
    | true =>
      simp [go_sem, xbin, eqPlain, he]
      refine hX _ _ _ _ ?_
      simp [go_sem]
      exact hB
    | false =>
      simp [go_sem, xbin, eqPlain, he]
      subst hC3
      simp [go_sem, g8, xbin, eqPlain, hw]
      exact hJ (k - 1) _ _ _ (by omega) ⟨i + 1, by omega, rfl, rfl, by simp [go_sem, g0], by simp [go_sem, g6], by simp [go_sem, g7], by simp [go_sem]⟩
  · refine xc_step fun C3 hC3 => ?_
    simp [go_sem, g7, g8, xbin, eqPlain, hi]
    subst hC3
    refine xc_step fun C3 hC3 => ?_
    simp [go_sem]
    refine hX _ _ _ _ ?_
    simp [go_sem]
    subst hC
    simp [go_sem, g0, xlen, xbin, eqPlain]
    exact hB
set_option maxRecDepth 20000 in
set_option maxHeartbeats 4000000 in
theorem tableAt5 (A : View) (v : RV) (c : Array Value) (p : ByteArray) (hc : IsRV A v c) : VCalls Try.prog 5 #[.agg c, .string p] A fun r A' => r = .bool true ∧ A ≤ A' := by
  refine xcalls Try.func5 rfl (by simp [Try.ntmps5]) ?_
  have hcz := hc.size
  simp only [Try.f5]
  refine xc_step fun C hC => ?_
  simp [go_sem, xnew, Value.cells]
  intro q hq
  subst hC
  have LA : A ≤ A.set q (.cells c 27) := le_set hq
  have hN := set_at A q (.cells c 27)
  have hc := hc.le LA
  generalize A.set q (.cells c 27) = B at LA hN hc
  clear hq
  have gq := cells_block hN hcz
  refine xc_step fun C hC => ?_
  simp [go_sem, vload, gq]
  refine (fits10 B v c hc).mono ?_
  rintro _ B1 ⟨⟨x, rfl⟩, L1⟩
  have LA := View.le_trans LA L1
  cases x with
  | false =>
    simp [go_sem, xunop, gval, undef]
    exact LA
  | true =>
  by_cases hpz : (2147483647 : Int) < p.size
  · simp [go_sem, xunop, gval, undef, xlen, xbin, eqPlain, hpz]
    exact LA
  simp [go_sem, xunop, gval, undef, xlen, xbin, eqPlain, hpz]
  subst hC
  have hp : p.size ≤ 2147483648 := by omega
  have hc := hc.le L1
  have hN := L1 _ _ hN
  clear L1
  have gq := cells_block hN hcz
  refine xc_step fun C hC => ?_
  simp [go_sem, vload, gq]
  refine (tbTable12 B1 v c hc).mono ?_
  rintro _ B2 ⟨⟨x, rfl, hx⟩, L1⟩
  have LA := View.le_trans LA L1
  cases x with
  | false =>
    simp [go_sem, xunop, gval, undef]
    exact LA
  | true =>
  simp [go_sem, xunop, gval, undef]
  refine (path19 B2 p hp).mono ?_
  rintro _ B3 ⟨⟨y, rfl⟩, L3⟩
  have hT := hx rfl
  have LA := View.le_trans LA L3
  have L13 := View.le_trans L1 L3
  have hc := hc.le L13
  have hN := L13 _ _ hN
  clear L1 hx gq L3 L13
  cases y with
  | false =>
    simp [go_sem, xunop, gval, undef]
    exact LA
  | true =>
  simp [go_sem, xunop, gval, undef]
  subst hC
  obtain ⟨h7, hG, hn⟩ := hT
  have gq := cells_block hN hcz
  refine xc_step fun C hC => ?_
  simp [go_sem, vload, gq]
  refine (tableAt20 B3 v c 50 p hc hG (by decide) (by omega) h7 hp).mono ?_
  rintro r B4 ⟨hR, L4⟩
  have LA := View.le_trans LA L4
  have hc := hc.le L4
  have hN := L4 _ _ hN
  clear gq L4
  have hR2 : ∃ (c2 : Array Value) (n : Int) (w : RV), r = .tuple #[.agg c2, .int .i64 n] ∧ IsRV B4 w c2 ∧ ((∃ u, walkT v (parts p) = some u ∧ n = 0 ∧ w = norm u) ∨ (walkT v (parts p) = none ∧ n = 1)) := by
    rcases hR with ⟨u, c2, h1, h2, h3⟩ | ⟨h1, c2, h2, h3⟩
    · exact ⟨c2, 0, _, h2, h3, .inl ⟨u, h1, rfl, rfl⟩⟩
    · exact ⟨c2, 1, _, h2, h3, .inr ⟨h1, rfl⟩⟩
  obtain ⟨c2, n, w, rfl, hw, hnw⟩ := hR2
  clear hR
  simp [go_sem, xnew, zeroOf, Value.cells, Instr.fill, zerosB]
  intro m5 hm5
  have hst : xstore Try.prog 27 (.pointer (some ⟨m5, 0, none⟩)) (.agg c2) (B4.set m5 (.cells zc 27)) = some (B4.set m5 (.cells c2 27 (0, 0))) := by
    rw [xstore_agg (c := zc) ti27 hw.size (set_at B4 m5 _) (by rw [hw.size]; rfl) hw.one, set_set]
  rw [hst, onS_some]
  have L4 := le_set (o := .cells c2 27) hm5
  have h5 := set_at B4 m5 (.cells c2 27)
  have hN := L4 _ _ hN
  have hc := hc.le L4
  have hw := hw.le L4
  have LA := View.le_trans LA L4
  generalize B4.set m5 (.cells c2 27) = B5 at h5 hN hc hw LA
  clear hst L4 hm5
  subst hC
  have gq := cells_block hN hcz
  refine xc_step fun C hC => ?_
  simp [go_sem, vload, gq]
  refine (tableAt21 B5 v c 50 p hc hG hp).mono ?_
  rintro r B6 ⟨hR, L4⟩
  have LA := View.le_trans LA L4
  have hc := hc.le L4
  have hw := hw.le L4
  have h5 := L4 _ _ h5
  clear gq L4
  have hR2 : ∃ (c3 : Array Value) (z : Bool) (w' : RV), r = .tuple #[.agg c3, .bool z] ∧ IsRV B6 w' c3 ∧ ((∃ u, walkT v (parts p) = some u ∧ z = true ∧ w' = u) ∨ (walkT v (parts p) = none ∧ z = false)) := by
    rcases hR with ⟨u, c3, h1, h2, h3⟩ | ⟨h1, h2⟩
    · exact ⟨c3, true, _, h2, h3, .inl ⟨u, h1, rfl, rfl⟩⟩
    · exact ⟨zc, false, rz, h2, rz_is B6, .inr ⟨h1, rfl⟩⟩
  obtain ⟨c3, z, w', rfl, hw', hnz⟩ := hR2
  clear hR
  simp [go_sem, xnew, zeroOf, Value.cells, Instr.fill, zerosB]
  intro m7 hm7
  have hst : xstore Try.prog 27 (.pointer (some ⟨m7, 0, none⟩)) (.agg c3) (B6.set m7 (.cells zc 27)) = some (B6.set m7 (.cells c3 27 (0, 0))) := by
    rw [xstore_agg (c := zc) ti27 hw'.size (set_at B6 m7 _) (by rw [hw'.size]; rfl) hw'.one, set_set]
  rw [hst, onS_some]
  have L4 := le_set (o := .cells c3 27) hm7
  have h77 := set_at B6 m7 (.cells c3 27)
  have h5 := L4 _ _ h5
  have hw := hw.le L4
  have hw' := hw'.le L4
  have LA := View.le_trans LA L4
  generalize B6.set m7 (.cells c3 27) = B7 at h77 h5 hw hw' LA
  clear hst L4 hm7 hN hc
  subst hC
  refine xc_step fun C hC => ?_
  simp [go_sem, xbuild, Instr.fill, Value.cells]
  refine (pathMap22 B7).mono ?_
  rintro r B8 ⟨c4, rfl, hc4, L4⟩
  refine (tableAt20 B8 r7a c4 50 aB hc4 r7a_good (by decide) r7a_nodes rfl (by decide)).mono ?_
  rintro r B9 ⟨hR, L5⟩
  rw [parts_a] at hR
  rcases hR with ⟨u, c5, h1, rfl, hc5⟩ | ⟨h1, _⟩
  · rw [r7a_walk, Option.some.injEq] at h1
    subst h1
    have L4 := View.le_trans L4 L5
    have h77 := L4 _ _ h77
    have h5 := L4 _ _ h5
    have hw := hw.le L4
    have hw' := hw'.le L4
    have LA := View.le_trans LA L4
    clear L4 L5
    simp [go_sem, xnew, zeroOf, Value.cells, Instr.fill, zerosB]
    intro m9 hm9
    have hst : xstore Try.prog 27 (.pointer (some ⟨m9, 0, none⟩)) (.agg c5) (B9.set m9 (.cells zc 27)) = some (B9.set m9 (.cells c5 27 (0, 0))) := by
      rw [xstore_agg (c := zc) ti27 hc5.size (set_at B9 m9 _) (by rw [hc5.size]; rfl) hc5.one, set_set]
    rw [hst, onS_some]
    have L4 := le_set (o := .cells c5 27) hm9
    have h9 := set_at B9 m9 (.cells c5 27)
    have h5 := L4 _ _ h5
    have h77 := L4 _ _ h77
    have hw := hw.le L4
    have hw' := hw'.le L4
    have hc5 := hc5.le L4
    have LA := View.le_trans LA L4
    generalize B9.set m9 (.cells c5 27) = D at h77 h5 h9 hw hw' hc5 LA
    clear hst L4 hm9
    have g9 := cells_block h9 hc5.size
    simp [go_sem, xbin, eqPlain, gval, undef, vload, g9]
    refine (isTable23 D _ c5 hc5).mono ?_
    rintro _ E ⟨rfl, LE⟩
    have h77 := LE _ _ h77
    have h5 := LE _ _ h5
    have hw := hw.le LE
    have hw' := hw'.le LE
    have LA := View.le_trans LA LE
    have hk7 : kindOf (norm r7) = 7 := kind_norm r7 rfl
    simp [go_sem, xunop, hk7, gval, undef]
    subst hC
    rcases hnz with ⟨u, h1, rfl, rfl⟩ | ⟨h1, rfl⟩
    · rcases hnw with ⟨u', h2, rfl, rfl⟩ | ⟨h2, _⟩
      · rw [h1, Option.some.injEq] at h2
        subst h2
        obtain ⟨⟨l', hGu, hl'⟩, hnu⟩ := good_walk _ _ _ _ hG h1
        have g5 := cells_block h5 hw.size
        have g77 := cells_block h77 hw'.size
        have hnn := nodes_norm w'
        simp [go_sem, xunop, vload, g5, g77]
        refine (tbGot17 E (norm w') w' c2 c3 l' l' hw hw' (good_norm w' l' hGu) hGu (norm_norm w') (by omega)).mono ?_
        rintro _ F ⟨rfl, LF⟩
        exact ⟨rfl, View.le_trans LA LF⟩
      · rw [h1] at h2; cases h2
    · rcases hnw with ⟨u', h2, _⟩ | ⟨h2, rfl⟩
      · rw [h1] at h2; cases h2
      · simp [go_sem, xunop, xbin, eqPlain]
        exact LA
  · rw [r7a_walk] at h1
    cases h1
theorem law5 (W : World) (c : Array Value) (v : RV) (o : IsRV (full W) v c) (p : ByteArray) (hp : p.size ≤ 140737488351232) : VCalls Try.prog 5 #[.agg c, .string p] (full W) fun r A' => r = .bool true ∧ full W ≤ A' := tableAt5 (full W) v c p o
end Go.Proofs.YtogfpbnbojhpoaaV

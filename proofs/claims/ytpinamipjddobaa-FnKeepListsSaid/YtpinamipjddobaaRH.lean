/- Trees: SetField on an empty mapping; tfLives. -/
import Derived.Test.YtpinamipjddobaaRG
namespace Go.Proofs.YtpinamipjddobaaV
open Go.RowKit
set_option linter.unusedSimpArgs false
set_option linter.unusedVariables false
theorem pt_tn (s : ByteArray) {lv : Nat} (h : 0 < lv) : PT lv (tn s) := by
  rw [tn, PT]
  exact ⟨h, ⟨rfl, rfl⟩, .inl rfl, fun j hj => absurd hj (Nat.not_lt_zero _)⟩
theorem nds_tn (s : ByteArray) : nds (tn s) = 1 := by
  rw [tn, nds_mk]
  rfl
theorem pt_mapE {lv : Nat} (h : 0 < lv) : PT lv mapE := by
  rw [mapE, mapN, PT]
  exact ⟨h, ⟨rfl, rfl⟩, .inr (.inr rfl), fun j hj => absurd hj (Nat.not_lt_zero _)⟩
theorem nds_mapE : nds mapE = 1 := by
  rw [mapE, mapN, nds_mk]
  rfl
theorem nt_oneF (nm : ByteArray) : NT (oneF nm) := by
  rw [oneF]
  refine NT.mk' (by omega) (by omega) rfl fun x hx => ?_
  simp only [List.mem_cons, List.not_mem_nil, or_false] at hx
  rcases hx with rfl | rfl
  · rw [keyT]
    exact NT.mk' (by omega) (by omega) rfl fun x hx => by cases hx
  · exact (pt_tn vRed (lv := 1) (by omega)).nt
theorem nds_oneF (nm : ByteArray) : nds (oneF nm) ≤ 1000000 := by
  rw [oneF, nds_mk]
  simp [nds_tn, keyT, nds_mk]
set_option maxRecDepth 20000 in
theorem rmaybe48 (A : View) (t : Tr) (lv : Nat) (l : Value) (hl : Trs A l [t]) (hpt : PT lv t) (hnd : nds t ≤ 400) (hlv : lv ≤ 40) : VCalls Try.prog 48 #[l] A fun r A' => ∃ q p, r = .tuple #[ptr0 q, .bool true] ∧ A' q = some (.cells #[.slice none 0 0, ptr0 p, .bool false, .slice none 0 0] 111 (0, 0)) ∧ q ≠ p ∧ A q = none ∧ TopY A A' t p := by
  obtain ⟨vb, vc, rfl⟩ := hl.slice
  obtain ⟨bs', cap', f1, hel⟩ := hl
  simp only [Value.slice.injEq, true_and] at f1
  obtain ⟨rfl, rfl⟩ := f1
  obtain ⟨a1, ci, rfl, u1, hci⟩ := hel 0 (by simp)
  rw [show a1.add (0 * 12) = a1 from if_pos rfl] at u1
  have hz := hci.size
  have ho := hci.ones
  refine xcalls Try.func48 rfl (by simp [Try.ntmps48]) ?_
  simp only [Try.f48]
  have hP : Priv A (addrs []) := Priv.nil A
  show xc _ _ _ _ _ _ (ov A [])
  refine xc_two fun N1 hN1 => ?_
  refine xc_reg2 fun K hK => ?_
  simp only [rall, rsl, gres]
  iterate 2 (refine seqX_hide2 fun R hR => ?_; simp [go_sem, hz, ho, bcs hP u1]; refine hR _ _ _ ?_; clear hR R)
  rw [seqX_nil]
  refine hK _ _ _ ?_; clear hK K
  refine hN1 _ _ _ ?_
  refine xc_two fun N2 hN2 => ?_
  refine xc_two fun N3 hN3 => ?_
  refine xc_reg2 fun K hK => ?_
  simp only [rall, rsl, gres]
  iterate 3 (refine seqX_hide2 fun R hR => ?_; simp [go_sem, hz, ho, bcs hP u1]; refine hR _ _ _ ?_; clear hR R)
  rw [seqX_nil]
  refine hK _ _ _ ?_; clear hK K
  refine hN3 _ _ _ ?_
  refine xc_iffalse (by simp [go_sem, hz, ho, bcs hP u1]) ?_
  refine hN2 _ _ _ ?_
  refine xc_two fun N4 hN4 => ?_
  refine xc_reg2 fun K hK => ?_
  simp only [rall, rsl, gres]
  iterate 3 (refine seqX_hide2 fun R hR => ?_; simp [go_sem, hz, ho, bcs hP u1]; refine hR _ _ _ ?_; clear hR R)
  refine seqX_hide2 fun R hR => ?_
  simp [go_sem, hz, ho, bcs hP u1]
  refine call_ov hP (rootedS A t lv ci hci hpt hnd hlv) ?_
  clear hP
  rintro _ A2 ⟨q, p, rfl, h1, h2, h3, h4⟩ hP
  refine hR _ _ _ ?_; clear hR R
  iterate 5 (refine seqX_hide2 fun R hR => ?_; simp [go_sem, hz, ho]; refine hR _ _ _ ?_; clear hR R)
  rw [seqX_nil]
  refine hK _ _ _ ?_; clear hK K
  refine hN4 _ _ _ ?_
  refine xc_two fun N5 hN5 => ?_
  refine xc_reg2 fun K hK => ?_
  simp only [rall, rsl, gres]
  iterate 9 (refine seqX_hide2 fun R hR => ?_; simp [go_sem, hz, ho]; refine hR _ _ _ ?_; clear hR R)
  rw [seqX_nil]
  refine hK _ _ _ ?_; clear hK K
  refine hN5 _ _ _ ?_
  simp [go_sem, hz, ho]
  exact ⟨p, h1, h2, h3, h4⟩
theorem conv_st (k : Int) : xconv Try.prog 3 71 (.int .i64 k) = some (.int .u32 (IntKind.u32.wrap k)) := by
  kernel_rfl
theorem caught46 (p q s : Addr) (w : World) :
    CallsD Try.prog 46 #[.pointer (some p), .pointer (some q), .pointer (some s)] .returning w fun e u' w' => (∃ v, e = .returned v) ∧ u' = .returning ∧ w' = w := by
  refine callsD_of_wpS Try.func46 rfl fun c₀ cs hu => ?_
  apply wpS_seq
  apply wpS_region
  simp [wpOpsS, go_sem, recoverD, hu, Try.ntmps46, Exit.thenS]
  refine wpS_cond (t := false) (by simp [Act.eval, Array.replicate]) ?_
  simp only [Bool.false_eq_true, if_false]
  refine wpS_of_wp (wp_skip ?_)
  cases c₀
  simp_all [bodyPostS, results, Try.results46]
set_option maxRecDepth 20000 in
set_option maxHeartbeats 400000 in
theorem setField17 (A : View) (c : Array Value) (nm : ByteArray) (l : Value) (hc : IsTr A mapE c) (hl : Trs A l [tn vRed]) (hnm : nm ≠ e0) :
    VCalls Try.prog 17 #[.agg c, .string nm, l, .bool false, .int .i64 0] A fun r A' => ∃ c1 fv, r = .tuple #[.agg c1, fv, .int .i64 0] ∧ IsTr A' (oneF nm) c1 ∧ Trs A' fv [tn vRed] ∧ A ≤ A' := by
  have hcz := hc.size
  have hco := hc.ones
  have hw0 : IntKind.u32.wrap 0 = 0 := by decide
  have hw64 : IntKind.i64.wrap 0 = 0 := by decide
  have hcs := conv_st 0
  rw [hw0] at hcs
  refine xcallsD Try.func17 rfl (by simp [Try.ntmps17]) ?_
  simp only [Try.f17]
  have hP : Priv A (addrs []) := Priv.nil A
  show xc _ _ _ _ _ _ (ov A [])
  refine xc_two fun N1 hN1 => ?_
  refine xc_reg2 fun K hK => ?_
  simp only [rall, rsl, gres]
  refine seqX_hide2 fun R hR => ?_
  simp [go_sem, hcz, hco, hw64, hw0]
  intro q5 hq5
  replace hP := hP.cons hq5
  clear hq5
  refine hR _ _ _ ?_; clear hR R
  refine seqX_hide2 fun R hR => ?_
  simp [go_sem, hcz, hco, hw64, hw0]
  intro q10 hq10
  replace hP := hP.cons hq10
  clear hq10
  have d105 : q10 ≠ q5 := (hP.ne q5 (by simp [addrs])).1
  have d510 : q5 ≠ q10 := (hP.ne q5 (by simp [addrs])).2
  refine hR _ _ _ ?_; clear hR R
  refine seqX_hide2 fun R hR => ?_
  simp [go_sem, hcz, hco, hw64, hw0, d105, d510]
  intro q11 hq11
  replace hP := hP.cons hq11
  clear hq11
  have d1110 : q11 ≠ q10 := (hP.ne q10 (by simp [addrs])).1
  have d1011 : q10 ≠ q11 := (hP.ne q10 (by simp [addrs])).2
  have d115 : q11 ≠ q5 := (hP.ne q5 (by simp [addrs])).1
  have d511 : q5 ≠ q11 := (hP.ne q5 (by simp [addrs])).2
  refine hR _ _ _ ?_; clear hR R
  refine seqX_hide2 fun R hR => ?_
  simp [go_sem, hcz, hco, hw64, hw0, d105, d510, d1110, d1011, d115, d511]
  intro q12 hq12
  replace hP := hP.cons hq12
  clear hq12
  have d1211 : q12 ≠ q11 := (hP.ne q11 (by simp [addrs])).1
  have d1112 : q11 ≠ q12 := (hP.ne q11 (by simp [addrs])).2
  have d1210 : q12 ≠ q10 := (hP.ne q10 (by simp [addrs])).1
  have d1012 : q10 ≠ q12 := (hP.ne q10 (by simp [addrs])).2
  have d125 : q12 ≠ q5 := (hP.ne q5 (by simp [addrs])).1
  have d512 : q5 ≠ q12 := (hP.ne q5 (by simp [addrs])).2
  refine hR _ _ _ ?_; clear hR R
  rw [seqX_nil]
  refine hK _ _ _ ?_; clear hK K
  refine hN1 _ _ _ ?_
  refine xc_two fun N2 hN2 => ?_
  refine xc_reg2 fun K hK => ?_
  simp only [rall, rsl, gres]
  (refine seqX_hide2 fun R hR => ?_; simp [go_sem, hcz, hco, hw64, hw0, d105, d510, d1110, d1011, d115, d511, d1211, d1112, d1210, d1012, d125, d512]; refine hR _ _ _ ?_; clear hR R)
  refine seqX_hide2 fun R hR => ?_
  simp [go_sem, hcz, hco, hw64, hw0, d105, d510, d1110, d1011, d115, d511, d1211, d1112, d1210, d1012, d125, d512, toDefer]
  refine hR _ _ _ ?_; clear hR R
  rw [seqX_nil]
  refine hK _ _ _ ?_; clear hK K
  refine hN2 _ _ _ ?_
  refine xc_two fun N3 hN3 => ?_
  refine xc_reg2 fun K hK => ?_
  simp only [rall, rsl, gres]
  (refine seqX_hide2 fun R hR => ?_; simp [go_sem, hcz, hco, hw64, hw0, d105, d510, d1110, d1011, d115, d511, d1211, d1112, d1210, d1012, d125, d512]; refine hR _ _ _ ?_; clear hR R)
  refine seqX_hide2 fun R hR => ?_
  simp [go_sem, hcz, hco, hw64, hw0, d105, d510, d1110, d1011, d115, d511, d1211, d1112, d1210, d1012, d125, d512]
  refine call_ov hP (rootedS A mapE 12 c hc (pt_mapE (by omega)) (by rw [nds_mapE]; omega) (by omega)) ?_
  clear hP
  rintro _ A2 ⟨q, p, rfl, hq, hqp, hq0, HT⟩ hP
  have hA2 := HT.le
  refine hR _ _ _ ?_; clear hR R
  iterate 5 (refine seqX_hide2 fun R hR => ?_; simp [go_sem, hcz, hco, hw64, hw0, d105, d510, d1110, d1011, d115, d511, d1211, d1112, d1210, d1012, d125, d512]; refine hR _ _ _ ?_; clear hR R)
  rw [seqX_nil]
  refine hK _ _ _ ?_; clear hK K
  refine hN3 _ _ _ ?_
  refine xc_two fun N4 hN4 => ?_
  refine xc_reg2 fun K hK => ?_
  simp only [rall, rsl, gres]
  (refine seqX_hide2 fun R hR => ?_; simp [go_sem, hcz, hco, hw64, hw0, d105, d510, d1110, d1011, d115, d511, d1211, d1112, d1210, d1012, d125, d512]; refine hR _ _ _ ?_; clear hR R)
  refine seqX_hide2 fun R hR => ?_
  simp [go_sem, hcz, hco, hw64, hw0, d105, d510, d1110, d1011, d115, d511, d1211, d1112, d1210, d1012, d125, d512]
  refine call_ov hP (rmaybe48 A2 (tn vRed) 12 l (hl.le hA2) (pt_tn _ (by omega)) (by rw [nds_tn]; omega) (by omega)) ?_
  clear hP
  rintro _ A3 ⟨qv, pv, rfl, hqv, hqpv, hqv0, HV⟩ hP
  have hA3 := HV.le
  have hyv0 := HV.yn
  refine hR _ _ _ ?_; clear hR R
  iterate 5 (refine seqX_hide2 fun R hR => ?_; simp [go_sem, hcz, hco, hw64, hw0, d105, d510, d1110, d1011, d115, d511, d1211, d1112, d1210, d1012, d125, d512]; refine hR _ _ _ ?_; clear hR R)
  rw [seqX_nil]
  refine hK _ _ _ ?_; clear hK K
  refine hN4 _ _ _ ?_
  refine xc_two fun N5 hN5 => ?_
  refine xc_two fun N6 hN6 => ?_
  refine xc_reg2 fun K hK => ?_
  simp only [rall, rsl, gres]
  iterate 6 (refine seqX_hide2 fun R hR => ?_; simp [go_sem, hcz, hco, hw64, hw0, d105, d510, d1110, d1011, d115, d511, d1211, d1112, d1210, d1012, d125, d512]; refine hR _ _ _ ?_; clear hR R)
  rw [seqX_nil]
  refine hK _ _ _ ?_; clear hK K
  refine hN6 _ _ _ ?_
  refine xc_iffalse (by simp [go_sem, hcz, hco, hw64, hw0, d105, d510, d1110, d1011, d115, d511, d1211, d1112, d1210, d1012, d125, d512]) ?_
  refine hN5 _ _ _ ?_
  refine xc_two fun N7 hN7 => ?_
  refine xc_reg2 fun K hK => ?_
  simp only [rall, rsl, gres]
  iterate 6 (refine seqX_hide2 fun R hR => ?_; simp [go_sem, hcz, hco, hw64, hw0, d105, d510, d1110, d1011, d115, d511, d1211, d1112, d1210, d1012, d125, d512]; refine hR _ _ _ ?_; clear hR R)
  refine seqX_hide2 fun R hR => ?_
  simp [go_sem, hcz, hco, hw64, hw0, d105, d510, d1110, d1011, d115, d511, d1211, d1112, d1210, d1012, d125, d512]
  refine hR _ _ _ ?_; clear hR R
  iterate 2 (refine seqX_hide2 fun R hR => ?_; simp [go_sem, hcz, hco, hw64, hw0, d105, d510, d1110, d1011, d115, d511, d1211, d1112, d1210, d1012, d125, d512, hcs]; refine hR _ _ _ ?_; clear hR R)
  refine seqX_hide2 fun R hR => ?_
  simp [go_sem, hcz, hco, hw64, hw0, d105, d510, d1110, d1011, d115, d511, d1211, d1112, d1210, d1012, d125, d512, hcs]
  intro q47 hq47
  replace hP := hP.cons hq47
  clear hq47
  have d4712 : q47 ≠ q12 := (hP.ne q12 (by simp [addrs])).1
  have d1247 : q12 ≠ q47 := (hP.ne q12 (by simp [addrs])).2
  have d4711 : q47 ≠ q11 := (hP.ne q11 (by simp [addrs])).1
  have d1147 : q11 ≠ q47 := (hP.ne q11 (by simp [addrs])).2
  have d4710 : q47 ≠ q10 := (hP.ne q10 (by simp [addrs])).1
  have d1047 : q10 ≠ q47 := (hP.ne q10 (by simp [addrs])).2
  have d475 : q47 ≠ q5 := (hP.ne q5 (by simp [addrs])).1
  have d547 : q5 ≠ q47 := (hP.ne q5 (by simp [addrs])).2
  refine hR _ _ _ ?_; clear hR R
  refine seqX_hide2 fun R hR => ?_
  simp [go_sem, hcz, hco, hw64, hw0, d105, d510, d1110, d1011, d115, d511, d1211, d1112, d1210, d1012, d125, d512, hcs, d4712, d1247, d4711, d1147, d4710, d1047, d475, d547]
  obtain ⟨eq47, hPn, nq47⟩ := sinkI (A := A3) (L := [(q47, .cells #[.iface 75 (.agg #[.string ⟨#[]⟩, .string nm, .string ⟨#[]⟩, .string ⟨#[]⟩, .string ⟨#[]⟩, ptr0 qv, .string ⟨#[]⟩, .bool false, .int .u32 0])] 116 (0, 0)), (q12, .cells #[.int .i64 0] 3 (0, 0)), (q11, .cells #[.slice none 0 0] 22 (0, 0)), (q10, .cells (trc 0 0 ⟨#[]⟩ ⟨#[]⟩ ⟨#[]⟩ ⟨#[]⟩ ⟨#[]⟩ ⟨#[]⟩ 0 0 0 (.slice none 0 0)) 24 (0, 0)), (q5, .cells c 24 (0, 0))]) 0 hP rfl
  rw [eq47]
  clear eq47 hP; have hP := hPn; clear hPn
  simp only [List.eraseIdx_cons_zero, List.eraseIdx_cons_succ, addrs_cons, addrs_nil] at hP ⊢
  have lq : A3 ≤ A3.set q47 (.cells #[.iface 75 (.agg #[.string ⟨#[]⟩, .string nm, .string ⟨#[]⟩, .string ⟨#[]⟩, .string ⟨#[]⟩, ptr0 qv, .string ⟨#[]⟩, .bool false, .int .u32 0])] 116 (0, 0)) := le_set nq47
  have hrow : Row (A3.set q47 (.cells #[.iface 75 (.agg #[.string ⟨#[]⟩, .string nm, .string ⟨#[]⟩, .string ⟨#[]⟩, .string ⟨#[]⟩, ptr0 qv, .string ⟨#[]⟩, .bool false, .int .u32 0])] 116 (0, 0))) 1 (.slice (some ⟨q47, 0, none⟩) 1 1) 1 [.iface 75 (.agg #[.string ⟨#[]⟩, .string nm, .string ⟨#[]⟩, .string ⟨#[]⟩, .string ⟨#[]⟩, ptr0 qv, .string ⟨#[]⟩, .bool false, .int .u32 0])] := .inl ⟨_, 1, rfl, cells_block (set_at _ _ _) rfl⟩
  generalize A3.set q47 (.cells #[.iface 75 (.agg #[.string ⟨#[]⟩, .string nm, .string ⟨#[]⟩, .string ⟨#[]⟩, .string ⟨#[]⟩, ptr0 qv, .string ⟨#[]⟩, .bool false, .int .u32 0])] 116 (0, 0)) = A4 at hP lq hrow ⊢
  have hpA2 : A2 p ≠ none := HT.yn.ne
  have hqA2 : A2 q ≠ none := by rw [hq]; exact fun h => by cases h
  obtain ⟨BV, cvv, psv, v1, v2, v3, v4, -⟩ := HV
  have hpp : pv ≠ p := fun hx => by
    have : BV p = none := by rw [← hx]; exact v3
    exact hpA2 (none_le v1 this)
  have hqp2 : qv ≠ p := fun hx => hpA2 (by rw [← hx]; exact hqv0)
  have HR : TopR A A4 mapE q p := ⟨lq _ _ (hA3 _ _ hq), hqp, HT.grow (View.le_refl _) (View.le_trans hA3 lq)⟩
  obtain ⟨cvp, hp, -⟩ := HR.2.2.cell
  have hyv : IsYn A4 (tn vRed) pv := hyv0.le lq
  refine call_ov hP (pipe1 A4 q p 75 112 (.agg #[.string ⟨#[]⟩, .string nm, .string ⟨#[]⟩, .string ⟨#[]⟩, .string ⟨#[]⟩, ptr0 qv, .string ⟨#[]⟩, .bool false, .int .u32 0]) (.slice (some ⟨q47, 0, none⟩) 1 1) 4 0 tMap e0 e0 cvp e0 e0 e0 0 0 HR.1 hp (by decide) meth_fs (by kernel_rfl) hrow (fun x A' => x = ptr0 qv ∧ IsRn A' (oneF nm) q ∧ IsRn A' (tn vRed) qv ∧ A ≤ A') (fset112 A A4 q p qv pv nm HR (lq _ _ hqv) hyv hpp hqp2 hnm)) ?_
  clear hP
  rintro _ A5 ⟨x, rfl, hx, hr1, hr2, hA5⟩ hP
  rw [hx]
  refine hR _ _ _ ?_; clear hR R
  iterate 5 (refine seqX_hide2 fun R hR => ?_; simp [go_sem, hcz, hco, hw64, hw0, d105, d510, d1110, d1011, d115, d511, d1211, d1112, d1210, d1012, d125, d512, hcs, d4712, d1247, d4711, d1147, d4710, d1047, d475, d547]; refine hR _ _ _ ?_; clear hR R)
  rw [seqX_nil]
  refine hK _ _ _ ?_; clear hK K
  refine hN7 _ _ _ ?_
  refine xc_two fun N8 hN8 => ?_
  refine xc_two fun N9 hN9 => ?_
  refine xc_reg2 fun K hK => ?_
  simp only [rall, rsl, gres]
  iterate 2 (refine seqX_hide2 fun R hR => ?_; simp [go_sem, hcz, hco, hw64, hw0, d105, d510, d1110, d1011, d115, d511, d1211, d1112, d1210, d1012, d125, d512, hcs, d4712, d1247, d4711, d1147, d4710, d1047, d475, d547]; refine hR _ _ _ ?_; clear hR R)
  rw [seqX_nil]
  refine hK _ _ _ ?_; clear hK K
  refine hN9 _ _ _ ?_
  refine xc_iffalse (by simp [go_sem, hcz, hco, hw64, hw0, d105, d510, d1110, d1011, d115, d511, d1211, d1112, d1210, d1012, d125, d512, hcs, d4712, d1247, d4711, d1147, d4710, d1047, d475, d547]) ?_
  refine hN8 _ _ _ ?_
  refine xc_two fun N10 hN10 => ?_
  refine xc_reg2 fun K hK => ?_
  simp only [rall, rsl, gres]
  (refine seqX_hide2 fun R hR => ?_; simp [go_sem, hcz, hco, hw64, hw0, d105, d510, d1110, d1011, d115, d511, d1211, d1112, d1210, d1012, d125, d512, hcs, d4712, d1247, d4711, d1147, d4710, d1047, d475, d547]; refine hR _ _ _ ?_; clear hR R)
  refine seqX_hide2 fun R hR => ?_
  simp [go_sem, hcz, hco, hw64, hw0, d105, d510, d1110, d1011, d115, d511, d1211, d1112, d1210, d1012, d125, d512, hcs, d4712, d1247, d4711, d1147, d4710, d1047, d475, d547]
  refine call_ov hP (treeOf28 A5 (oneF nm) q hr1 (nt_oneF nm) (nds_oneF nm)) ?_
  clear hP
  rintro _ A6 ⟨c1, rfl, hc1, hA6⟩ hP
  have hcz1 := hc1.size
  have hco1 := hc1.ones
  refine hR _ _ _ ?_; clear hR R
  (refine seqX_hide2 fun R hR => ?_; simp [go_sem, hcz, hco, hw64, hw0, d105, d510, d1110, d1011, d115, d511, d1211, d1112, d1210, d1012, d125, d512, hcs, d4712, d1247, d4711, d1147, d4710, d1047, d475, d547, hcz1, hco1]; refine hR _ _ _ ?_; clear hR R)
  refine seqX_hide2 fun R hR => ?_
  simp [go_sem, hcz, hco, hw64, hw0, d105, d510, d1110, d1011, d115, d511, d1211, d1112, d1210, d1012, d125, d512, hcs, d4712, d1247, d4711, d1147, d4710, d1047, d475, d547, hcz1, hco1]
  refine call_ov hP (foundOf51 A6 (tn vRed) qv (hr2.le hA6) (pt_tn vRed (lv := 1) (by omega)).nt (by rw [nds_tn]; omega)) ?_
  clear hP
  rintro fv A7 ⟨hfv, hA7⟩ hP
  obtain ⟨fb, fc, rfl⟩ := hfv.slice
  have hidle : Idle Try.prog { target := .fn (.func 46) #[.pointer (some ⟨q10, 0, none⟩), .pointer (some ⟨q11, 0, none⟩), .pointer (some ⟨q12, 0, none⟩)], args := #[] } := by
    intro w'
    exact ⟨_, _, 46, #[.pointer (some ⟨q10, 0, none⟩), .pointer (some ⟨q11, 0, none⟩), .pointer (some ⟨q12, 0, none⟩)], rfl, by simp [go_sem, invoke], caught46 _ _ _ _⟩
  refine hR _ _ _ ?_; clear hR R
  refine seqX_hide2 fun R hR => ?_
  simp [go_sem, hcz, hco, hw64, hw0, d105, d510, d1110, d1011, d115, d511, d1211, d1112, d1210, d1012, d125, d512, hcs, d4712, d1247, d4711, d1147, d4710, d1047, d475, d547, hcz1, hco1]
  refine hR _ _ _ ?_; clear hR R
  refine seqX_hide2 fun R hR => ?_
  simp [go_sem, hcz, hco, hw64, hw0, d105, d510, d1110, d1011, d115, d511, d1211, d1112, d1210, d1012, d125, d512, hcs, d4712, d1247, d4711, d1147, d4710, d1047, d475, d547, hcz1, hco1]
  refine hR _ _ _ ?_; clear hR R
  refine seqX_hide2 fun R hR => ?_
  simp [go_sem, hcz, hco, hw64, hw0, d105, d510, d1110, d1011, d115, d511, d1211, d1112, d1210, d1012, d125, d512, hcs, d4712, d1247, d4711, d1147, d4710, d1047, d475, d547, hcz1, hco1]
  refine hR _ _ _ ?_; clear hR R
  rw [seqX_nil]
  refine hK _ _ _ ?_; clear hK K
  refine hN10 _ _ _ ?_
  simp [go_sem, hcz, hco, hw64, hw0, d105, d510, d1110, d1011, d115, d511, d1211, d1112, d1210, d1012, d125, d512, hcs, d4712, d1247, d4711, d1147, d4710, d1047, d475, d547, hcz1, hco1]
  refine ⟨hidle, c1, _, ⟨rfl, rfl⟩, hc1.le ?_, hfv.le ?_, View.le_trans hA5 (View.le_trans hA6 (View.le_trans hA7 ?_))⟩
  · refine View.le_trans hA7 ?_
    exact le_ov hP
  · exact le_ov hP
  · exact le_ov hP
def vA : ByteArray := ⟨#[97]⟩
theorem same_one : Same (oneF vA) (mapN [vA] [tn vRed]) := by
  rw [oneF, Same]
  refine ⟨rfl, rfl, fun h => absurd h (by decide), fun j hj hj' => ?_⟩
  replace hj : j < 2 := hj
  match j, hj with
  | 0, _ =>
    show Same (keyT vA) (tn vA)
    rw [keyT, Same]
    exact ⟨rfl, rfl, fun _ => ⟨rfl, by decide⟩, fun j hj => absurd hj (Nat.not_lt_zero _)⟩
  | 1, _ => exact Same.refl (tn vRed)
theorem one_texts {A : View} {q : Nat} {s : ByteArray} {e : TypeId} (h : A q = some (.cells #[.string s] e (0, 0))) : Texts A (.slice (some ⟨q, 0, none⟩) 1 1) [s] := .inl ⟨_, 1, rfl, cells_block h rfl⟩
set_option maxRecDepth 20000 in
set_option maxHeartbeats 400000 in
theorem lives28 (A : View) : VCalls Try.prog 28 #[] A fun r A' => r = .bool true ∧ A ≤ A' := by
  refine xcalls Try.func28 rfl (by simp [Try.ntmps28]) ?_
  simp only [Try.f28]
  have hP : Priv A (addrs []) := Priv.nil A
  show xc _ _ _ _ _ _ (ov A [])
  refine xc_two fun N1 hN1 => ?_
  refine xc_reg2 fun K hK => ?_
  simp only [rall, rsl, gres]
  (refine seqX_hide2 fun R hR => ?_; simp [go_sem]; refine hR _ _ _ ?_; clear hR R)
  rw [seqX_nil]
  refine hK _ _ _ ?_; clear hK K
  refine hN1 _ _ _ ?_
  refine xc_two fun N2 hN2 => ?_
  refine xc_reg2 fun K hK => ?_
  simp only [rall, rsl, gres]
  refine seqX_hide2 fun R hR => ?_
  simp [go_sem]
  refine call_ov hP (mapNode15 A [] [] _ _ (.inr ⟨rfl, rfl, rfl⟩) (Elems.nil _ _ _) rfl (by decide)) ?_
  clear hP
  rintro _ A1 ⟨c1, rfl, hc1, hA1⟩ hP
  refine hR _ _ _ ?_; clear hR R
  refine seqX_hide2 fun R hR => ?_
  simp [go_sem]
  refine call_ov hP (text16 A1 vRed) ?_
  clear hP
  rintro _ A2 ⟨rfl, hA2⟩ hP
  refine hR _ _ _ ?_; clear hR R
  refine seqX_hide2 fun R hR => ?_
  simp [go_sem]
  refine call_ov hP (one11 A2 (tn vRed) _ (text_is A2 vRed)) ?_
  clear hP
  rintro v3 A3 ⟨hv3, hA3⟩ hP
  have hA13 := View.le_trans hA2 hA3
  refine hR _ _ _ ?_; clear hR R
  refine seqX_hide2 fun R hR => ?_
  simp [go_sem]
  refine call_ov hP (setField17 A3 c1 vA v3 (hc1.le hA13) hv3 (by decide)) ?_
  clear hP
  rintro _ A4 ⟨c4, fv, rfl, hc4, hfv, hA4⟩ hP
  have hz4 := hc4.size
  have ho4 := hc4.ones
  obtain ⟨fb, fc, rfl⟩ := hfv.slice
  refine hR _ _ _ ?_; clear hR R
  iterate 4 (refine seqX_hide2 fun R hR => ?_; simp [go_sem, hz4, ho4]; refine hR _ _ _ ?_; clear hR R)
  refine seqX_hide2 fun R hR => ?_
  simp [go_sem, hz4, ho4]
  intro q1 hq1
  replace hP := hP.cons hq1
  clear hq1
  refine hR _ _ _ ?_; clear hR R
  refine seqX_hide2 fun R hR => ?_
  simp [go_sem, hz4, ho4]
  refine hR _ _ _ ?_; clear hR R
  iterate 2 (refine seqX_hide2 fun R hR => ?_; simp [go_sem, hz4, ho4]; refine hR _ _ _ ?_; clear hR R)
  rw [seqX_nil]
  refine hK _ _ _ ?_; clear hK K
  refine hN2 _ _ _ ?_
  refine xc_two fun N3 hN3 => ?_
  rw [xc_draws]
  refine vdrawK [(0, true), (1, true), (2, true), (3, true), (4, true), (5, true), (6, true), (7, true), (8, true), (10, true), (11, true), (9, true), (12, true), (13, false), (14, true), (15, true)] (ov A4 [(q1, .cells c4 24 (0, 0))]) mixed (by kernel_rfl) (View.le_refl _) fun K hK => ?_
  simp only [rsl, gres]
  iterate 9 (refine seqR_hide fun R hR => ?_; simp [go_sem, hz4, ho4]; refine hR _ _ _ ?_; clear hR R)
  refine seqR_hide fun R hR => ?_
  simp [go_sem, hz4, ho4]
  have hA04 := View.le_trans hA1 (View.le_trans hA13 hA4)
  refine call_ov hP (text16 A4 vRed) ?_
  clear hP
  rintro _ A6 ⟨rfl, hA6⟩ hP
  refine ⟨ov_mono hA6, hR _ _ _ ?_⟩; clear hR R
  refine seqR_hide fun R hR => ?_
  simp [go_sem, hz4, ho4]
  refine call_ov hP (one11 A6 (tn vRed) _ (text_is A6 vRed)) ?_
  clear hP
  rintro v7 A7 ⟨hv7, hA7⟩ hP
  have hA47 := View.le_trans hA6 hA7
  refine ⟨ov_mono hA47, hR _ _ _ ?_⟩; clear hR R
  refine seqR_hide fun R hR => ?_
  simp [go_sem, hz4, ho4]
  intro q21 hq21
  replace hP := hP.cons hq21
  clear hq21
  have d211 : q21 ≠ q1 := (hP.ne q1 (by simp [addrs])).1
  have d121 : q1 ≠ q21 := (hP.ne q1 (by simp [addrs])).2
  refine hR _ _ _ ?_; clear hR R
  refine seqR_hide fun R hR => ?_
  simp [go_sem, hz4, ho4, d211, d121]
  obtain ⟨eq21, hPn, nq21⟩ := sinkI (A := A7) (L := [(q21, .cells #[.string ⟨#[97]⟩] 9 (0, 0)), (q1, .cells c4 24 (0, 0))]) 0 hP rfl
  rw [eq21]
  clear eq21 hP; have hP := hPn; clear hPn
  simp only [List.eraseIdx_cons_zero, List.eraseIdx_cons_succ, addrs_cons, addrs_nil] at hP ⊢
  have lq21 : A7 ≤ A7.set q21 (.cells #[.string ⟨#[97]⟩] 9 (0, 0)) := le_set nq21
  have ht1 : Texts (A7.set q21 (.cells #[.string ⟨#[97]⟩] 9 (0, 0))) (.slice (some ⟨q21, 0, none⟩) 1 1) [vA] := one_texts (set_at _ _ _)
  generalize A7.set q21 (.cells #[.string ⟨#[97]⟩] 9 (0, 0)) = A5 at hP lq21 ht1 ⊢
  refine call_ov hP (mapNode15 A5 [vA] [tn vRed] _ v7 ht1 (hv7.le lq21) rfl (by decide)) ?_
  clear hP
  rintro _ A8 ⟨c8, rfl, hc8, hA8⟩ hP
  have hz8 := hc8.size
  have ho8 := hc8.ones
  have hA48 := View.le_trans hA47 (View.le_trans lq21 hA8)
  refine ⟨ov_mono hA48, hR _ _ _ ?_⟩; clear hR R
  refine seqR_hide fun R hR => ?_
  simp [go_sem, hz4, ho4, d211, d121, hz8, ho8]
  refine call_ov hP (same14 (oneF vA) A8 (mapN [vA] [tn vRed]) c4 c8 (hc4.le hA48) hc8 same_one (nds_oneF vA)) ?_
  clear hP
  rintro _ A9 ⟨rfl, hA9⟩ hP
  refine hR _ _ _ ?_; clear hR R
  iterate 2 (refine seqR_hide fun R hR => ?_; simp [go_sem, hz4, ho4, d211, d121, hz8, ho8]; refine hR _ _ _ ?_; clear hR R)
  rw [seqR_nil]
  refine hK _ _ _ ?_; clear hK K
  refine hN3 _ _ _ ?_
  simp [go_sem, hz4, ho4, d211, d121, hz8, ho8]
  exact View.le_trans hA04 (View.le_trans hA48 (View.le_trans hA9 (le_ov hP)))
end Go.Proofs.YtpinamipjddobaaV

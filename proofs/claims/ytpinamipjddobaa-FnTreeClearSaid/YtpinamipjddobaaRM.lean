/- Trees: ElementAt; law 5 (FnTreeAt). -/
import Derived.Test.YtpinamipjddobaaRL
namespace Go.Proofs.YtpinamipjddobaaV
open Go.RowKit
set_option linter.unusedSimpArgs false
set_option linter.unusedVariables false
theorem caught56 (p q s : Addr) (w : World) :
    CallsD Try.prog 56 #[.pointer (some p), .pointer (some q), .pointer (some s)] .returning w fun e u' w' => (∃ v, e = .returned v) ∧ u' = .returning ∧ w' = w := by
  refine callsD_of_wpS Try.func56 rfl fun c₀ cs hu => ?_
  apply wpS_seq
  apply wpS_region
  simp [wpOpsS, go_sem, recoverD, hu, Try.ntmps56, Exit.thenS]
  refine wpS_cond (t := false) (by simp [Act.eval, Array.replicate]) ?_
  simp only [Bool.false_eq_true, if_false]
  refine wpS_of_wp (wp_skip ?_)
  cases c₀
  simp_all [bodyPostS, results, Try.results56]
theorem meth_ei : meth Try.prog 83 "Filter" = some ⟨130, none⟩ := by kernel_rfl
set_option maxRecDepth 20000 in
theorem getElem57 (A : View) (n : Int) : VCalls Try.prog 57 #[.int .i64 n] A fun r A' => r = .agg #[.int .i64 n] ∧ A ≤ A' := by
  refine xcalls Try.func57 rfl (by simp [Try.ntmps57]) ?_
  simp only [Try.f57]
  have hP : Priv A (addrs []) := Priv.nil A
  show xc _ _ _ _ _ _ (ov A [])
  refine xc_two fun N1 hN1 => ?_
  refine xc_reg1 1 rfl fun K hK => ?_
  simp only [show (List.range 1).map (·, true) = [(0, true)] from rfl, rslv_cons, rslv_nil, List.getElem?_toArray, List.getElem?_cons_zero, List.getElem?_cons_succ, gres]
  refine seqX_hide2 fun R hR => ?_
  simp [go_sem]
  intro q2 hq2
  replace hP := hP.cons hq2
  clear hq2
  refine hR _ _ _ ?_; clear hR R
  rw [seqX_nil]
  refine hK _ _ _ ?_; clear hK K
  refine hN1 _ _ _ ?_
  refine xc_two fun N2 hN2 => ?_
  refine xc_reg1 3 rfl fun K hK => ?_
  simp only [show (List.range 3).map (·, true) = [(0, true), (1, true), (2, true)] from rfl, rslv_cons, rslv_nil, List.getElem?_toArray, List.getElem?_cons_zero, List.getElem?_cons_succ, gres]
  iterate 2 (refine seqX_hide2 fun R hR => ?_; simp [go_sem]; refine hR _ _ _ ?_; clear hR R)
  refine seqX_hide2 fun R hR => ?_
  simp [go_sem]
  refine hR _ _ _ ?_; clear hR R
  rw [seqX_nil]
  refine hK _ _ _ ?_; clear hK K
  refine hN2 _ _ _ ?_
  simp [go_sem]
  exact le_ov hP
set_option maxRecDepth 20000 in
set_option maxHeartbeats 400000 in
theorem elementAt26 (A : View) (t : Tr) (lv : Nat) (c : Array Value) (n : Int) (hc : IsTr A t c) (hpt : PT lv t) (hnd : nds t ≤ 400) (hlv : lv ≤ 40) (hk : t.kind = 2) (ht : t.tag ≠ tNull) (hkl : t.kids.length ≤ 1000000) (hn : -1 ≤ n ∧ n ≤ 100) (hne : n < 0 → 0 < t.kids.length) :
    VCalls Try.prog 26 #[.agg c, .int .i64 n] A fun r A' => ∃ c1 fv, r = .tuple #[.agg c1, fv, .int .i64 0] ∧ IsTr A' t c1 ∧ Trs A' fv (opt1 (idx t.kids n)) ∧ A ≤ A' := by
  have hcz := hc.size
  have hco := hc.ones
  refine xcallsD Try.func26 rfl (by simp [Try.ntmps26]) ?_
  simp only [Try.f26]
  have hP : Priv A (addrs []) := Priv.nil A
  show xc _ _ _ _ _ _ (ov A [])
  refine xc_two fun N1 hN1 => ?_
  refine xc_reg1 4 rfl fun K hK => ?_
  simp only [show (List.range 4).map (·, true) = [(0, true), (1, true), (2, true), (3, true)] from rfl, rslv_cons, rslv_nil, List.getElem?_toArray, List.getElem?_cons_zero, List.getElem?_cons_succ, gres]
  refine seqX_hide2 fun R hR => ?_
  simp [go_sem, hcz, hco]
  intro q2 hq2
  replace hP := hP.cons hq2
  clear hq2
  refine hR _ _ _ ?_; clear hR R
  refine seqX_hide2 fun R hR => ?_
  simp [go_sem, hcz, hco]
  intro q4 hq4
  replace hP := hP.cons hq4
  clear hq4
  have d42 : q4 ≠ q2 := (hP.ne q2 (by simp [addrs])).1
  have d24 : q2 ≠ q4 := (hP.ne q2 (by simp [addrs])).2
  refine hR _ _ _ ?_; clear hR R
  refine seqX_hide2 fun R hR => ?_
  simp [go_sem, hcz, hco, d42, d24]
  intro q5 hq5
  replace hP := hP.cons hq5
  clear hq5
  have d54 : q5 ≠ q4 := (hP.ne q4 (by simp [addrs])).1
  have d45 : q4 ≠ q5 := (hP.ne q4 (by simp [addrs])).2
  have d52 : q5 ≠ q2 := (hP.ne q2 (by simp [addrs])).1
  have d25 : q2 ≠ q5 := (hP.ne q2 (by simp [addrs])).2
  refine hR _ _ _ ?_; clear hR R
  refine seqX_hide2 fun R hR => ?_
  simp [go_sem, hcz, hco, d42, d24, d54, d45, d52, d25]
  intro q6 hq6
  replace hP := hP.cons hq6
  clear hq6
  have d65 : q6 ≠ q5 := (hP.ne q5 (by simp [addrs])).1
  have d56 : q5 ≠ q6 := (hP.ne q5 (by simp [addrs])).2
  have d64 : q6 ≠ q4 := (hP.ne q4 (by simp [addrs])).1
  have d46 : q4 ≠ q6 := (hP.ne q4 (by simp [addrs])).2
  have d62 : q6 ≠ q2 := (hP.ne q2 (by simp [addrs])).1
  have d26 : q2 ≠ q6 := (hP.ne q2 (by simp [addrs])).2
  refine hR _ _ _ ?_; clear hR R
  rw [seqX_nil]
  refine hK _ _ _ ?_; clear hK K
  refine hN1 _ _ _ ?_
  refine xc_two fun N2 hN2 => ?_
  refine xc_reg1 2 rfl fun K hK => ?_
  simp only [show (List.range 2).map (·, true) = [(0, true), (1, true)] from rfl, rslv_cons, rslv_nil, List.getElem?_toArray, List.getElem?_cons_zero, List.getElem?_cons_succ, gres]
  (refine seqX_hide2 fun R hR => ?_; simp [go_sem, hcz, hco, d42, d24, d54, d45, d52, d25, d65, d56, d64, d46, d62, d26]; refine hR _ _ _ ?_; clear hR R)
  refine seqX_hide2 fun R hR => ?_
  simp [go_sem, hcz, hco, d42, d24, d54, d45, d52, d25, d65, d56, d64, d46, d62, d26, toDefer]
  refine hR _ _ _ ?_; clear hR R
  rw [seqX_nil]
  refine hK _ _ _ ?_; clear hK K
  refine hN2 _ _ _ ?_
  refine xc_two fun N3 hN3 => ?_
  refine xc_reg1 7 rfl fun K hK => ?_
  simp only [show (List.range 7).map (·, true) = [(0, true), (1, true), (2, true), (3, true), (4, true), (5, true), (6, true)] from rfl, rslv_cons, rslv_nil, List.getElem?_toArray, List.getElem?_cons_zero, List.getElem?_cons_succ, gres]
  (refine seqX_hide2 fun R hR => ?_; simp [go_sem, hcz, hco, d42, d24, d54, d45, d52, d25, d65, d56, d64, d46, d62, d26]; refine hR _ _ _ ?_; clear hR R)
  refine seqX_hide2 fun R hR => ?_
  simp [go_sem, hcz, hco, d42, d24, d54, d45, d52, d25, d65, d56, d64, d46, d62, d26]
  refine call_ov hP (rooted23 A t lv c hc hpt hnd hlv) ?_
  clear hP
  rintro _ A2 ⟨q, rfl, hq, hA2⟩ hP
  refine hR _ _ _ ?_; clear hR R
  iterate 5 (refine seqX_hide2 fun R hR => ?_; simp [go_sem, hcz, hco, d42, d24, d54, d45, d52, d25, d65, d56, d64, d46, d62, d26]; refine hR _ _ _ ?_; clear hR R)
  rw [seqX_nil]
  refine hK _ _ _ ?_; clear hK K
  refine hN3 _ _ _ ?_
  refine xc_two fun N4 hN4 => ?_
  refine xc_two fun N5 hN5 => ?_
  refine xc_reg1 2 rfl fun K hK => ?_
  simp only [show (List.range 2).map (·, true) = [(0, true), (1, true)] from rfl, rslv_cons, rslv_nil, List.getElem?_toArray, List.getElem?_cons_zero, List.getElem?_cons_succ, gres]
  iterate 2 (refine seqX_hide2 fun R hR => ?_; simp [go_sem, hcz, hco, d42, d24, d54, d45, d52, d25, d65, d56, d64, d46, d62, d26]; refine hR _ _ _ ?_; clear hR R)
  rw [seqX_nil]
  refine hK _ _ _ ?_; clear hK K
  refine hN5 _ _ _ ?_
  refine xc_iffalse (by simp [go_sem, hcz, hco, d42, d24, d54, d45, d52, d25, d65, d56, d64, d46, d62, d26]) ?_
  refine hN4 _ _ _ ?_
  refine xc_two fun N6 hN6 => ?_
  refine xc_reg1 11 rfl fun K hK => ?_
  simp only [show (List.range 11).map (·, true) = [(0, true), (1, true), (2, true), (3, true), (4, true), (5, true), (6, true), (7, true), (8, true), (9, true), (10, true)] from rfl, rslv_cons, rslv_nil, List.getElem?_toArray, List.getElem?_cons_zero, List.getElem?_cons_succ, gres]
  iterate 2 (refine seqX_hide2 fun R hR => ?_; simp [go_sem, hcz, hco, d42, d24, d54, d45, d52, d25, d65, d56, d64, d46, d62, d26]; refine hR _ _ _ ?_; clear hR R)
  refine seqX_hide2 fun R hR => ?_
  simp [go_sem, hcz, hco, d42, d24, d54, d45, d52, d25, d65, d56, d64, d46, d62, d26]
  refine call_ov hP (getElem57 A2 n) ?_
  clear hP
  rintro _ A3 ⟨rfl, hA3⟩ hP
  refine hR _ _ _ ?_; clear hR R
  (refine seqX_hide2 fun R hR => ?_; simp [go_sem, hcz, hco, d42, d24, d54, d45, d52, d25, d65, d56, d64, d46, d62, d26]; refine hR _ _ _ ?_; clear hR R)
  refine seqX_hide2 fun R hR => ?_
  simp [go_sem, hcz, hco, d42, d24, d54, d45, d52, d25, d65, d56, d64, d46, d62, d26]
  intro q25 hq25
  replace hP := hP.cons hq25
  clear hq25
  have d256 : q25 ≠ q6 := (hP.ne q6 (by simp [addrs])).1
  have d625 : q6 ≠ q25 := (hP.ne q6 (by simp [addrs])).2
  have d255 : q25 ≠ q5 := (hP.ne q5 (by simp [addrs])).1
  have d525 : q5 ≠ q25 := (hP.ne q5 (by simp [addrs])).2
  have d254 : q25 ≠ q4 := (hP.ne q4 (by simp [addrs])).1
  have d425 : q4 ≠ q25 := (hP.ne q4 (by simp [addrs])).2
  have d252 : q25 ≠ q2 := (hP.ne q2 (by simp [addrs])).1
  have d225 : q2 ≠ q25 := (hP.ne q2 (by simp [addrs])).2
  refine hR _ _ _ ?_; clear hR R
  refine seqX_hide2 fun R hR => ?_
  simp [go_sem, hcz, hco, d42, d24, d54, d45, d52, d25, d65, d56, d64, d46, d62, d26, d256, d625, d255, d525, d254, d425, d252, d225]
  obtain ⟨eq25, hPn, nq25⟩ := sinkI (A := A3) (L := [(q25, .cells #[.iface 83 (.agg #[.int .i64 n])] 116 (0, 0)), (q6, .cells #[.int .i64 0] 3 (0, 0)), (q5, .cells #[.slice none 0 0] 22 (0, 0)), (q4, .cells (trc 0 0 ⟨#[]⟩ ⟨#[]⟩ ⟨#[]⟩ ⟨#[]⟩ ⟨#[]⟩ ⟨#[]⟩ 0 0 0 (.slice none 0 0)) 24 (0, 0)), (q2, .cells c 24 (0, 0))]) 0 hP rfl
  rw [eq25]
  clear eq25 hP; have hP := hPn; clear hPn
  simp only [List.eraseIdx_cons_zero, List.eraseIdx_cons_succ, addrs_cons, addrs_nil] at hP ⊢
  have lq : A3 ≤ A3.set q25 (.cells #[.iface 83 (.agg #[.int .i64 n])] 116 (0, 0)) := le_set nq25
  have hrow : Row (A3.set q25 (.cells #[.iface 83 (.agg #[.int .i64 n])] 116 (0, 0))) 1 (.slice (some ⟨q25, 0, none⟩) 1 1) 1 [.iface 83 (.agg #[.int .i64 n])] := .inl ⟨_, 1, rfl, cells_block (set_at _ _ _) rfl⟩
  generalize A3.set q25 (.cells #[.iface 83 (.agg #[.int .i64 n])] 116 (0, 0)) = A4 at hP lq hrow ⊢
  have hq4 : IsRn A4 t q := hq.le (View.le_trans hA3 lq)
  have hq5 := hq4
  obtain ⟨p, hqc, hy⟩ := hq5
  obtain ⟨k, st, tag, val, an, h, l, f, row, col, al, kids, rfl⟩ := t.ex
  obtain ⟨cv, ps, hp, -, -, -⟩ := hy.open
  have hk1 : k ≠ 1 := by have : k = 2 := hk; omega
  refine call_ov hP (pipe1 A4 q p 83 130 (.agg #[.int .i64 n]) (.slice (some ⟨q25, 0, none⟩) 1 1) k st tag val an cv h l f row col hqc hp hk1 meth_ei (by kernel_rfl) hrow (fun x A' => RP (idx kids n) x A' ∧ A4 ≤ A') (index130 A4 (.mk k st tag val an h l f row col al kids) q n hq4 hk ht hkl hn hne)) ?_
  clear hP
  rintro _ A5 ⟨x, rfl, hx, hA5⟩ hP
  have hq6 := hq4.le hA5
  cases x with
  | none =>
    replace hx : RP (idx kids n) (.pointer none) A5 := hx
    refine hR _ _ _ ?_; clear hR R
    iterate 5 (refine seqX_hide2 fun R hR => ?_; simp [go_sem, hcz, hco, d42, d24, d54, d45, d52, d25, d65, d56, d64, d46, d62, d26, d256, d625, d255, d525, d254, d425, d252, d225]; refine hR _ _ _ ?_; clear hR R)
    rw [seqX_nil]
    refine hK _ _ _ ?_; clear hK K
    refine hN6 _ _ _ ?_
    refine xc_two fun N7 hN7 => ?_
    refine xc_two fun N8 hN8 => ?_
    refine xc_reg1 2 rfl fun K hK => ?_
    simp only [show (List.range 2).map (·, true) = [(0, true), (1, true)] from rfl, rslv_cons, rslv_nil, List.getElem?_toArray, List.getElem?_cons_zero, List.getElem?_cons_succ, gres]
    iterate 2 (refine seqX_hide2 fun R hR => ?_; simp [go_sem, hcz, hco, d42, d24, d54, d45, d52, d25, d65, d56, d64, d46, d62, d26, d256, d625, d255, d525, d254, d425, d252, d225]; refine hR _ _ _ ?_; clear hR R)
    rw [seqX_nil]
    refine hK _ _ _ ?_; clear hK K
    refine hN8 _ _ _ ?_
    refine xc_iffalse (by simp [go_sem, hcz, hco, d42, d24, d54, d45, d52, d25, d65, d56, d64, d46, d62, d26, d256, d625, d255, d525, d254, d425, d252, d225]) ?_
    refine hN7 _ _ _ ?_
    refine xc_two fun N9 hN9 => ?_
    refine xc_reg1 7 rfl fun K hK => ?_
    simp only [show (List.range 7).map (·, true) = [(0, true), (1, true), (2, true), (3, true), (4, true), (5, true), (6, true)] from rfl, rslv_cons, rslv_nil, List.getElem?_toArray, List.getElem?_cons_zero, List.getElem?_cons_succ, gres]
    (refine seqX_hide2 fun R hR => ?_; simp [go_sem, hcz, hco, d42, d24, d54, d45, d52, d25, d65, d56, d64, d46, d62, d26, d256, d625, d255, d525, d254, d425, d252, d225]; refine hR _ _ _ ?_; clear hR R)
    refine seqX_hide2 fun R hR => ?_
    simp [go_sem, hcz, hco, d42, d24, d54, d45, d52, d25, d65, d56, d64, d46, d62, d26, d256, d625, d255, d525, d254, d425, d252, d225]
    refine call_ov hP (treeOf28 A5 _ q hq6 hpt.nt (by omega)) ?_
    clear hP
    rintro _ A6 ⟨c1, rfl, hc1, hA6⟩ hP
    have hcz1 := hc1.size
    have hco1 := hc1.ones
    refine hR _ _ _ ?_; clear hR R
    (refine seqX_hide2 fun R hR => ?_; simp [go_sem, hcz, hco, d42, d24, d54, d45, d52, d25, d65, d56, d64, d46, d62, d26, d256, d625, d255, d525, d254, d425, d252, d225, hcz1, hco1]; refine hR _ _ _ ?_; clear hR R)
    refine seqX_hide2 fun R hR => ?_
    simp [go_sem, hcz, hco, d42, d24, d54, d45, d52, d25, d65, d56, d64, d46, d62, d26, d256, d625, d255, d525, d254, d425, d252, d225, hcz1, hco1]
    refine call_ov hP (found51 A6 (idx kids n) _ (hx.le hA6) (fun y hy => ?_)) ?_
    · have hm := idx_mem hy
      exact ⟨(PT.kid hpt hm).nt, by have := nds_kid' (t := .mk k st tag val an h l f row col al kids) hm; omega⟩
    clear hP
    rintro fv A7 ⟨hfv, hA7⟩ hP
    have hfs := hfv.slice
    obtain ⟨fb, fc, rfl⟩ := hfs
    have hidle : Idle Try.prog { target := .fn (.func 56) #[.pointer (some ⟨q4, 0, none⟩), .pointer (some ⟨q5, 0, none⟩), .pointer (some ⟨q6, 0, none⟩)], args := #[] } := by
      intro w'
      exact ⟨_, _, 56, #[.pointer (some ⟨q4, 0, none⟩), .pointer (some ⟨q5, 0, none⟩), .pointer (some ⟨q6, 0, none⟩)], rfl, by simp [go_sem, invoke], caught56 _ _ _ _⟩
    refine hR _ _ _ ?_; clear hR R
    refine seqX_hide2 fun R hR => ?_
    simp [go_sem, hcz, hco, d42, d24, d54, d45, d52, d25, d65, d56, d64, d46, d62, d26, d256, d625, d255, d525, d254, d425, d252, d225, hcz1, hco1]
    refine hR _ _ _ ?_; clear hR R
    refine seqX_hide2 fun R hR => ?_
    simp [go_sem, hcz, hco, d42, d24, d54, d45, d52, d25, d65, d56, d64, d46, d62, d26, d256, d625, d255, d525, d254, d425, d252, d225, hcz1, hco1]
    refine hR _ _ _ ?_; clear hR R
    refine seqX_hide2 fun R hR => ?_
    simp [go_sem, hcz, hco, d42, d24, d54, d45, d52, d25, d65, d56, d64, d46, d62, d26, d256, d625, d255, d525, d254, d425, d252, d225, hcz1, hco1]
    refine hR _ _ _ ?_; clear hR R
    rw [seqX_nil]
    refine hK _ _ _ ?_; clear hK K
    refine hN9 _ _ _ ?_
    simp [go_sem, hcz, hco, d42, d24, d54, d45, d52, d25, d65, d56, d64, d46, d62, d26, d256, d625, d255, d525, d254, d425, d252, d225, hcz1, hco1]
    refine ⟨hidle, c1, _, ⟨rfl, rfl⟩, hc1.le ?_, hfv.le ?_, View.le_trans hA2 (View.le_trans hA3 (View.le_trans lq (View.le_trans hA5 (View.le_trans hA6 (View.le_trans hA7 ?_)))))⟩
    · refine View.le_trans hA7 ?_
      exact le_ov hP
    · exact le_ov hP
    · exact le_ov hP
  | some b =>
    replace hx : RP (idx kids n) (ptr0 b) A5 := hx
    refine hR _ _ _ ?_; clear hR R
    iterate 5 (refine seqX_hide2 fun R hR => ?_; simp [go_sem, hcz, hco, d42, d24, d54, d45, d52, d25, d65, d56, d64, d46, d62, d26, d256, d625, d255, d525, d254, d425, d252, d225]; refine hR _ _ _ ?_; clear hR R)
    rw [seqX_nil]
    refine hK _ _ _ ?_; clear hK K
    refine hN6 _ _ _ ?_
    refine xc_two fun N7 hN7 => ?_
    refine xc_two fun N8 hN8 => ?_
    refine xc_reg1 2 rfl fun K hK => ?_
    simp only [show (List.range 2).map (·, true) = [(0, true), (1, true)] from rfl, rslv_cons, rslv_nil, List.getElem?_toArray, List.getElem?_cons_zero, List.getElem?_cons_succ, gres]
    iterate 2 (refine seqX_hide2 fun R hR => ?_; simp [go_sem, hcz, hco, d42, d24, d54, d45, d52, d25, d65, d56, d64, d46, d62, d26, d256, d625, d255, d525, d254, d425, d252, d225]; refine hR _ _ _ ?_; clear hR R)
    rw [seqX_nil]
    refine hK _ _ _ ?_; clear hK K
    refine hN8 _ _ _ ?_
    refine xc_iffalse (by simp [go_sem, hcz, hco, d42, d24, d54, d45, d52, d25, d65, d56, d64, d46, d62, d26, d256, d625, d255, d525, d254, d425, d252, d225]) ?_
    refine hN7 _ _ _ ?_
    refine xc_two fun N9 hN9 => ?_
    refine xc_reg1 7 rfl fun K hK => ?_
    simp only [show (List.range 7).map (·, true) = [(0, true), (1, true), (2, true), (3, true), (4, true), (5, true), (6, true)] from rfl, rslv_cons, rslv_nil, List.getElem?_toArray, List.getElem?_cons_zero, List.getElem?_cons_succ, gres]
    (refine seqX_hide2 fun R hR => ?_; simp [go_sem, hcz, hco, d42, d24, d54, d45, d52, d25, d65, d56, d64, d46, d62, d26, d256, d625, d255, d525, d254, d425, d252, d225]; refine hR _ _ _ ?_; clear hR R)
    refine seqX_hide2 fun R hR => ?_
    simp [go_sem, hcz, hco, d42, d24, d54, d45, d52, d25, d65, d56, d64, d46, d62, d26, d256, d625, d255, d525, d254, d425, d252, d225]
    refine call_ov hP (treeOf28 A5 _ q hq6 hpt.nt (by omega)) ?_
    clear hP
    rintro _ A6 ⟨c1, rfl, hc1, hA6⟩ hP
    have hcz1 := hc1.size
    have hco1 := hc1.ones
    refine hR _ _ _ ?_; clear hR R
    (refine seqX_hide2 fun R hR => ?_; simp [go_sem, hcz, hco, d42, d24, d54, d45, d52, d25, d65, d56, d64, d46, d62, d26, d256, d625, d255, d525, d254, d425, d252, d225, hcz1, hco1]; refine hR _ _ _ ?_; clear hR R)
    refine seqX_hide2 fun R hR => ?_
    simp [go_sem, hcz, hco, d42, d24, d54, d45, d52, d25, d65, d56, d64, d46, d62, d26, d256, d625, d255, d525, d254, d425, d252, d225, hcz1, hco1]
    refine call_ov hP (found51 A6 (idx kids n) _ (hx.le hA6) (fun y hy => ?_)) ?_
    · have hm := idx_mem hy
      exact ⟨(PT.kid hpt hm).nt, by have := nds_kid' (t := .mk k st tag val an h l f row col al kids) hm; omega⟩
    clear hP
    rintro fv A7 ⟨hfv, hA7⟩ hP
    have hfs := hfv.slice
    obtain ⟨fb, fc, rfl⟩ := hfs
    have hidle : Idle Try.prog { target := .fn (.func 56) #[.pointer (some ⟨q4, 0, none⟩), .pointer (some ⟨q5, 0, none⟩), .pointer (some ⟨q6, 0, none⟩)], args := #[] } := by
      intro w'
      exact ⟨_, _, 56, #[.pointer (some ⟨q4, 0, none⟩), .pointer (some ⟨q5, 0, none⟩), .pointer (some ⟨q6, 0, none⟩)], rfl, by simp [go_sem, invoke], caught56 _ _ _ _⟩
    refine hR _ _ _ ?_; clear hR R
    refine seqX_hide2 fun R hR => ?_
    simp [go_sem, hcz, hco, d42, d24, d54, d45, d52, d25, d65, d56, d64, d46, d62, d26, d256, d625, d255, d525, d254, d425, d252, d225, hcz1, hco1]
    refine hR _ _ _ ?_; clear hR R
    refine seqX_hide2 fun R hR => ?_
    simp [go_sem, hcz, hco, d42, d24, d54, d45, d52, d25, d65, d56, d64, d46, d62, d26, d256, d625, d255, d525, d254, d425, d252, d225, hcz1, hco1]
    refine hR _ _ _ ?_; clear hR R
    refine seqX_hide2 fun R hR => ?_
    simp [go_sem, hcz, hco, d42, d24, d54, d45, d52, d25, d65, d56, d64, d46, d62, d26, d256, d625, d255, d525, d254, d425, d252, d225, hcz1, hco1]
    refine hR _ _ _ ?_; clear hR R
    rw [seqX_nil]
    refine hK _ _ _ ?_; clear hK K
    refine hN9 _ _ _ ?_
    simp [go_sem, hcz, hco, d42, d24, d54, d45, d52, d25, d65, d56, d64, d46, d62, d26, d256, d625, d255, d525, d254, d425, d252, d225, hcz1, hco1]
    refine ⟨hidle, c1, _, ⟨rfl, rfl⟩, hc1.le ?_, hfv.le ?_, View.le_trans hA2 (View.le_trans hA3 (View.le_trans lq (View.le_trans hA5 (View.le_trans hA6 (View.le_trans hA7 ?_)))))⟩
    · refine View.le_trans hA7 ?_
      exact le_ov hP
    · exact le_ov hP
    · exact le_ov hP
section
variable {H : Type} {enc : TypeId × Value → H} {W : World} {base : Nat} {spare : Nat → Bool} {held : Bool}
theorem opn_cap11 {fuel : Nat} {cs : List Value} {x : DataW H × List MemPlace} (h : DataW.trod enc Try.prog W base spare held fuel 24 cs = some x) : ∀ bs n cap, cs[11]? = some (.slice bs n cap) → n ≤ cap := by
  obtain ⟨xs, n, hf, hxe, hl, hxl, hx⟩ := DataW.trod_struct Try.underlying24 h
  rw [show Try.prog.cellsOf 24 = 12 by kernel_rfl] at hl
  have hxl : xs.length = 12 := hxl
  obtain ⟨c0, c1, c2, c3, c4, c5, c6, c7, c8, c9, c10, c11, rfl⟩ := list12 hl
  have z3 : Try.prog.cellsOf 3 = 1 := by kernel_rfl
  have z9 : Try.prog.cellsOf 9 = 1 := by kernel_rfl
  have zk : Try.prog.cellsOf 22 = 1 := by kernel_rfl
  have h11 : DataW.trod enc Try.prog W base spare held n 22 [c11] = some xs[11] := (show DataW.trod enc Try.prog W base spare held n 22 [c11] = xs[11]? by have := hx 11 _ rfl; simpa [z3, z9, zk] using this).trans (List.getElem?_eq_getElem (by omega))
  intro bs m cap hc
  replace hc : some c11 = some (.slice bs m cap) := hc
  obtain rfl := Option.some.inj hc
  rcases DataW.trod_slice Try.underlying22 h11 with ⟨e6, _⟩ | ⟨a, len, cap', elems, rest, m', hm, e6, ex, hb, hl', hmx, hlen, hel2, _, _⟩
  · have := (List.cons.inj e6).1
    injection this with _ e1 e2
    omega
  · have := (List.cons.inj e6).1
    injection this with _ e1 e2
    omega
theorem opn_trc (fuel : Nat) (cs : List Value) (x : DataW H × List MemPlace) (h : DataW.trod enc Try.prog W base spare held fuel 24 cs = some x) (hz : ∀ n ∈ x.1.weights Try.prog 24, n ≤ reachBytes) : ∃ y : Tr, (IsTr (full W) y cs.toArray ∧ SB y) ∧ ∀ bs n cap, cs[11]? = some (.slice bs n cap) → n ≤ cap :=
  let ⟨y, hy⟩ := opn_tr fuel cs x h hz
  ⟨y, hy, opn_cap11 h⟩
end
end Go.Proofs.YtpinamipjddobaaV

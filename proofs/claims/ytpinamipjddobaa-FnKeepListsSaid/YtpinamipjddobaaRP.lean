/- Trees: Fields, FieldNames; law 10 (FnTreeNames). -/
import Derived.Test.YtpinamipjddobaaRO
namespace Go.Proofs.YtpinamipjddobaaV
open Go.RowKit
set_option linter.unusedSimpArgs false
set_option linter.unusedVariables false
set_option maxRecDepth 20000 in
theorem errKind79 (A : View) (t : Tr) (q : Nat) (n : Int) (hq : IsRn A t q) (hk : t.kind ≠ 1) (ht : t.tag ≠ tNull) (hkn : t.kind ≠ n) : VCalls Try.prog 79 #[ptr0 q, .int .u32 n] A fun r A' => (∃ b, r = .iface 128 (ptr0 b)) ∧ A ≤ A' := by
  have hmiss := missing39 A t q hq hk
  rw [decide_eq_false ht] at hmiss
  obtain ⟨p, hqc, hy⟩ := hq
  obtain ⟨k, st, tag, val, an, h, l, f, row, col, al, kids, rfl⟩ := t.ex
  obtain ⟨cv, ps, hp, hrow, hpl, hyk⟩ := hy.open
  replace hk : k ≠ 1 := hk
  replace hkn : k ≠ n := hkn
  have hkb : (k == n) = false := beq_eq_false_iff_ne.2 hkn
  have hkbn : (k != n) = true := bne_iff_ne.2 hkn
  have c0 := cell_of (i := 0) hp rfl
  refine xcalls Try.func79 rfl (by simp [Try.ntmps79]) ?_
  simp only [Try.f79]
  have hP : Priv A (addrs []) := Priv.nil A
  show xc _ _ _ _ _ _ (ov A [])
  refine xc_two fun N1 hN1 => ?_
  refine xc_reg2 fun K hK => ?_
  simp only [rall, rsl, gres]
  (refine seqX_hide2 fun R hR => ?_; simp [go_sem]; refine hR _ _ _ ?_; clear hR R)
  rw [seqX_nil]
  refine hK _ _ _ ?_; clear hK K
  refine hN1 _ _ _ ?_
  refine xc_two fun N2 hN2 => ?_
  refine xc_two fun N3 hN3 => ?_
  refine xc_reg2 fun K hK => ?_
  simp only [rall, rsl, gres]
  (refine seqX_hide2 fun R hR => ?_; simp [go_sem]; refine hR _ _ _ ?_; clear hR R)
  refine seqX_hide2 fun R hR => ?_
  simp [go_sem]
  refine call_same hP hmiss ?_
  rintro _ rfl
  refine hR _ _ _ ?_; clear hR R
  rw [seqX_nil]
  refine hK _ _ _ ?_; clear hK K
  refine hN3 _ _ _ ?_
  refine xc_iffalse (by simp [go_sem]) ?_
  refine hN2 _ _ _ ?_
  refine xc_two fun N4 hN4 => ?_
  refine xc_two fun N5 hN5 => ?_
  refine xc_reg2 fun K hK => ?_
  simp only [rall, rsl, gres]
  (refine seqX_hide2 fun R hR => ?_; simp [go_sem]; refine hR _ _ _ ?_; clear hR R)
  refine seqX_hide2 fun R hR => ?_
  simp [go_sem]
  refine call_ov hP ((ynode48 A q p k st tag val an cv h l f row col hqc hp hk).mono fun r A' hr => (show r = ptr0 p ∧ A ≤ A' from ⟨hr.1, by rw [hr.2]; exact View.le_refl _⟩)) ?_
  clear hP
  rintro _ A2 ⟨rfl, hA2⟩ hP
  have c0 := le_cell hA2 c0
  refine hR _ _ _ ?_; clear hR R
  iterate 5 (refine seqX_hide2 fun R hR => ?_; simp [go_sem, bc hP c0, hkn, hkb, hkbn]; refine hR _ _ _ ?_; clear hR R)
  rw [seqX_nil]
  refine hK _ _ _ ?_; clear hK K
  refine hN5 _ _ _ ?_
  refine xc_iftrue (by simp [go_sem, bc hP c0, hkn, hkb, hkbn]) ?_
  refine xc_two fun N6 hN6 => ?_
  refine xc_reg2 fun K hK => ?_
  simp only [rall, rsl, gres]
  iterate 3 (refine seqX_hide2 fun R hR => ?_; simp [go_sem, bc hP c0, hkn, hkb, hkbn]; refine hR _ _ _ ?_; clear hR R)
  refine seqX_hide2 fun R hR => ?_
  simp [go_sem, bc hP c0, hkn, hkb, hkbn]
  intro q17 hq17
  replace hP := hP.cons hq17
  clear hq17
  refine hR _ _ _ ?_; clear hR R
  iterate 2 (refine seqX_hide2 fun R hR => ?_; simp [go_sem, bc hP c0, hkn, hkb, hkbn]; refine hR _ _ _ ?_; clear hR R)
  rw [seqX_nil]
  refine hK _ _ _ ?_; clear hK K
  refine hN6 _ _ _ ?_
  simp [go_sem, hkn, hkb, hkbn]
  exact View.le_trans hA2 (le_ov hP)
theorem assert_err (v : Value) : xassert Try.prog (.iface 128 v) 20 67 false = some (.iface 128 v) := by kernel_rfl
set_option maxRecDepth 20000 in
theorem wrapE75 (A : View) (v : Value) : VCalls Try.prog 75 #[.iface 128 v] A fun r A' => r = .iface 128 v ∧ A' = A := by
  have h := assert_err v
  simp [go_sem] at h
  refine xcalls Try.func75 rfl (by simp [Try.ntmps75]) ?_
  simp only [Try.f75]
  have hP : Priv A (addrs []) := Priv.nil A
  show xc _ _ _ _ _ _ (ov A [])
  refine xc_two fun N1 hN1 => ?_
  refine xc_reg2 fun K hK => ?_
  simp only [rall, rsl, gres]
  (refine seqX_hide2 fun R hR => ?_; simp [go_sem, h]; refine hR _ _ _ ?_; clear hR R)
  rw [seqX_nil]
  refine hK _ _ _ ?_; clear hK K
  refine hN1 _ _ _ ?_
  refine xc_two fun N2 hN2 => ?_
  refine xc_two fun N3 hN3 => ?_
  refine xc_reg2 fun K hK => ?_
  simp only [rall, rsl, gres]
  iterate 2 (refine seqX_hide2 fun R hR => ?_; simp [go_sem, h]; refine hR _ _ _ ?_; clear hR R)
  rw [seqX_nil]
  refine hK _ _ _ ?_; clear hK K
  refine hN3 _ _ _ ?_
  refine xc_iffalse (by simp [go_sem, h]) ?_
  refine hN2 _ _ _ ?_
  refine xc_two fun N4 hN4 => ?_
  refine xc_reg2 fun K hK => ?_
  simp only [rall, rsl, gres]
  iterate 3 (refine seqX_hide2 fun R hR => ?_; simp [go_sem, h]; refine hR _ _ _ ?_; clear hR R)
  rw [seqX_nil]
  refine hK _ _ _ ?_; clear hK K
  refine hN4 _ _ _ ?_
  simp [go_sem, h]
  rfl
set_option maxRecDepth 20000 in
theorem fields65 (A : View) (t : Tr) (q : Nat) (hq : IsRn A t q) (hk : t.kind = 4) (ht : t.tag ≠ tNull) (hev : t.kids.length % 2 = 0) (hkl : t.kids.length ≤ 1000000) : VCalls Try.prog 65 #[ptr0 q] A fun r A' => ∃ u, r = .tuple #[u, .nilIface] ∧ Texts A' u (keysL t.kids) ∧ A ≤ A' := by
  have herr := errIf79 A t q 4 hq (by omega) ht hk (fun _ => hev) hkl
  obtain ⟨p, hqc, hy⟩ := hq
  obtain ⟨k, st, tag, val, an, h, l, f, row, col, al, kids, rfl⟩ := t.ex
  obtain ⟨cv, ps, hp, hrow, hpl, hyk⟩ := hy.open
  obtain ⟨cb, cc, rfl⟩ := hrow.form
  replace hk : k = 4 := hk
  have hk1 : k ≠ 1 := by omega
  replace hev : kids.length % 2 = 0 := hev
  replace hkl : kids.length ≤ 1000000 := hkl
  show VCalls Try.prog 65 #[ptr0 q] A fun r A' => ∃ u, r = .tuple #[u, .nilIface] ∧ Texts A' u (keysL kids) ∧ A ≤ A'
  refine xcalls Try.func65 rfl (by simp [Try.ntmps65]) ?_
  simp only [Try.f65]
  have hP : Priv A (addrs []) := Priv.nil A
  show xc _ _ _ _ _ _ (ov A [])
  refine xc_two fun N1 hN1 => ?_
  refine xc_reg2 fun K hK => ?_
  simp only [rall, rsl, gres]
  iterate 2 (refine seqX_hide2 fun R hR => ?_; simp [go_sem]; refine hR _ _ _ ?_; clear hR R)
  rw [seqX_nil]
  refine hK _ _ _ ?_; clear hK K
  refine hN1 _ _ _ ?_
  refine xc_two fun N2 hN2 => ?_
  refine xc_two fun N3 hN3 => ?_
  refine xc_reg2 fun K hK => ?_
  simp only [rall, rsl, gres]
  (refine seqX_hide2 fun R hR => ?_; simp [go_sem]; refine hR _ _ _ ?_; clear hR R)
  refine seqX_hide2 fun R hR => ?_
  simp [go_sem]
  refine call_same hP herr ?_
  rintro _ rfl
  refine hR _ _ _ ?_; clear hR R
  (refine seqX_hide2 fun R hR => ?_; simp [go_sem]; refine hR _ _ _ ?_; clear hR R)
  rw [seqX_nil]
  refine hK _ _ _ ?_; clear hK K
  refine hN3 _ _ _ ?_
  refine xc_two fun N4 hN4 => ?_
  refine xc_reg2 fun K hK => ?_
  simp only [rall, rsl, gres]
  iterate 2 (refine seqX_hide2 fun R hR => ?_; simp [go_sem]; refine hR _ _ _ ?_; clear hR R)
  rw [seqX_nil]
  refine hK _ _ _ ?_; clear hK K
  refine hN4 _ _ _ ?_
  refine xc_iffalse (by simp [go_sem]) ?_
  refine hN2 _ _ _ ?_
  refine xc_two fun N5 hN5 => ?_
  refine xc_reg2 fun K hK => ?_
  simp only [rall, rsl, gres]
  refine seqX_hide2 fun R hR => ?_
  simp [go_sem]
  intro q5 hq5
  replace hP := hP.cons hq5
  clear hq5
  refine hR _ _ _ ?_; clear hR R
  rw [seqX_nil]
  refine hK _ _ _ ?_; clear hK K
  refine hN5 _ _ _ ?_
  refine xc_two fun N6 hN6 => ?_
  refine xc_reg2 fun K hK => ?_
  simp only [rall, rsl, gres]
  (refine seqX_hide2 fun R hR => ?_; simp [go_sem]; refine hR _ _ _ ?_; clear hR R)
  refine seqX_hide2 fun R hR => ?_
  simp [go_sem]
  refine call_same hP (content36 A q p k st tag val an (.slice cb kids.length cc) h l f row col hqc hp hk1) ?_
  rintro _ rfl
  refine hR _ _ _ ?_; clear hR R
  (refine seqX_hide2 fun R hR => ?_; simp [go_sem]; refine hR _ _ _ ?_; clear hR R)
  refine seqX_hide2 fun R hR => ?_
  simp [go_sem]
  obtain ⟨eq5, hPn, nq5⟩ := sinkI (A := A) (L := [(q5, .cells #[.slice none 0 0] 47 (0, 0))]) 0 hP rfl
  rw [eq5]
  clear eq5 hP; have hP := hPn; clear hPn
  simp only [List.eraseIdx_cons_zero, List.eraseIdx_cons_succ, addrs_cons, addrs_nil] at hP ⊢
  refine call_ov hP (namesV A _ q5 kids ps (.slice cb kids.length cc) (le_set nq5) nq5 (set_at _ _ _) hrow hpl hyk hev hkl) ?_
  clear hP
  rintro _ A2 ⟨u, h5, htx, hA2⟩ hP
  obtain ⟨ub, uc, rfl⟩ := htx.slice
  have c5 := cell_of (i := 0) h5 rfl
  refine hR _ _ _ ?_; clear hR R
  rw [seqX_nil]
  refine hK _ _ _ ?_; clear hK K
  refine hN6 _ _ _ ?_
  refine xc_two fun N7 hN7 => ?_
  refine xc_reg2 fun K hK => ?_
  simp only [rall, rsl, gres]
  iterate 3 (refine seqX_hide2 fun R hR => ?_; simp [go_sem, bc hP c5]; refine hR _ _ _ ?_; clear hR R)
  rw [seqX_nil]
  refine hK _ _ _ ?_; clear hK K
  refine hN7 _ _ _ ?_
  simp [go_sem, bc hP c5]
  exact ⟨htx, hA2⟩
set_option maxRecDepth 20000 in
theorem fieldsE65 (A : View) (t : Tr) (q : Nat) (hq : IsRn A t q) (hk1 : t.kind ≠ 1) (hk : t.kind ≠ 4) (ht : t.tag ≠ tNull) : VCalls Try.prog 65 #[ptr0 q] A fun r A' => (∃ b, r = .tuple #[.slice none 0 0, .iface 128 (ptr0 b)]) ∧ A ≤ A' := by
  refine xcalls Try.func65 rfl (by simp [Try.ntmps65]) ?_
  simp only [Try.f65]
  have hP : Priv A (addrs []) := Priv.nil A
  show xc _ _ _ _ _ _ (ov A [])
  refine xc_two fun N1 hN1 => ?_
  refine xc_reg2 fun K hK => ?_
  simp only [rall, rsl, gres]
  iterate 2 (refine seqX_hide2 fun R hR => ?_; simp [go_sem]; refine hR _ _ _ ?_; clear hR R)
  rw [seqX_nil]
  refine hK _ _ _ ?_; clear hK K
  refine hN1 _ _ _ ?_
  refine xc_two fun N2 hN2 => ?_
  refine xc_two fun N3 hN3 => ?_
  refine xc_reg2 fun K hK => ?_
  simp only [rall, rsl, gres]
  (refine seqX_hide2 fun R hR => ?_; simp [go_sem]; refine hR _ _ _ ?_; clear hR R)
  refine seqX_hide2 fun R hR => ?_
  simp [go_sem]
  refine call_ov hP (errKind79 A t q 4 hq hk1 ht hk) ?_
  clear hP
  rintro _ A2 ⟨⟨b, rfl⟩, hA2⟩ hP
  refine hR _ _ _ ?_; clear hR R
  (refine seqX_hide2 fun R hR => ?_; simp [go_sem]; refine hR _ _ _ ?_; clear hR R)
  rw [seqX_nil]
  refine hK _ _ _ ?_; clear hK K
  refine hN3 _ _ _ ?_
  refine xc_two fun N4 hN4 => ?_
  refine xc_reg2 fun K hK => ?_
  simp only [rall, rsl, gres]
  iterate 2 (refine seqX_hide2 fun R hR => ?_; simp [go_sem]; refine hR _ _ _ ?_; clear hR R)
  rw [seqX_nil]
  refine hK _ _ _ ?_; clear hK K
  refine hN4 _ _ _ ?_
  refine xc_iftrue (by simp [go_sem]) ?_
  refine xc_two fun N5 hN5 => ?_
  refine xc_reg2 fun K hK => ?_
  simp only [rall, rsl, gres]
  (refine seqX_hide2 fun R hR => ?_; simp [go_sem]; refine hR _ _ _ ?_; clear hR R)
  refine seqX_hide2 fun R hR => ?_
  simp [go_sem]
  refine call_same hP (wrapE75 A2 (ptr0 b)) ?_
  rintro _ rfl
  refine hR _ _ _ ?_; clear hR R
  iterate 2 (refine seqX_hide2 fun R hR => ?_; simp [go_sem]; refine hR _ _ _ ?_; clear hR R)
  rw [seqX_nil]
  refine hK _ _ _ ?_; clear hK K
  refine hN5 _ _ _ ?_
  simp [go_sem]
  exact hA2
theorem caught64 (p q : Addr) (w : World) :
    CallsD Try.prog 64 #[.pointer (some p), .pointer (some q)] .returning w fun e u' w' => (∃ v, e = .returned v) ∧ u' = .returning ∧ w' = w := by
  refine callsD_of_wpS Try.func64 rfl fun c₀ cs hu => ?_
  apply wpS_seq
  apply wpS_region
  simp [wpOpsS, go_sem, recoverD, hu, Try.ntmps64, Exit.thenS]
  refine wpS_cond (t := false) (by simp [Act.eval, Array.replicate]) ?_
  simp only [Bool.false_eq_true, if_false]
  refine wpS_of_wp (wp_skip ?_)
  cases c₀
  simp_all [bodyPostS, results, Try.results64]
set_option maxRecDepth 20000 in
theorem fieldNames40 (A : View) (t : Tr) (lv : Nat) (c : Array Value) (hc : IsTr A t c) (hpt : PT lv t) (hnd : nds t ≤ 400) (hlv : lv ≤ 40) (hk : t.kind = 4) (ht : t.tag ≠ tNull) (hev : t.kids.length % 2 = 0) (hkl : t.kids.length ≤ 1000000) : VCalls Try.prog 40 #[.agg c] A fun r A' => ∃ u, r = .tuple #[u, .int .i64 0] ∧ Texts A' u (keysL t.kids) ∧ A ≤ A' := by
  have hcz := hc.size
  have hco := hc.ones
  refine xcallsD Try.func40 rfl (by simp [Try.ntmps40]) ?_
  simp only [Try.f40]
  have hP : Priv A (addrs []) := Priv.nil A
  show xc _ _ _ _ _ _ (ov A [])
  refine xc_two fun N1 hN1 => ?_
  refine xc_reg2 fun K hK => ?_
  simp only [rall, rsl, gres]
  refine seqX_hide2 fun R hR => ?_
  simp [go_sem, hcz, hco]
  intro q1 hq1
  replace hP := hP.cons hq1
  clear hq1
  refine hR _ _ _ ?_; clear hR R
  refine seqX_hide2 fun R hR => ?_
  simp [go_sem, hcz, hco]
  intro q2 hq2
  replace hP := hP.cons hq2
  clear hq2
  have d21 : q2 ≠ q1 := (hP.ne q1 (by simp [addrs])).1
  have d12 : q1 ≠ q2 := (hP.ne q1 (by simp [addrs])).2
  refine hR _ _ _ ?_; clear hR R
  refine seqX_hide2 fun R hR => ?_
  simp [go_sem, hcz, hco, d21, d12]
  intro q3 hq3
  replace hP := hP.cons hq3
  clear hq3
  have d32 : q3 ≠ q2 := (hP.ne q2 (by simp [addrs])).1
  have d23 : q2 ≠ q3 := (hP.ne q2 (by simp [addrs])).2
  have d31 : q3 ≠ q1 := (hP.ne q1 (by simp [addrs])).1
  have d13 : q1 ≠ q3 := (hP.ne q1 (by simp [addrs])).2
  refine hR _ _ _ ?_; clear hR R
  rw [seqX_nil]
  refine hK _ _ _ ?_; clear hK K
  refine hN1 _ _ _ ?_
  refine xc_two fun N2 hN2 => ?_
  refine xc_reg2 fun K hK => ?_
  simp only [rall, rsl, gres]
  (refine seqX_hide2 fun R hR => ?_; simp [go_sem, hcz, hco, d21, d12, d32, d23, d31, d13]; refine hR _ _ _ ?_; clear hR R)
  refine seqX_hide2 fun R hR => ?_
  simp [go_sem, hcz, hco, d21, d12, d32, d23, d31, d13, toDefer]
  refine hR _ _ _ ?_; clear hR R
  rw [seqX_nil]
  refine hK _ _ _ ?_; clear hK K
  refine hN2 _ _ _ ?_
  refine xc_two fun N3 hN3 => ?_
  refine xc_reg2 fun K hK => ?_
  simp only [rall, rsl, gres]
  (refine seqX_hide2 fun R hR => ?_; simp [go_sem, hcz, hco, d21, d12, d32, d23, d31, d13]; refine hR _ _ _ ?_; clear hR R)
  refine seqX_hide2 fun R hR => ?_
  simp [go_sem, hcz, hco, d21, d12, d32, d23, d31, d13]
  refine call_ov hP (rooted23 A t lv c hc hpt hnd hlv) ?_
  clear hP
  rintro _ A2 ⟨q, rfl, hq, hA2⟩ hP
  refine hR _ _ _ ?_; clear hR R
  iterate 5 (refine seqX_hide2 fun R hR => ?_; simp [go_sem, hcz, hco, d21, d12, d32, d23, d31, d13]; refine hR _ _ _ ?_; clear hR R)
  rw [seqX_nil]
  refine hK _ _ _ ?_; clear hK K
  refine hN3 _ _ _ ?_
  refine xc_two fun N4 hN4 => ?_
  refine xc_two fun N5 hN5 => ?_
  refine xc_reg2 fun K hK => ?_
  simp only [rall, rsl, gres]
  iterate 2 (refine seqX_hide2 fun R hR => ?_; simp [go_sem, hcz, hco, d21, d12, d32, d23, d31, d13]; refine hR _ _ _ ?_; clear hR R)
  rw [seqX_nil]
  refine hK _ _ _ ?_; clear hK K
  refine hN5 _ _ _ ?_
  refine xc_iffalse (by simp [go_sem, hcz, hco, d21, d12, d32, d23, d31, d13]) ?_
  refine hN4 _ _ _ ?_
  refine xc_two fun N6 hN6 => ?_
  refine xc_reg2 fun K hK => ?_
  simp only [rall, rsl, gres]
  (refine seqX_hide2 fun R hR => ?_; simp [go_sem, hcz, hco, d21, d12, d32, d23, d31, d13]; refine hR _ _ _ ?_; clear hR R)
  refine seqX_hide2 fun R hR => ?_
  simp [go_sem, hcz, hco, d21, d12, d32, d23, d31, d13]
  refine call_ov hP (fields65 A2 t q hq hk ht hev hkl) ?_
  clear hP
  rintro _ A3 ⟨u, rfl, htx, hA3⟩ hP
  obtain ⟨ub, uc, rfl⟩ := htx.slice
  have hidle : Idle Try.prog { target := .fn (.func 64) #[.pointer (some ⟨q2, 0, none⟩), .pointer (some ⟨q3, 0, none⟩)], args := #[] } := by
    intro w'
    exact ⟨_, _, 64, #[.pointer (some ⟨q2, 0, none⟩), .pointer (some ⟨q3, 0, none⟩)], rfl, by simp [go_sem, invoke], caught64 _ _ _⟩
  refine hR _ _ _ ?_; clear hR R
  iterate 5 (refine seqX_hide2 fun R hR => ?_; simp [go_sem, hcz, hco, d21, d12, d32, d23, d31, d13]; refine hR _ _ _ ?_; clear hR R)
  rw [seqX_nil]
  refine hK _ _ _ ?_; clear hK K
  refine hN6 _ _ _ ?_
  refine xc_two fun N7 hN7 => ?_
  refine xc_two fun N8 hN8 => ?_
  refine xc_reg2 fun K hK => ?_
  simp only [rall, rsl, gres]
  iterate 2 (refine seqX_hide2 fun R hR => ?_; simp [go_sem, hcz, hco, d21, d12, d32, d23, d31, d13]; refine hR _ _ _ ?_; clear hR R)
  rw [seqX_nil]
  refine hK _ _ _ ?_; clear hK K
  refine hN8 _ _ _ ?_
  refine xc_iffalse (by simp [go_sem, hcz, hco, d21, d12, d32, d23, d31, d13]) ?_
  refine hN7 _ _ _ ?_
  refine xc_two fun N9 hN9 => ?_
  refine xc_reg2 fun K hK => ?_
  simp only [rall, rsl, gres]
  (refine seqX_hide2 fun R hR => ?_; simp [go_sem, hcz, hco, d21, d12, d32, d23, d31, d13]; refine hR _ _ _ ?_; clear hR R)
  refine seqX_hide2 fun R hR => ?_
  simp [go_sem, hcz, hco, d21, d12, d32, d23, d31, d13]
  refine hR _ _ _ ?_; clear hR R
  refine seqX_hide2 fun R hR => ?_
  simp [go_sem, hcz, hco, d21, d12, d32, d23, d31, d13]
  refine hR _ _ _ ?_; clear hR R
  rw [seqX_nil]
  refine hK _ _ _ ?_; clear hK K
  refine hN9 _ _ _ ?_
  simp [go_sem, hcz, hco, d21, d12, d32, d23, d31, d13]
  refine ⟨hidle, htx.le ?_, View.le_trans hA2 (View.le_trans hA3 ?_)⟩
  · exact le_ov hP
  · exact le_ov hP
set_option maxRecDepth 20000 in
theorem fieldNamesE40 (A : View) (t : Tr) (lv : Nat) (c : Array Value) (hc : IsTr A t c) (hpt : PT lv t) (hnd : nds t ≤ 400) (hlv : lv ≤ 40) (hk1 : t.kind ≠ 1) (hk : t.kind ≠ 4) (ht : t.tag ≠ tNull) : VCalls Try.prog 40 #[.agg c] A fun r A' => r = .tuple #[.slice none 0 0, .int .i64 1] ∧ A ≤ A' := by
  have hcz := hc.size
  have hco := hc.ones
  refine xcallsD Try.func40 rfl (by simp [Try.ntmps40]) ?_
  simp only [Try.f40]
  have hP : Priv A (addrs []) := Priv.nil A
  show xc _ _ _ _ _ _ (ov A [])
  refine xc_two fun N1 hN1 => ?_
  refine xc_reg2 fun K hK => ?_
  simp only [rall, rsl, gres]
  refine seqX_hide2 fun R hR => ?_
  simp [go_sem, hcz, hco]
  intro q1 hq1
  replace hP := hP.cons hq1
  clear hq1
  refine hR _ _ _ ?_; clear hR R
  refine seqX_hide2 fun R hR => ?_
  simp [go_sem, hcz, hco]
  intro q2 hq2
  replace hP := hP.cons hq2
  clear hq2
  have d21 : q2 ≠ q1 := (hP.ne q1 (by simp [addrs])).1
  have d12 : q1 ≠ q2 := (hP.ne q1 (by simp [addrs])).2
  refine hR _ _ _ ?_; clear hR R
  refine seqX_hide2 fun R hR => ?_
  simp [go_sem, hcz, hco, d21, d12]
  intro q3 hq3
  replace hP := hP.cons hq3
  clear hq3
  have d32 : q3 ≠ q2 := (hP.ne q2 (by simp [addrs])).1
  have d23 : q2 ≠ q3 := (hP.ne q2 (by simp [addrs])).2
  have d31 : q3 ≠ q1 := (hP.ne q1 (by simp [addrs])).1
  have d13 : q1 ≠ q3 := (hP.ne q1 (by simp [addrs])).2
  refine hR _ _ _ ?_; clear hR R
  rw [seqX_nil]
  refine hK _ _ _ ?_; clear hK K
  refine hN1 _ _ _ ?_
  refine xc_two fun N2 hN2 => ?_
  refine xc_reg2 fun K hK => ?_
  simp only [rall, rsl, gres]
  (refine seqX_hide2 fun R hR => ?_; simp [go_sem, hcz, hco, d21, d12, d32, d23, d31, d13]; refine hR _ _ _ ?_; clear hR R)
  refine seqX_hide2 fun R hR => ?_
  simp [go_sem, hcz, hco, d21, d12, d32, d23, d31, d13, toDefer]
  refine hR _ _ _ ?_; clear hR R
  rw [seqX_nil]
  refine hK _ _ _ ?_; clear hK K
  refine hN2 _ _ _ ?_
  refine xc_two fun N3 hN3 => ?_
  refine xc_reg2 fun K hK => ?_
  simp only [rall, rsl, gres]
  (refine seqX_hide2 fun R hR => ?_; simp [go_sem, hcz, hco, d21, d12, d32, d23, d31, d13]; refine hR _ _ _ ?_; clear hR R)
  refine seqX_hide2 fun R hR => ?_
  simp [go_sem, hcz, hco, d21, d12, d32, d23, d31, d13]
  refine call_ov hP (rooted23 A t lv c hc hpt hnd hlv) ?_
  clear hP
  rintro _ A2 ⟨q, rfl, hq, hA2⟩ hP
  refine hR _ _ _ ?_; clear hR R
  iterate 5 (refine seqX_hide2 fun R hR => ?_; simp [go_sem, hcz, hco, d21, d12, d32, d23, d31, d13]; refine hR _ _ _ ?_; clear hR R)
  rw [seqX_nil]
  refine hK _ _ _ ?_; clear hK K
  refine hN3 _ _ _ ?_
  refine xc_two fun N4 hN4 => ?_
  refine xc_two fun N5 hN5 => ?_
  refine xc_reg2 fun K hK => ?_
  simp only [rall, rsl, gres]
  iterate 2 (refine seqX_hide2 fun R hR => ?_; simp [go_sem, hcz, hco, d21, d12, d32, d23, d31, d13]; refine hR _ _ _ ?_; clear hR R)
  rw [seqX_nil]
  refine hK _ _ _ ?_; clear hK K
  refine hN5 _ _ _ ?_
  refine xc_iffalse (by simp [go_sem, hcz, hco, d21, d12, d32, d23, d31, d13]) ?_
  refine hN4 _ _ _ ?_
  refine xc_two fun N6 hN6 => ?_
  refine xc_reg2 fun K hK => ?_
  simp only [rall, rsl, gres]
  (refine seqX_hide2 fun R hR => ?_; simp [go_sem, hcz, hco, d21, d12, d32, d23, d31, d13]; refine hR _ _ _ ?_; clear hR R)
  refine seqX_hide2 fun R hR => ?_
  simp [go_sem, hcz, hco, d21, d12, d32, d23, d31, d13]
  refine call_ov hP (fieldsE65 A2 t q hq hk1 hk ht) ?_
  clear hP
  rintro _ A3 ⟨⟨b, rfl⟩, hA3⟩ hP
  have hidle : Idle Try.prog { target := .fn (.func 64) #[.pointer (some ⟨q2, 0, none⟩), .pointer (some ⟨q3, 0, none⟩)], args := #[] } := by
    intro w'
    exact ⟨_, _, 64, #[.pointer (some ⟨q2, 0, none⟩), .pointer (some ⟨q3, 0, none⟩)], rfl, by simp [go_sem, invoke], caught64 _ _ _⟩
  refine hR _ _ _ ?_; clear hR R
  iterate 5 (refine seqX_hide2 fun R hR => ?_; simp [go_sem, hcz, hco, d21, d12, d32, d23, d31, d13]; refine hR _ _ _ ?_; clear hR R)
  rw [seqX_nil]
  refine hK _ _ _ ?_; clear hK K
  refine hN6 _ _ _ ?_
  refine xc_two fun N7 hN7 => ?_
  refine xc_two fun N8 hN8 => ?_
  refine xc_reg2 fun K hK => ?_
  simp only [rall, rsl, gres]
  iterate 2 (refine seqX_hide2 fun R hR => ?_; simp [go_sem, hcz, hco, d21, d12, d32, d23, d31, d13]; refine hR _ _ _ ?_; clear hR R)
  rw [seqX_nil]
  refine hK _ _ _ ?_; clear hK K
  refine hN8 _ _ _ ?_
  refine xc_iftrue (by simp [go_sem, hcz, hco, d21, d12, d32, d23, d31, d13]) ?_
  refine xc_two fun N9 hN9 => ?_
  refine xc_reg2 fun K hK => ?_
  simp only [rall, rsl, gres]
  refine seqX_hide2 fun R hR => ?_
  simp [go_sem, hcz, hco, d21, d12, d32, d23, d31, d13]
  refine hR _ _ _ ?_; clear hR R
  refine seqX_hide2 fun R hR => ?_
  simp [go_sem, hcz, hco, d21, d12, d32, d23, d31, d13]
  refine hR _ _ _ ?_; clear hR R
  rw [seqX_nil]
  refine hK _ _ _ ?_; clear hK K
  refine hN9 _ _ _ ?_
  simp [go_sem, hcz, hco, d21, d12, d32, d23, d31, d13]
  refine ⟨hidle, View.le_trans hA2 (View.le_trans hA3 ?_)⟩
  exact le_ov hP
end Go.Proofs.YtpinamipjddobaaV

/- Trees: impl.AssociativeKey, impl.IsAssociative. -/
import Derived.Test.YthjbgpmcfcijgaaDoorKM
namespace Go.Proofs.YthjbgpmcfcijgaaDoorV
open Go.RowKit
set_option linter.unusedSimpArgs false
set_option linter.unusedVariables false
theorem PL.kd {lv : Nat} {t : Tr} (h : PL lv t) : t.kind = 8 ∨ t.kind = 2 ∨ t.kind = 4 := by
  obtain ⟨k, st, tag, val, an, hh, l, f, row, col, al, kids, rfl⟩ := t.ex
  rw [PL] at h
  obtain ⟨-, -, hk, -⟩ := h
  rcases hk with h | h | h
  · exact .inl h.1
  · exact .inr (.inl h.1)
  · exact .inr (.inr h.1)
theorem nds_kids (t : Tr) : nds t = 1 + (t.kids.map nds).sum := by
  obtain ⟨k, st, tag, val, an, hh, l, f, row, col, al, kids, rfl⟩ := t.ex
  exact nds_mk _ _ _ _ _ _ _ _ _ _ _ _
theorem PL.fk {lv : Nat} {t : Tr} (h : PL lv t) (hn : nds t ≤ 1000000) : FK t := by
  have hk := h.kd
  have h1 := nds_kids t
  have h2 := nds_len t.kids
  refine ⟨by omega, fun h4 => ?_, by omega⟩
  obtain ⟨k, st, tag, val, an, hh, l, f, row, col, al, kids, rfl⟩ := t.ex
  rw [PL] at h
  obtain ⟨-, -, hk, -⟩ := h
  replace h4 : k = 4 := h4
  rcases hk with h | h | h
  · have := h.1; omega
  · have := h.1; omega
  · exact h.2.2.2.1
theorem PL.kid {lv : Nat} {t x : Tr} (h : PL lv t) (hx : x ∈ t.kids) : PL (lv - 1) x := by
  obtain ⟨k, st, tag, val, an, hh, l, f, row, col, al, kids, rfl⟩ := t.ex
  rw [PL] at h
  obtain ⟨j, hj, rfl⟩ := List.getElem_of_mem hx
  exact h.2.2.2 j hj
theorem nds_kid {t x : Tr} (hx : x ∈ t.kids) : nds x ≤ nds t := by
  have h1 := nds_kids t
  have h2 := nds_mem hx
  omega
theorem caught22 (p q : Addr) (w : World) :
    CallsD Tryd.prog 22 #[.pointer (some p), .pointer (some q)] .returning w fun e u' w' => (∃ v, e = .returned v) ∧ u' = .returning ∧ w' = w := by
  refine callsD_of_wpS Tryd.func22 rfl fun c₀ cs hu => ?_
  apply wpS_seq
  apply wpS_region
  simp [wpOpsS, go_sem, recoverD, hu, Tryd.ntmps22, Exit.thenS]
  refine wpS_cond (t := false) (by simp [Act.eval, Array.replicate]) ?_
  simp only [Bool.false_eq_true, if_false]
  refine wpS_of_wp (wp_skip ?_)
  cases c₀
  simp_all [bodyPostS, results, Tryd.results22]
theorem caught25 (p q : Addr) (w : World) :
    CallsD Tryd.prog 25 #[.pointer (some p), .pointer (some q)] .returning w fun e u' w' => (∃ v, e = .returned v) ∧ u' = .returning ∧ w' = w := by
  refine callsD_of_wpS Tryd.func25 rfl fun c₀ cs hu => ?_
  apply wpS_seq
  apply wpS_region
  simp [wpOpsS, go_sem, recoverD, hu, Tryd.ntmps25, Exit.thenS]
  refine wpS_cond (t := false) (by simp [Act.eval, Array.replicate]) ?_
  simp only [Bool.false_eq_true, if_false]
  refine wpS_of_wp (wp_skip ?_)
  cases c₀
  simp_all [bodyPostS, results, Tryd.results25]
set_option maxRecDepth 20000 in
theorem assocKey13 (A : View) (G : GN A) (t : Tr) (lv : Nat) (c : Array Value) (hc : IsTr A t c) (hpl : PL lv t) (hnd : nds t ≤ 400) (hlv : lv ≤ 40) : VCalls Tryd.prog 13 #[.agg c] A fun r A' => r = .tuple #[.string (keyOf t.kids), .int .i64 0] ∧ A ≤ A' := by
  have hcz := hc.size
  have hco := hc.ones
  have hfk := hpl.fk (by omega)
  refine xcallsD Tryd.func13 rfl (by simp [Tryd.ntmps13]) ?_
  simp only [Tryd.f13]
  have hP : Priv A (addrs []) := Priv.nil A
  show xc _ _ _ _ _ _ (ov A [])
  refine xc_two fun N1 hN1 => ?_
  refine xc_reg1 3 rfl fun K hK => ?_
  simp only [show (List.range 3).map (·, true) = [(0, true), (1, true), (2, true)] from rfl, rslv_cons, rslv_nil, List.getElem?_toArray, List.getElem?_cons_zero, List.getElem?_cons_succ, gres]
  refine seqX_hide2 fun R hR => ?_
  simp [go_sem, hcz, hco]
  intro q1 hq1
  replace hP := hP.cons hq1
  clear hq1
  refine hR _ _ _ ?_; clear hR R
  refine seqX_hide2 fun R hR => ?_
  simp [go_sem, hcz, hco]
  intro q2 hq2
  replace hP := hP.cons hq2
  clear hq2
  have d21 : q2 ≠ q1 := (hP.ne q1 (by simp [addrs])).1
  have d12 : q1 ≠ q2 := (hP.ne q1 (by simp [addrs])).2
  refine hR _ _ _ ?_; clear hR R
  refine seqX_hide2 fun R hR => ?_
  simp [go_sem, hcz, hco, d21, d12]
  intro q3 hq3
  replace hP := hP.cons hq3
  clear hq3
  have d32 : q3 ≠ q2 := (hP.ne q2 (by simp [addrs])).1
  have d23 : q2 ≠ q3 := (hP.ne q2 (by simp [addrs])).2
  have d31 : q3 ≠ q1 := (hP.ne q1 (by simp [addrs])).1
  have d13 : q1 ≠ q3 := (hP.ne q1 (by simp [addrs])).2
  refine hR _ _ _ ?_; clear hR R
  rw [seqX_nil]
  refine hK _ _ _ ?_; clear hK K
  refine hN1 _ _ _ ?_
  refine xc_two fun N2 hN2 => ?_
  refine xc_reg1 2 rfl fun K hK => ?_
  simp only [show (List.range 2).map (·, true) = [(0, true), (1, true)] from rfl, rslv_cons, rslv_nil, List.getElem?_toArray, List.getElem?_cons_zero, List.getElem?_cons_succ, gres]
  (refine seqX_hide2 fun R hR => ?_; simp [go_sem, hcz, hco, d21, d12, d32, d23, d31, d13]; refine hR _ _ _ ?_; clear hR R)
  refine seqX_hide2 fun R hR => ?_
  simp [go_sem, hcz, hco, d21, d12, d32, d23, d31, d13, toDefer]
  refine hR _ _ _ ?_; clear hR R
  rw [seqX_nil]
  refine hK _ _ _ ?_; clear hK K
  refine hN2 _ _ _ ?_
  refine xc_two fun N3 hN3 => ?_
  refine xc_reg1 7 rfl fun K hK => ?_
  simp only [show (List.range 7).map (·, true) = [(0, true), (1, true), (2, true), (3, true), (4, true), (5, true), (6, true)] from rfl, rslv_cons, rslv_nil, List.getElem?_toArray, List.getElem?_cons_zero, List.getElem?_cons_succ, gres]
  (refine seqX_hide2 fun R hR => ?_; simp [go_sem, hcz, hco, d21, d12, d32, d23, d31, d13]; refine hR _ _ _ ?_; clear hR R)
  refine seqX_hide2 fun R hR => ?_
  simp [go_sem, hcz, hco, d21, d12, d32, d23, d31, d13]
  refine call_ov hP (rooted23 A t lv c hc hpl hnd hlv) ?_
  clear hP
  rintro _ A2 ⟨q, rfl, hq, hA2⟩ hP
  refine hR _ _ _ ?_; clear hR R
  iterate 5 (refine seqX_hide2 fun R hR => ?_; simp [go_sem, hcz, hco, d21, d12, d32, d23, d31, d13]; refine hR _ _ _ ?_; clear hR R)
  rw [seqX_nil]
  refine hK _ _ _ ?_; clear hK K
  refine hN3 _ _ _ ?_
  refine xc_two fun N4 hN4 => ?_
  refine xc_two fun N5 hN5 => ?_
  refine xc_reg1 2 rfl fun K hK => ?_
  simp only [show (List.range 2).map (·, true) = [(0, true), (1, true)] from rfl, rslv_cons, rslv_nil, List.getElem?_toArray, List.getElem?_cons_zero, List.getElem?_cons_succ, gres]
  iterate 2 (refine seqX_hide2 fun R hR => ?_; simp [go_sem, hcz, hco, d21, d12, d32, d23, d31, d13]; refine hR _ _ _ ?_; clear hR R)
  rw [seqX_nil]
  refine hK _ _ _ ?_; clear hK K
  refine hN5 _ _ _ ?_
  refine xc_iffalse (by simp [go_sem, hcz, hco, d21, d12, d32, d23, d31, d13]) ?_
  refine hN4 _ _ _ ?_
  refine xc_two fun N6 hN6 => ?_
  refine xc_reg1 4 rfl fun K hK => ?_
  simp only [show (List.range 4).map (·, true) = [(0, true), (1, true), (2, true), (3, true)] from rfl, rslv_cons, rslv_nil, List.getElem?_toArray, List.getElem?_cons_zero, List.getElem?_cons_succ, gres]
  (refine seqX_hide2 fun R hR => ?_; simp [go_sem, hcz, hco, d21, d12, d32, d23, d31, d13]; refine hR _ _ _ ?_; clear hR R)
  refine seqX_hide2 fun R hR => ?_
  simp [go_sem, hcz, hco, d21, d12, d32, d23, d31, d13]
  refine call_ov hP (getKey24 A2 (G.le hA2) t q hq hfk.1 hfk.2.2 fun x hx => (hpl.kid hx).fk (by have := nds_kid hx; omega)) ?_
  clear hP
  rintro _ A3 ⟨rfl, hA3⟩ hP
  have hidle : Idle Tryd.prog { target := .fn (.func 22) #[.pointer (some ⟨q2, 0, none⟩), .pointer (some ⟨q3, 0, none⟩)], args := #[] } := by
    intro w'
    exact ⟨_, _, 22, #[.pointer (some ⟨q2, 0, none⟩), .pointer (some ⟨q3, 0, none⟩)], rfl, by simp [go_sem, invoke], caught22 _ _ _⟩
  refine hR _ _ _ ?_; clear hR R
  refine seqX_hide2 fun R hR => ?_
  simp [go_sem, hcz, hco, d21, d12, d32, d23, d31, d13]
  refine hR _ _ _ ?_; clear hR R
  refine seqX_hide2 fun R hR => ?_
  simp [go_sem, hcz, hco, d21, d12, d32, d23, d31, d13]
  refine hR _ _ _ ?_; clear hR R
  rw [seqX_nil]
  refine hK _ _ _ ?_; clear hK K
  refine hN6 _ _ _ ?_
  simp [go_sem, hcz, hco, d21, d12, d32, d23, d31, d13]
  refine ⟨hidle, View.le_trans hA2 (View.le_trans hA3 ?_)⟩
  exact le_ov hP
theorem schema26 (A : View) : VCalls Tryd.prog 26 #[.slice none 0 0] A fun r A' => r = .tuple #[.pointer none, .bool true] ∧ A' = A := by
  refine xcalls Tryd.func26 rfl (by simp [Tryd.ntmps26]) ?_
  simp only [Tryd.f26]
  have hP : Priv A (addrs []) := Priv.nil A
  show xc _ _ _ _ _ _ (ov A [])
  refine xc_two fun N1 hN1 => ?_
  refine xc_reg1 2 rfl fun K hK => ?_
  simp only [show (List.range 2).map (·, true) = [(0, true), (1, true)] from rfl, rslv_cons, rslv_nil, List.getElem?_toArray, List.getElem?_cons_zero, List.getElem?_cons_succ, gres]
  iterate 2 (refine seqX_hide2 fun R hR => ?_; simp [go_sem]; refine hR _ _ _ ?_; clear hR R)
  rw [seqX_nil]
  refine hK _ _ _ ?_; clear hK K
  refine hN1 _ _ _ ?_
  refine xc_two fun N2 hN2 => ?_
  refine xc_two fun N3 hN3 => ?_
  refine xc_reg1 3 rfl fun K hK => ?_
  simp only [show (List.range 3).map (·, true) = [(0, true), (1, true), (2, true)] from rfl, rslv_cons, rslv_nil, List.getElem?_toArray, List.getElem?_cons_zero, List.getElem?_cons_succ, gres]
  iterate 3 (refine seqX_hide2 fun R hR => ?_; simp [go_sem]; refine hR _ _ _ ?_; clear hR R)
  rw [seqX_nil]
  refine hK _ _ _ ?_; clear hK K
  refine hN3 _ _ _ ?_
  refine xc_iftrue (by simp [go_sem]) ?_
  refine xc_two fun N4 hN4 => ?_
  refine xc_reg1 2 rfl fun K hK => ?_
  simp only [show (List.range 2).map (·, true) = [(0, true), (1, true)] from rfl, rslv_cons, rslv_nil, List.getElem?_toArray, List.getElem?_cons_zero, List.getElem?_cons_succ, gres]
  iterate 2 (refine seqX_hide2 fun R hR => ?_; simp [go_sem]; refine hR _ _ _ ?_; clear hR R)
  rw [seqX_nil]
  refine hK _ _ _ ?_; clear hK K
  refine hN4 _ _ _ ?_
  simp [go_sem]
  rfl
set_option maxRecDepth 20000 in
theorem sassoc27 (A : View) (G : GN A) (t : Tr) (q : Nat) (u : Value) (b : Bool) (hu : Row A 1 u 1 [ptr0 q]) (hq : IsRn A t q) (hk : t.kind ≠ 1) (hkl : t.kids.length ≤ 1000000) (hfk : ∀ x ∈ t.kids, FK x) (ht : t.tag ≠ tNull) :
    VCalls Tryd.prog 27 #[.pointer none, u, .bool b] A fun r A' => r = .bool (b && allF vName t.kids) ∧ A ≤ A' := by
  obtain ⟨ub, uc, rfl⟩ := hu.form
  refine xcalls Tryd.func27 rfl (by simp [Tryd.ntmps27]) ?_
  simp only [Tryd.f27]
  have hP : Priv A (addrs []) := Priv.nil A
  show xc _ _ _ _ _ _ (ov A [])
  refine xc_two fun N1 hN1 => ?_
  refine xc_reg1 1 rfl fun K hK => ?_
  simp only [show (List.range 1).map (·, true) = [(0, true)] from rfl, rslv_cons, rslv_nil, List.getElem?_toArray, List.getElem?_cons_zero, List.getElem?_cons_succ, gres]
  (refine seqX_hide2 fun R hR => ?_; simp [go_sem]; refine hR _ _ _ ?_; clear hR R)
  rw [seqX_nil]
  refine hK _ _ _ ?_; clear hK K
  refine hN1 _ _ _ ?_
  refine xc_two fun N2 hN2 => ?_
  refine xc_two fun N3 hN3 => ?_
  refine xc_reg1 2 rfl fun K hK => ?_
  simp only [show (List.range 2).map (·, true) = [(0, true), (1, true)] from rfl, rslv_cons, rslv_nil, List.getElem?_toArray, List.getElem?_cons_zero, List.getElem?_cons_succ, gres]
  iterate 2 (refine seqX_hide2 fun R hR => ?_; simp [go_sem]; refine hR _ _ _ ?_; clear hR R)
  rw [seqX_nil]
  refine hK _ _ _ ?_; clear hK K
  refine hN3 _ _ _ ?_
  refine xc_iffalse (by simp [go_sem]) ?_
  refine hN2 _ _ _ ?_
  refine xc_two fun N4 hN4 => ?_
  refine xc_two fun N5 hN5 => ?_
  refine xc_reg1 2 rfl fun K hK => ?_
  simp only [show (List.range 2).map (·, true) = [(0, true), (1, true)] from rfl, rslv_cons, rslv_nil, List.getElem?_toArray, List.getElem?_cons_zero, List.getElem?_cons_succ, gres]
  iterate 2 (refine seqX_hide2 fun R hR => ?_; simp [go_sem]; refine hR _ _ _ ?_; clear hR R)
  rw [seqX_nil]
  refine hK _ _ _ ?_; clear hK K
  refine hN5 _ _ _ ?_
  cases b with
  | false =>
    refine xc_iftrue (by simp [go_sem]) ?_
    refine xc_two fun N6 hN6 => ?_
    refine xc_reg1 1 rfl fun K hK => ?_
    simp only [show (List.range 1).map (·, true) = [(0, true)] from rfl, rslv_cons, rslv_nil, List.getElem?_toArray, List.getElem?_cons_zero, List.getElem?_cons_succ, gres]
    (refine seqX_hide2 fun R hR => ?_; simp [go_sem]; refine hR _ _ _ ?_; clear hR R)
    rw [seqX_nil]
    refine hK _ _ _ ?_; clear hK K
    refine hN6 _ _ _ ?_
    simp [go_sem]
    exact View.le_refl _
  | true =>
  refine xc_iffalse (by simp [go_sem]) ?_
  refine hN4 _ _ _ ?_
  refine xc_two fun N6 hN6 => ?_
  refine xc_two fun N7 hN7 => ?_
  refine xc_reg1 3 rfl fun K hK => ?_
  simp only [show (List.range 3).map (·, true) = [(0, true), (1, true), (2, true)] from rfl, rslv_cons, rslv_nil, List.getElem?_toArray, List.getElem?_cons_zero, List.getElem?_cons_succ, gres]
  iterate 3 (refine seqX_hide2 fun R hR => ?_; simp [go_sem]; refine hR _ _ _ ?_; clear hR R)
  rw [seqX_nil]
  refine hK _ _ _ ?_; clear hK K
  refine hN7 _ _ _ ?_
  rw [xc_block]
  rw [xc_loop]
  refine vloopK (fun k' e ds A' => ∃ (i : Nat) (D : View), k' = 1 - i ∧ ds = [] ∧ A' = ov D [] ∧ Priv D [] ∧ e 1 = .slice ub 1 uc ∧ e 16 = .int .i64 1 ∧ e 17 = .int .i64 i ∧ (i ≤ 1) ∧ (A ≤ D) ∧ (i = 1 → allF vName t.kids = false)) _ ⟨0, A, rfl, rfl, rfl, hP, by simp [go_sem], by simp [go_sem], by simp [go_sem], by omega, View.le_refl _, fun h => by cases h⟩ ?_
  clear hP
  rintro k' e ds A' ⟨i, D, rfl, rfl, hV, hP, g1, g16, g17, hil, hAD, hn⟩ J1 X1 hJ1 hX1
  refine xc_sound _ ?_
  replace hV := Eq.symm hV; subst hV; replace hP : Priv D (addrs []) := hP
  by_cases hi : i < 1
  rotate_left
  · have hii : ¬ (i : Int) < 1 := by omega
    have hi1 : i = 1 := by omega
    refine xc_two fun N8 hN8 => ?_
    refine xc_reg1 1 rfl fun K hK => ?_
    simp only [show (List.range 1).map (·, true) = [(0, true)] from rfl, rslv_cons, rslv_nil, List.getElem?_toArray, List.getElem?_cons_zero, List.getElem?_cons_succ, gres]
    (refine seqX_hide2 fun R hR => ?_; simp [go_sem, g1, g16, g17, hi, hii]; refine hR _ _ _ ?_; clear hR R)
    rw [seqX_nil]
    refine hK _ _ _ ?_; clear hK K
    refine hN8 _ _ _ ?_
    refine xc_two fun N9 hN9 => ?_
    refine xc_iffalse (by simp [go_sem, g1, g16, g17, hi, hii]) ?_
    refine hX1 _ _ _ _ ?_
    refine hN6 _ _ _ ?_
    refine xc_two fun N10 hN10 => ?_
    refine xc_reg1 1 rfl fun K hK => ?_
    simp only [show (List.range 1).map (·, true) = [(0, true)] from rfl, rslv_cons, rslv_nil, List.getElem?_toArray, List.getElem?_cons_zero, List.getElem?_cons_succ, gres]
    (refine seqX_hide2 fun R hR => ?_; simp [go_sem, g1, g16, g17, hi, hii]; refine hR _ _ _ ?_; clear hR R)
    rw [seqX_nil]
    refine hK _ _ _ ?_; clear hK K
    refine hN10 _ _ _ ?_
    simp [go_sem, g1, g16, g17, hi, hii]
    exact ⟨hn hi1, hAD⟩
  obtain rfl : i = 0 := by omega
  obtain ⟨a1, cap1, f1, -, u1⟩ := Row.at1 (i := 0) (u := ptr0 q) hu rfl
  simp only [Value.slice.injEq] at f1
  obtain ⟨rfl, -, rfl⟩ := f1
  rw [show a1.add 0 = a1 from if_pos rfl] at u1
  have u1 := le_cell hAD u1
  have hw1 : IntKind.i64.wrap (1 : Int) = 1 := by rw [wrap_in (by omega) (by omega)]
  refine xc_two fun N8 hN8 => ?_
  refine xc_reg1 1 rfl fun K hK => ?_
  simp only [show (List.range 1).map (·, true) = [(0, true)] from rfl, rslv_cons, rslv_nil, List.getElem?_toArray, List.getElem?_cons_zero, List.getElem?_cons_succ, gres]
  (refine seqX_hide2 fun R hR => ?_; simp [go_sem, g1, g16, g17, hw1, bc hP u1, xindexAt, vload]; refine hR _ _ _ ?_; clear hR R)
  rw [seqX_nil]
  refine hK _ _ _ ?_; clear hK K
  refine hN8 _ _ _ ?_
  refine xc_two fun N9 hN9 => ?_
  refine xc_iftrue (by simp [go_sem, g1, g16, g17, hw1, bc hP u1, xindexAt, vload]) ?_
  refine hN9 _ _ _ ?_
  refine xc_two fun N10 hN10 => ?_
  rw [xc_block]
  refine xc_two fun N11 hN11 => ?_
  refine xc_reg1 2 rfl fun K hK => ?_
  simp only [show (List.range 2).map (·, true) = [(0, true), (1, true)] from rfl, rslv_cons, rslv_nil, List.getElem?_toArray, List.getElem?_cons_zero, List.getElem?_cons_succ, gres]
  iterate 2 (refine seqX_hide2 fun R hR => ?_; simp [go_sem, g1, g16, g17, hw1, bc hP u1, xindexAt, vload]; refine hR _ _ _ ?_; clear hR R)
  rw [seqX_nil]
  refine hK _ _ _ ?_; clear hK K
  refine hN11 _ _ _ ?_
  refine xc_two fun N12 hN12 => ?_
  refine xc_reg1 5 rfl fun K hK => ?_
  simp only [show (List.range 5).map (·, true) = [(0, true), (1, true), (2, true), (3, true), (4, true)] from rfl, rslv_cons, rslv_nil, List.getElem?_toArray, List.getElem?_cons_zero, List.getElem?_cons_succ, gres]
  iterate 5 (refine seqX_hide2 fun R hR => ?_; simp [go_sem, g1, g16, g17, hw1, bc hP u1, xindexAt, vload]; refine hR _ _ _ ?_; clear hR R)
  rw [seqX_nil]
  refine hK _ _ _ ?_; clear hK K
  refine hN12 _ _ _ ?_
  refine xc_two fun N13 hN13 => ?_
  refine xc_two fun N14 hN14 => ?_
  refine xc_reg1 2 rfl fun K hK => ?_
  simp only [show (List.range 2).map (·, true) = [(0, true), (1, true)] from rfl, rslv_cons, rslv_nil, List.getElem?_toArray, List.getElem?_cons_zero, List.getElem?_cons_succ, gres]
  (refine seqX_hide2 fun R hR => ?_; simp [go_sem, g1, g16, g17, hw1, bc hP u1, xindexAt, vload]; refine hR _ _ _ ?_; clear hR R)
  refine seqX_hide2 fun R hR => ?_
  simp [go_sem, g1, g16, g17, hw1, bc hP u1, xindexAt, vload]
  refine call_same hP (missing39 D t q (hq.le hAD) hk) ?_
  rintro _ rfl
  refine hR _ _ _ ?_; clear hR R
  rw [seqX_nil]
  refine hK _ _ _ ?_; clear hK K
  refine hN14 _ _ _ ?_
  refine xc_iffalse (by simp [go_sem, g1, g16, g17, hw1, xindexAt, vload, decide_eq_false ht, ht]) ?_
  refine hN13 _ _ _ ?_
  refine xc_two fun N15 hN15 => ?_
  refine xc_reg1 2 rfl fun K hK => ?_
  simp only [show (List.range 2).map (·, true) = [(0, true), (1, true)] from rfl, rslv_cons, rslv_nil, List.getElem?_toArray, List.getElem?_cons_zero, List.getElem?_cons_succ, gres]
  (refine seqX_hide2 fun R hR => ?_; simp [go_sem, g1, g16, g17, hw1, xindexAt, vload, decide_eq_false ht, ht]; refine hR _ _ _ ?_; clear hR R)
  refine seqX_hide2 fun R hR => ?_
  simp [go_sem, g1, g16, g17, hw1, xindexAt, vload, decide_eq_false ht, ht]
  refine call_ov hP (rassoc40 D (G.le hAD) t q (hq.le hAD) hk hkl hfk) ?_
  clear hP
  rintro _ D2 ⟨rfl, hD2⟩ hP
  cases hall : allF vName t.kids with
  | true =>
    refine hR _ _ _ ?_; clear hR R
    rw [seqX_nil]
    refine hK _ _ _ ?_; clear hK K
    refine hN15 _ _ _ ?_
    refine xc_iftrue (by simp [go_sem, g1, g16, g17, hw1, xindexAt, vload, decide_eq_false ht, ht, hall]) ?_
    refine xc_two fun N16 hN16 => ?_
    refine xc_reg1 1 rfl fun K hK => ?_
    simp only [show (List.range 1).map (·, true) = [(0, true)] from rfl, rslv_cons, rslv_nil, List.getElem?_toArray, List.getElem?_cons_zero, List.getElem?_cons_succ, gres]
    (refine seqX_hide2 fun R hR => ?_; simp [go_sem, g1, g16, g17, hw1, xindexAt, vload, decide_eq_false ht, ht, hall]; refine hR _ _ _ ?_; clear hR R)
    rw [seqX_nil]
    refine hK _ _ _ ?_; clear hK K
    refine hN16 _ _ _ ?_
    refine hX1 _ _ _ _ ?_
    simp [go_sem, g1, g16, g17, hw1, xindexAt, vload, decide_eq_false ht, ht, hall]
    exact View.le_trans hAD hD2
  | false =>
    refine hR _ _ _ ?_; clear hR R
    rw [seqX_nil]
    refine hK _ _ _ ?_; clear hK K
    refine hN15 _ _ _ ?_
    refine xc_iffalse (by simp [go_sem, g1, g16, g17, hw1, xindexAt, vload, decide_eq_false ht, ht, hall]) ?_
    refine hN10 _ _ _ ?_
    refine xc_reg1 2 rfl fun K hK => ?_
    simp only [show (List.range 2).map (·, true) = [(0, true), (1, true)] from rfl, rslv_cons, rslv_nil, List.getElem?_toArray, List.getElem?_cons_zero, List.getElem?_cons_succ, gres]
    iterate 2 (refine seqX_hide2 fun R hR => ?_; simp [go_sem, g1, g16, g17, hw1, xindexAt, vload, decide_eq_false ht, ht, hall]; refine hR _ _ _ ?_; clear hR R)
    rw [seqX_nil]
    refine hK _ _ _ ?_; clear hK K
    refine hJ1 (1 - (1)) _ _ _ (by omega) ⟨1, D2, rfl, rfl, rfl, hP, by simp [go_sem, g1, g16, g17, hw1, xindexAt, vload, decide_eq_false ht, ht, hall], by simp [go_sem, g1, g16, g17, hw1, xindexAt, vload, decide_eq_false ht, ht, hall], by simp [go_sem, g1, g16, g17, hw1, xindexAt, vload, decide_eq_false ht, ht, hall], by omega, View.le_trans hAD hD2, fun _ => hall⟩
set_option maxRecDepth 20000 in
set_option maxHeartbeats 2000000 in
theorem isAssoc14 (A : View) (G : GN A) (t : Tr) (lv : Nat) (v : Value) (b : Bool) (hv : Trs A v [t]) (hpl : PL lv t) (hnd : nds t ≤ 400) (hlv : lv ≤ 40) (ht : t.tag ≠ tNull) : VCalls Tryd.prog 14 #[.slice none 0 0, v, .bool b] A fun r A' => r = .tuple #[.bool (b && allF vName t.kids), .int .i64 0] ∧ A ≤ A' := by
  have hfk := hpl.fk (by omega)
  obtain ⟨vb, vc, rfl⟩ := hv.slice
  obtain ⟨bs', cap', f1, hel⟩ := hv
  simp only [Value.slice.injEq, true_and] at f1
  obtain ⟨rfl, rfl⟩ := f1
  obtain ⟨a1, ci, rfl, w1, hci0⟩ := hel 0 (by simp)
  rw [show a1.add (0 * 12) = a1 from if_pos rfl] at w1
  refine xcallsD Tryd.func14 rfl (by simp [Tryd.ntmps14]) ?_
  simp only [Tryd.f14]
  have hP : Priv A (addrs []) := Priv.nil A
  show xc _ _ _ _ _ _ (ov A [])
  refine xc_two fun N1 hN1 => ?_
  refine xc_reg1 2 rfl fun K hK => ?_
  simp only [show (List.range 2).map (·, true) = [(0, true), (1, true)] from rfl, rslv_cons, rslv_nil, List.getElem?_toArray, List.getElem?_cons_zero, List.getElem?_cons_succ, gres]
  refine seqX_hide2 fun R hR => ?_
  simp [go_sem]
  intro q6 hq6
  replace hP := hP.cons hq6
  clear hq6
  refine hR _ _ _ ?_; clear hR R
  refine seqX_hide2 fun R hR => ?_
  simp [go_sem]
  intro q7 hq7
  replace hP := hP.cons hq7
  clear hq7
  have d76 : q7 ≠ q6 := (hP.ne q6 (by simp [addrs])).1
  have d67 : q6 ≠ q7 := (hP.ne q6 (by simp [addrs])).2
  refine hR _ _ _ ?_; clear hR R
  rw [seqX_nil]
  refine hK _ _ _ ?_; clear hK K
  refine hN1 _ _ _ ?_
  refine xc_two fun N2 hN2 => ?_
  refine xc_reg1 2 rfl fun K hK => ?_
  simp only [show (List.range 2).map (·, true) = [(0, true), (1, true)] from rfl, rslv_cons, rslv_nil, List.getElem?_toArray, List.getElem?_cons_zero, List.getElem?_cons_succ, gres]
  (refine seqX_hide2 fun R hR => ?_; simp [go_sem, d76, d67]; refine hR _ _ _ ?_; clear hR R)
  refine seqX_hide2 fun R hR => ?_
  simp [go_sem, d76, d67, toDefer]
  refine hR _ _ _ ?_; clear hR R
  rw [seqX_nil]
  refine hK _ _ _ ?_; clear hK K
  refine hN2 _ _ _ ?_
  refine xc_two fun N3 hN3 => ?_
  refine xc_reg1 7 rfl fun K hK => ?_
  simp only [show (List.range 7).map (·, true) = [(0, true), (1, true), (2, true), (3, true), (4, true), (5, true), (6, true)] from rfl, rslv_cons, rslv_nil, List.getElem?_toArray, List.getElem?_cons_zero, List.getElem?_cons_succ, gres]
  (refine seqX_hide2 fun R hR => ?_; simp [go_sem, d76, d67]; refine hR _ _ _ ?_; clear hR R)
  refine seqX_hide2 fun R hR => ?_
  simp [go_sem, d76, d67]
  refine call_same hP (schema26 A) ?_
  rintro _ rfl
  refine hR _ _ _ ?_; clear hR R
  iterate 5 (refine seqX_hide2 fun R hR => ?_; simp [go_sem, d76, d67]; refine hR _ _ _ ?_; clear hR R)
  rw [seqX_nil]
  refine hK _ _ _ ?_; clear hK K
  refine hN3 _ _ _ ?_
  refine xc_two fun N4 hN4 => ?_
  refine xc_reg1 1 rfl fun K hK => ?_
  simp only [show (List.range 1).map (·, true) = [(0, true)] from rfl, rslv_cons, rslv_nil, List.getElem?_toArray, List.getElem?_cons_zero, List.getElem?_cons_succ, gres]
  (refine seqX_hide2 fun R hR => ?_; simp [go_sem, d76, d67]; refine hR _ _ _ ?_; clear hR R)
  rw [seqX_nil]
  refine hK _ _ _ ?_; clear hK K
  refine hN4 _ _ _ ?_
  refine xc_two fun N5 hN5 => ?_
  refine xc_two fun N6 hN6 => ?_
  refine xc_reg1 3 rfl fun K hK => ?_
  simp only [show (List.range 3).map (·, true) = [(0, true), (1, true), (2, true)] from rfl, rslv_cons, rslv_nil, List.getElem?_toArray, List.getElem?_cons_zero, List.getElem?_cons_succ, gres]
  iterate 3 (refine seqX_hide2 fun R hR => ?_; simp [go_sem, d76, d67]; refine hR _ _ _ ?_; clear hR R)
  rw [seqX_nil]
  refine hK _ _ _ ?_; clear hK K
  refine hN6 _ _ _ ?_
  rw [xc_block]
  have hidle : Idle Tryd.prog { target := .fn (.func 25) #[.pointer (some ⟨q6, 0, none⟩), .pointer (some ⟨q7, 0, none⟩)], args := #[] } := by
    intro w'
    exact ⟨_, _, 25, #[.pointer (some ⟨q6, 0, none⟩), .pointer (some ⟨q7, 0, none⟩)], rfl, by simp [go_sem, invoke], caught25 _ _ _⟩
  rw [xc_loop]
  refine vloopK (fun k' e ds A' => ∃ (i : Nat) (D : View) (u : Value) (ns : List Value), k' = 1 - i ∧ ds = [{ target := .fn (.func 25) #[.pointer (some ⟨q6, 0, none⟩), .pointer (some ⟨q7, 0, none⟩)], args := #[] }] ∧ A' = ov D [(q7, .cells #[.int .i64 0] 3 (0, 0)), (q6, .cells #[.bool false] 4 (0, 0))] ∧ Priv D [q7, q6] ∧ e 1 = .slice (some a1) 1 vc ∧ e 2 = .bool b ∧ e 6 = .pointer (some ⟨q6, 0, none⟩) ∧ e 7 = .pointer (some ⟨q7, 0, none⟩) ∧ e 8 = .pointer none ∧ e 9 = .bool true ∧ e 10 = u ∧ e 21 = .slice (some a1) 1 vc ∧ e 22 = .int .i64 1 ∧ e 23 = .int .i64 i ∧ (i ≤ 1) ∧ (A ≤ eraseB D u) ∧ (Own (eraseB D u) D 58 1 u i ns) ∧ (i = 1 → ∃ q, ns = [ptr0 q] ∧ IsRn D t q)) _ ⟨0, A, .slice none 0 0, [], rfl, rfl, rfl, hP, by simp [go_sem, d76, d67], by simp [go_sem, d76, d67], by simp [go_sem, d76, d67], by simp [go_sem, d76, d67], by simp [go_sem, d76, d67], by simp [go_sem, d76, d67], by simp [go_sem, d76, d67], by simp [go_sem, d76, d67], by simp [go_sem, d76, d67], by simp [go_sem, d76, d67], by omega, View.le_refl _, Own.nil _ _ _ _, fun h => by cases h⟩ ?_
  clear hP
  rintro k' e ds _ ⟨i, D, u, ns, rfl, rfl, rfl, hP, g1, g2, g6, g7, g8, g9, g10, g21, g22, g23, hil, hAD, hO, hn⟩ J1 X1 hJ1 hX1
  refine xc_sound _ ?_
  by_cases hi : i < 1
  rotate_left
  · have hii : ¬ (i : Int) < 1 := by omega
    obtain rfl : i = 1 := by omega
    obtain ⟨q, rfl, hq⟩ := hn rfl
    refine xc_two fun N7 hN7 => ?_
    refine xc_reg1 1 rfl fun K hK => ?_
    simp only [show (List.range 1).map (·, true) = [(0, true)] from rfl, rslv_cons, rslv_nil, List.getElem?_toArray, List.getElem?_cons_zero, List.getElem?_cons_succ, gres]
    (refine seqX_hide2 fun R hR => ?_; simp [go_sem, d76, d67, g1, g2, g6, g7, g8, g9, g10, g21, g22, g23, hi, hii]; refine hR _ _ _ ?_; clear hR R)
    rw [seqX_nil]
    refine hK _ _ _ ?_; clear hK K
    refine hN7 _ _ _ ?_
    refine xc_two fun N8 hN8 => ?_
    refine xc_iffalse (by simp [go_sem, d76, d67, g1, g2, g6, g7, g8, g9, g10, g21, g22, g23, hi, hii]) ?_
    refine hX1 _ _ _ _ ?_
    refine hN5 _ _ _ ?_
    refine xc_two fun N9 hN9 => ?_
    refine xc_two fun N10 hN10 => ?_
    refine xc_reg1 2 rfl fun K hK => ?_
    simp only [show (List.range 2).map (·, true) = [(0, true), (1, true)] from rfl, rslv_cons, rslv_nil, List.getElem?_toArray, List.getElem?_cons_zero, List.getElem?_cons_succ, gres]
    iterate 2 (refine seqX_hide2 fun R hR => ?_; simp [go_sem, d76, d67, g1, g2, g6, g7, g8, g9, g10, g21, g22, g23, hi, hii]; refine hR _ _ _ ?_; clear hR R)
    rw [seqX_nil]
    refine hK _ _ _ ?_; clear hK K
    refine hN10 _ _ _ ?_
    refine xc_iffalse (by simp [go_sem, d76, d67, g1, g2, g6, g7, g8, g9, g10, g21, g22, g23, hi, hii]) ?_
    refine hN9 _ _ _ ?_
    refine xc_two fun N11 hN11 => ?_
    refine xc_reg1 6 rfl fun K hK => ?_
    simp only [show (List.range 6).map (·, true) = [(0, true), (1, true), (2, true), (3, true), (4, true), (5, true)] from rfl, rslv_cons, rslv_nil, List.getElem?_toArray, List.getElem?_cons_zero, List.getElem?_cons_succ, gres]
    iterate 3 (refine seqX_hide2 fun R hR => ?_; simp [go_sem, d76, d67, g1, g2, g6, g7, g8, g9, g10, g21, g22, g23, hi, hii]; refine hR _ _ _ ?_; clear hR R)
    refine seqX_hide2 fun R hR => ?_
    simp [go_sem, d76, d67, g1, g2, g6, g7, g8, g9, g10, g21, g22, g23, hi, hii]
    have hr := hO.row
    refine call_ov hP (sassoc27 D (G.le (View.le_trans hAD (eraseB_le _ _))) t q u b hr hq hfk.1 hfk.2.2 (fun x hx => (hpl.kid hx).fk (by have := nds_kid hx; omega)) ht) ?_
    clear hP
    rintro _ D2 ⟨rfl, hD2⟩ hP
    refine hR _ _ _ ?_; clear hR R
    refine seqX_hide2 fun R hR => ?_
    simp [go_sem, d76, d67, g1, g2, g6, g7, g8, g9, g10, g21, g22, g23, hi, hii]
    refine hR _ _ _ ?_; clear hR R
    refine seqX_hide2 fun R hR => ?_
    simp [go_sem, d76, d67, g1, g2, g6, g7, g8, g9, g10, g21, g22, g23, hi, hii]
    refine hR _ _ _ ?_; clear hR R
    rw [seqX_nil]
    refine hK _ _ _ ?_; clear hK K
    refine hN11 _ _ _ ?_
    simp [go_sem, d76, d67, g1, g2, g6, g7, g8, g9, g10, g21, g22, g23, hi, hii]
    refine ⟨hidle, View.le_trans hAD (View.le_trans (eraseB_le _ _) (View.le_trans hD2 ?_))⟩
    exact le_ov hP
  obtain rfl : i = 0 := by omega
  have hcl := hO.clen
  obtain rfl : ns = [] := List.eq_nil_of_length_eq_zero (by omega)
  obtain ⟨xb, xc, rfl⟩ := hO.shape
  have w1e := le_cells hAD _ _ _ w1
  have w1d := le_cells (eraseB_le _ _) _ _ _ w1e
  have hci := hci0.le hAD
  have hcz := hci.size
  have hco := hci.ones
  have hw1 : IntKind.i64.wrap (1 : Int) = 1 := by rw [wrap_in (by omega) (by omega)]
  refine xc_two fun N7 hN7 => ?_
  refine xc_reg1 1 rfl fun K hK => ?_
  simp only [show (List.range 1).map (·, true) = [(0, true)] from rfl, rslv_cons, rslv_nil, List.getElem?_toArray, List.getElem?_cons_zero, List.getElem?_cons_succ, gres]
  (refine seqX_hide2 fun R hR => ?_; simp [go_sem, d76, d67, g1, g2, g6, g7, g8, g9, g10, g21, g22, g23, hw1, hcz, hco, bcs hP w1d]; refine hR _ _ _ ?_; clear hR R)
  rw [seqX_nil]
  refine hK _ _ _ ?_; clear hK K
  refine hN7 _ _ _ ?_
  refine xc_two fun N8 hN8 => ?_
  refine xc_iftrue (by simp [go_sem, d76, d67, g1, g2, g6, g7, g8, g9, g10, g21, g22, g23, hw1, hcz, hco, bcs hP w1d]) ?_
  refine hN8 _ _ _ ?_
  refine xc_two fun N9 hN9 => ?_
  rw [xc_block]
  refine xc_two fun N10 hN10 => ?_
  refine xc_reg1 4 rfl fun K hK => ?_
  simp only [show (List.range 4).map (·, true) = [(0, true), (1, true), (2, true), (3, true)] from rfl, rslv_cons, rslv_nil, List.getElem?_toArray, List.getElem?_cons_zero, List.getElem?_cons_succ, gres]
  iterate 2 (refine seqX_hide2 fun R hR => ?_; simp [go_sem, d76, d67, g1, g2, g6, g7, g8, g9, g10, g21, g22, g23, hw1, hcz, hco, bcs hP w1d]; refine hR _ _ _ ?_; clear hR R)
  refine seqX_hide2 fun R hR => ?_
  simp [go_sem, d76, d67, g1, g2, g6, g7, g8, g9, g10, g21, g22, g23, hw1, hcz, hco, bcs hP w1d]
  intro q12 hq12
  replace hP := hP.cons hq12
  clear hq12
  have d127 : q12 ≠ q7 := (hP.ne q7 (by simp [addrs])).1
  have d712 : q7 ≠ q12 := (hP.ne q7 (by simp [addrs])).2
  have d126 : q12 ≠ q6 := (hP.ne q6 (by simp [addrs])).1
  have d612 : q6 ≠ q12 := (hP.ne q6 (by simp [addrs])).2
  refine hR _ _ _ ?_; clear hR R
  refine seqX_hide2 fun R hR => ?_
  simp [go_sem, d76, d67, g1, g2, g6, g7, g8, g9, g10, g21, g22, g23, hw1, hcz, hco, bcs hP w1d, d127, d712, d126, d612]
  refine hR _ _ _ ?_; clear hR R
  rw [seqX_nil]
  refine hK _ _ _ ?_; clear hK K
  refine hN10 _ _ _ ?_
  refine xc_two fun N11 hN11 => ?_
  refine xc_reg1 7 rfl fun K hK => ?_
  simp only [show (List.range 7).map (·, true) = [(0, true), (1, true), (2, true), (3, true), (4, true), (5, true), (6, true)] from rfl, rslv_cons, rslv_nil, List.getElem?_toArray, List.getElem?_cons_zero, List.getElem?_cons_succ, gres]
  (refine seqX_hide2 fun R hR => ?_; simp [go_sem, d76, d67, g1, g2, g6, g7, g8, g9, g10, g21, g22, g23, hw1, hcz, hco, bcs hP w1d, d127, d712, d126, d612]; refine hR _ _ _ ?_; clear hR R)
  refine seqX_hide2 fun R hR => ?_
  simp [go_sem, d76, d67, g1, g2, g6, g7, g8, g9, g10, g21, g22, g23, hw1, hcz, hco, bcs hP w1d, d127, d712, d126, d612]
  refine call_sub hP (eraseB_le D (.slice xb 0 xc)) (rooted23 _ t lv ci hci hpl hnd hlv) ?_
  clear hP
  rintro _ E D3 ⟨q, rfl, hq, hAE⟩ hED hKp hmono hP
  have hDD := hmono hAE
  have hE3 := keep_erase hO hED hKp
  have hO3 := own_rebase (hO.le hDD)
  refine hR _ _ _ ?_; clear hR R
  iterate 5 (refine seqX_hide2 fun R hR => ?_; simp [go_sem, d76, d67, g1, g2, g6, g7, g8, g9, g10, g21, g22, g23, hw1, hcz, hco, d127, d712, d126, d612]; refine hR _ _ _ ?_; clear hR R)
  rw [seqX_nil]
  refine hK _ _ _ ?_; clear hK K
  refine hN11 _ _ _ ?_
  refine xc_two fun N12 hN12 => ?_
  refine xc_two fun N13 hN13 => ?_
  refine xc_reg1 7 rfl fun K hK => ?_
  simp only [show (List.range 7).map (·, true) = [(0, true), (1, true), (2, true), (3, true), (4, true), (5, true), (6, true)] from rfl, rslv_cons, rslv_nil, List.getElem?_toArray, List.getElem?_cons_zero, List.getElem?_cons_succ, gres]
  iterate 7 (refine seqX_hide2 fun R hR => ?_; simp [go_sem, d76, d67, g1, g2, g6, g7, g8, g9, g10, g21, g22, g23, hw1, hcz, hco, d127, d712, d126, d612]; refine hR _ _ _ ?_; clear hR R)
  rw [seqX_nil]
  refine hK _ _ _ ?_; clear hK K
  refine hN13 _ _ _ ?_
  refine xc_iffalse (by simp [go_sem, d76, d67, g1, g2, g6, g7, g8, g9, g10, g21, g22, g23, hw1, hcz, hco, d127, d712, d126, d612]) ?_
  refine hN12 _ _ _ ?_
  refine xc_reg1 5 rfl fun K hK => ?_
  simp only [show (List.range 5).map (·, true) = [(0, true), (1, true), (2, true), (3, true), (4, true)] from rfl, rslv_cons, rslv_nil, List.getElem?_toArray, List.getElem?_cons_zero, List.getElem?_cons_succ, gres]
  iterate 2 (refine seqX_hide2 fun R hR => ?_; simp [go_sem, d76, d67, g1, g2, g6, g7, g8, g9, g10, g21, g22, g23, hw1, hcz, hco, d127, d712, d126, d612]; refine hR _ _ _ ?_; clear hR R)
  refine seqX_hide2 fun R hR => ?_
  simp [go_sem, d76, d67, g1, g2, g6, g7, g8, g9, g10, g21, g22, g23, hw1, hcz, hco, d127, d712, d126, d612]
  intro q41 hq41
  replace hP := hP.cons hq41
  clear hq41
  have d4112 : q41 ≠ q12 := (hP.ne q12 (by simp [addrs])).1
  have d1241 : q12 ≠ q41 := (hP.ne q12 (by simp [addrs])).2
  have d417 : q41 ≠ q7 := (hP.ne q7 (by simp [addrs])).1
  have d741 : q7 ≠ q41 := (hP.ne q7 (by simp [addrs])).2
  have d416 : q41 ≠ q6 := (hP.ne q6 (by simp [addrs])).1
  have d641 : q6 ≠ q41 := (hP.ne q6 (by simp [addrs])).2
  refine hR _ _ _ ?_; clear hR R
  refine seqX_hide2 fun R hR => ?_
  simp [go_sem, d76, d67, g1, g2, g6, g7, g8, g9, g10, g21, g22, g23, hw1, hcz, hco, d127, d712, d126, d612, d4112, d1241, d417, d741, d416, d641]
  refine append_ov (cs := [ptr0 q]) (m := 1) hP ti66 ti66 (fun k => by simp) ti58 rfl (by decide) hO3 (eraseB_le _ _) (by simp [appended, View.cells?, go_sem]) (by simp [isStr]) (fun v hv => by rw [List.mem_singleton] at hv; subst hv; rfl) (by omega) ?_
  clear hP
  rintro v4 D4 h4 hO4 h4e hP
  obtain ⟨yb, yc, rfl⟩ := hO4.shape
  refine hR _ _ _ ?_; clear hR R
  (refine seqX_hide2 fun R hR => ?_; simp [go_sem, d76, d67, g1, g2, g6, g7, g8, g9, g10, g21, g22, g23, hw1, hcz, hco, d127, d712, d126, d612, d4112, d1241, d417, d741, d416, d641]; refine hR _ _ _ ?_; clear hR R)
  rw [seqX_nil]
  refine hK _ _ _ ?_; clear hK K
  refine hN9 _ _ _ ?_
  refine xc_reg1 2 rfl fun K hK => ?_
  simp only [show (List.range 2).map (·, true) = [(0, true), (1, true)] from rfl, rslv_cons, rslv_nil, List.getElem?_toArray, List.getElem?_cons_zero, List.getElem?_cons_succ, gres]
  iterate 2 (refine seqX_hide2 fun R hR => ?_; simp [go_sem, d76, d67, g1, g2, g6, g7, g8, g9, g10, g21, g22, g23, hw1, hcz, hco, d127, d712, d126, d612, d4112, d1241, d417, d741, d416, d641]; refine hR _ _ _ ?_; clear hR R)
  rw [seqX_nil]
  refine hK _ _ _ ?_; clear hK K
  refine sink_goal 0 hP rfl fun hPn lq41 nq41 => ?_
  clear hP; have hP := hPn; clear hPn
  simp only [List.eraseIdx_cons_zero, List.eraseIdx_cons_succ, addrs_cons, addrs_nil] at hP ⊢
  refine sink_goal 0 hP rfl fun hPn lq12 nq12 => ?_
  clear hP; have hP := hPn; clear hPn
  simp only [List.eraseIdx_cons_zero, List.eraseIdx_cons_succ, addrs_cons, addrs_nil] at hP ⊢
  have hE5 := View.le_trans h4e (eraseB_mono (View.le_trans lq41 lq12) (.slice yb 1 yc))
  have hE6 := View.le_trans hAE (View.le_trans hE3 hE5)
  refine hJ1 (1 - (1)) _ _ _ (by omega) ⟨1, _, .slice yb 1 yc, [ptr0 q], rfl, rfl, rfl, hP, by simp [go_sem, d76, d67, g1, g2, g6, g7, g8, g9, g10, g21, g22, g23, hw1, hcz, hco, d127, d712, d126, d612, d4112, d1241, d417, d741, d416, d641], by simp [go_sem, d76, d67, g1, g2, g6, g7, g8, g9, g10, g21, g22, g23, hw1, hcz, hco, d127, d712, d126, d612, d4112, d1241, d417, d741, d416, d641], by simp [go_sem, d76, d67, g1, g2, g6, g7, g8, g9, g10, g21, g22, g23, hw1, hcz, hco, d127, d712, d126, d612, d4112, d1241, d417, d741, d416, d641], by simp [go_sem, d76, d67, g1, g2, g6, g7, g8, g9, g10, g21, g22, g23, hw1, hcz, hco, d127, d712, d126, d612, d4112, d1241, d417, d741, d416, d641], by simp [go_sem, d76, d67, g1, g2, g6, g7, g8, g9, g10, g21, g22, g23, hw1, hcz, hco, d127, d712, d126, d612, d4112, d1241, d417, d741, d416, d641], by simp [go_sem, d76, d67, g1, g2, g6, g7, g8, g9, g10, g21, g22, g23, hw1, hcz, hco, d127, d712, d126, d612, d4112, d1241, d417, d741, d416, d641], by simp [go_sem, d76, d67, g1, g2, g6, g7, g8, g9, g10, g21, g22, g23, hw1, hcz, hco, d127, d712, d126, d612, d4112, d1241, d417, d741, d416, d641], by simp [go_sem, d76, d67, g1, g2, g6, g7, g8, g9, g10, g21, g22, g23, hw1, hcz, hco, d127, d712, d126, d612, d4112, d1241, d417, d741, d416, d641], by simp [go_sem, d76, d67, g1, g2, g6, g7, g8, g9, g10, g21, g22, g23, hw1, hcz, hco, d127, d712, d126, d612, d4112, d1241, d417, d741, d416, d641], by simp [go_sem, d76, d67, g1, g2, g6, g7, g8, g9, g10, g21, g22, g23, hw1, hcz, hco, d127, d712, d126, d612, d4112, d1241, d417, d741, d416, d641], by omega, View.le_trans hAD hE6, own_rebase (hO4.le (View.le_trans lq41 lq12)), fun _ => ⟨q, rfl, hq.le (View.le_trans hE3 (View.le_trans hE5 (eraseB_le _ _)))⟩⟩
end Go.Proofs.YthjbgpmcfcijgaaDoorV

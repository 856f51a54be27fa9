/- Trees: nothing there, the key of a list. -/
import Derived.Test.YthjbgpmcfcijgaaDoorKJ
namespace Go.Proofs.YthjbgpmcfcijgaaDoorV
open Go.RowKit
set_option linter.unusedSimpArgs false
set_option linter.unusedVariables false
def vName : ByteArray := ⟨#[110, 97, 109, 101]⟩
theorem beq_dec {s t : ByteArray} {l : List UInt8} (h : t.toList = l) : (s.toList == l) = decide (s = t) := by
  by_cases hs : s = t
  · subst hs
    rw [h]
    simp
  · rw [decide_eq_false hs, beq_eq_false_iff_ne, ← h]
    exact bytes_ne hs
set_option maxRecDepth 20000 in
theorem isNil52 (A : View) (t : Tr) (q : Nat) (hq : IsRn A t q) (hk : t.kind ≠ 1) : VCalls Tryd.prog 52 #[ptr0 q] A fun r A' => r = .bool false ∧ A' = A := by
  obtain ⟨p, hq, hy⟩ := hq
  obtain ⟨k, st, tag, val, an, h, l, f, row, col, al, kids, rfl⟩ := t.ex
  obtain ⟨cv, ps, hp, hrow, hpl, hyk⟩ := hy.open
  refine xcalls Tryd.func52 rfl (by simp [Tryd.ntmps52]) ?_
  simp only [Tryd.f52]
  have hP : Priv A (addrs []) := Priv.nil A
  show xc _ _ _ _ _ _ (ov A [])
  refine xc_two fun N1 hN1 => ?_
  refine xc_reg1 1 rfl fun K hK => ?_
  simp only [show (List.range 1).map (·, true) = [(0, true)] from rfl, rslv_cons, rslv_nil, List.getElem?_toArray, List.getElem?_cons_zero, List.getElem?_cons_succ, gres]
  (refine seqX_hide2 fun R hR => ?_; simp [go_sem]; refine hR _ _ _ ?_; clear hR R)
  rw [seqX_nil]
  refine hK _ _ _ ?_; clear hK K
  refine hN1 _ _ _ ?_
  refine xc_two fun N2 hN2 => ?_
  refine xc_reg1 8 rfl fun K hK => ?_
  simp only [show (List.range 8).map (·, true) = [(0, true), (1, true), (2, true), (3, true), (4, true), (5, true), (6, true), (7, true)] from rfl, rslv_cons, rslv_nil, List.getElem?_toArray, List.getElem?_cons_zero, List.getElem?_cons_succ, gres]
  iterate 4 (refine seqX_hide2 fun R hR => ?_; simp [go_sem]; refine hR _ _ _ ?_; clear hR R)
  refine seqX_hide2 fun R hR => ?_
  simp [go_sem]
  refine call_same hP (ynode48 A q p k st tag val an cv h l f row col hq hp hk) ?_
  rintro _ rfl
  refine hR _ _ _ ?_; clear hR R
  iterate 3 (refine seqX_hide2 fun R hR => ?_; simp [go_sem]; refine hR _ _ _ ?_; clear hR R)
  rw [seqX_nil]
  refine hK _ _ _ ?_; clear hK K
  refine hN2 _ _ _ ?_
  simp [go_sem]
  rfl
set_option maxRecDepth 20000 in
theorem missing39 (A : View) (t : Tr) (q : Nat) (hq : IsRn A t q) (hk : t.kind ≠ 1) : VCalls Tryd.prog 39 #[ptr0 q] A fun r A' => r = .bool (decide (t.tag = tNull)) ∧ A' = A := by
  have hq0 := hq
  obtain ⟨p, hq, hy⟩ := hq
  obtain ⟨k, st, tag, val, an, h, l, f, row, col, al, kids, rfl⟩ := t.ex
  obtain ⟨cv, ps, hp, hrow, hpl, hyk⟩ := hy.open
  have c2 := cell_of (i := 2) hp rfl
  refine xcalls Tryd.func39 rfl (by simp [Tryd.ntmps39]) ?_
  simp only [Tryd.f39]
  have hP : Priv A (addrs []) := Priv.nil A
  show xc _ _ _ _ _ _ (ov A [])
  refine xc_two fun N1 hN1 => ?_
  refine xc_reg1 1 rfl fun K hK => ?_
  simp only [show (List.range 1).map (·, true) = [(0, true)] from rfl, rslv_cons, rslv_nil, List.getElem?_toArray, List.getElem?_cons_zero, List.getElem?_cons_succ, gres]
  (refine seqX_hide2 fun R hR => ?_; simp [go_sem]; refine hR _ _ _ ?_; clear hR R)
  rw [seqX_nil]
  refine hK _ _ _ ?_; clear hK K
  refine hN1 _ _ _ ?_
  refine xc_two fun N2 hN2 => ?_
  refine xc_reg1 11 rfl fun K hK => ?_
  simp only [show (List.range 11).map (·, true) = [(0, true), (1, true), (2, true), (3, true), (4, true), (5, true), (6, true), (7, true), (8, true), (9, true), (10, true)] from rfl, rslv_cons, rslv_nil, List.getElem?_toArray, List.getElem?_cons_zero, List.getElem?_cons_succ, gres]
  (refine seqX_hide2 fun R hR => ?_; simp [go_sem]; refine hR _ _ _ ?_; clear hR R)
  refine seqX_hide2 fun R hR => ?_
  simp [go_sem]
  refine call_same hP (isNil52 A _ q hq0 hk) ?_
  rintro _ rfl
  refine hR _ _ _ ?_; clear hR R
  iterate 2 (refine seqX_hide2 fun R hR => ?_; simp [go_sem, bc hP c2]; refine hR _ _ _ ?_; clear hR R)
  refine seqX_hide2 fun R hR => ?_
  simp [go_sem, bc hP c2]
  refine call_same hP (ynode48 A q p k st tag val an cv h l f row col hq hp hk) ?_
  rintro _ rfl
  refine hR _ _ _ ?_; clear hR R
  iterate 6 (refine seqX_hide2 fun R hR => ?_; simp [go_sem, bc hP c2]; refine hR _ _ _ ?_; clear hR R)
  rw [seqX_nil]
  refine hK _ _ _ ?_; clear hK K
  refine hN2 _ _ _ ?_
  simp [go_sem, bc hP c2]
  exact ⟨beq_dec (by kernel_rfl), rfl⟩
/-- What a list's elements have to be to be asked for a field. -/
def FK (t : Tr) : Prop := t.kind ≠ 1 ∧ (t.kind = 4 → t.kids.length % 2 = 0) ∧ t.kids.length ≤ 1000000
abbrev hasF (nm : ByteArray) (t : Tr) : Bool := (fldOf t nm).isSome
/-- Whether all have the field. -/
def allF (nm : ByteArray) (kids : List Tr) : Bool := kids.all (hasF nm)
theorem allF_count (nm : ByteArray) (kids : List Tr) : (((kids.countP (hasF nm) : Nat) : Int) == (kids.length : Int)) = allF nm kids := by
  cases h : allF nm kids with
  | true =>
    rw [List.countP_eq_length.2 (List.all_eq_true.1 h)]
    exact beq_self_eq_true _
  | false =>
    rw [beq_eq_false_iff_ne]
    intro hx
    rw [allF, List.all_eq_true.2 (List.countP_eq_length.1 (Int.ofNat.inj hx))] at h
    cases h
set_option maxRecDepth 20000 in
set_option maxHeartbeats 4000000 in
theorem checkKey35 (A : View) (nm : ByteArray) (kids : List Tr) (ps : List Nat) (cv : Value) (hrow : Row A 1 cv kids.length (ps.map ptr0)) (hpl : ps.length = kids.length) (hyk : ∀ j (hj : j < kids.length), ∃ q, ps[j]? = some q ∧ IsYn A (kids[j]) q) (hkl : kids.length ≤ 1000000) (hfk : ∀ x ∈ kids, FK x) :
    VCalls Tryd.prog 35 #[.string nm, cv] A fun r A' => r = .bool (allF nm kids) ∧ A ≤ A' := by
  obtain ⟨cb, cc, rfl⟩ := hrow.form
  refine xcalls Tryd.func35 rfl (by simp [Tryd.ntmps35]) ?_
  simp only [Tryd.f35]
  have hP : Priv A (addrs []) := Priv.nil A
  show xc _ _ _ _ _ _ (ov A [])
  refine xc_two fun N1 hN1 => ?_
  refine xc_reg1 1 rfl fun K hK => ?_
  simp only [show (List.range 1).map (·, true) = [(0, true)] from rfl, rslv_cons, rslv_nil, List.getElem?_toArray, List.getElem?_cons_zero, List.getElem?_cons_succ, gres]
  (refine seqX_hide2 fun R hR => ?_; simp [go_sem]; refine hR _ _ _ ?_; clear hR R)
  rw [seqX_nil]
  refine hK _ _ _ ?_; clear hK K
  refine hN1 _ _ _ ?_
  refine xc_two fun N2 hN2 => ?_
  refine xc_reg1 1 rfl fun K hK => ?_
  simp only [show (List.range 1).map (·, true) = [(0, true)] from rfl, rslv_cons, rslv_nil, List.getElem?_toArray, List.getElem?_cons_zero, List.getElem?_cons_succ, gres]
  (refine seqX_hide2 fun R hR => ?_; simp [go_sem]; refine hR _ _ _ ?_; clear hR R)
  rw [seqX_nil]
  refine hK _ _ _ ?_; clear hK K
  refine hN2 _ _ _ ?_
  refine xc_two fun N3 hN3 => ?_
  refine xc_two fun N4 hN4 => ?_
  refine xc_reg1 3 rfl fun K hK => ?_
  simp only [show (List.range 3).map (·, true) = [(0, true), (1, true), (2, true)] from rfl, rslv_cons, rslv_nil, List.getElem?_toArray, List.getElem?_cons_zero, List.getElem?_cons_succ, gres]
  iterate 3 (refine seqX_hide2 fun R hR => ?_; simp [go_sem]; refine hR _ _ _ ?_; clear hR R)
  rw [seqX_nil]
  refine hK _ _ _ ?_; clear hK K
  refine hN4 _ _ _ ?_
  rw [xc_block]
  rw [xc_loop]
  refine vloopK (fun k' e ds A' => ∃ (i : Nat) (n : Nat) (D : View), k' = kids.length - i ∧ ds = [] ∧ A' = ov D [] ∧ Priv D [] ∧ e 0 = .string nm ∧ e 1 = .slice cb kids.length cc ∧ e 5 = .int .i64 n ∧ e 9 = .int .i64 kids.length ∧ e 10 = .int .i64 i ∧ (i ≤ kids.length) ∧ (A ≤ D) ∧ (n = (kids.take i).countP (hasF nm))) _ ⟨0, 0, A, rfl, rfl, rfl, hP, by simp [go_sem], by simp [go_sem], by simp [go_sem], by simp [go_sem], by simp [go_sem], by omega, View.le_refl _, by simp⟩ ?_
  clear hP
  rintro k' e ds A' ⟨i, n, D, rfl, rfl, hV, hP, g0, g1, g5, g9, g10, hil, hAD, hn⟩ J1 X1 hJ1 hX1
  refine xc_sound _ ?_
  replace hV := Eq.symm hV; subst hV; replace hP : Priv D (addrs []) := hP
  have hw1 : IntKind.i64.wrap ((i : Int) + 1) = ((i + 1 : Nat) : Int) := by rw [wrap_in (by omega) (by omega)]; omega
  have hnl : n ≤ i := by
    rw [hn]
    refine Nat.le_trans List.countP_le_length ?_
    rw [List.length_take]
    omega
  have hw2 : IntKind.i64.wrap ((n : Int) + 1) = ((n + 1 : Nat) : Int) := by rw [wrap_in (by omega) (by omega)]; omega
  by_cases hi : i < kids.length
  rotate_left
  · rw [List.take_of_length_le (by omega)] at hn
    have hii : ¬ (i : Int) < kids.length := by omega
    refine xc_two fun N5 hN5 => ?_
    refine xc_reg1 1 rfl fun K hK => ?_
    simp only [show (List.range 1).map (·, true) = [(0, true)] from rfl, rslv_cons, rslv_nil, List.getElem?_toArray, List.getElem?_cons_zero, List.getElem?_cons_succ, gres]
    (refine seqX_hide2 fun R hR => ?_; simp [go_sem, g0, g1, g5, g9, g10, hi, hii]; refine hR _ _ _ ?_; clear hR R)
    rw [seqX_nil]
    refine hK _ _ _ ?_; clear hK K
    refine hN5 _ _ _ ?_
    refine xc_two fun N6 hN6 => ?_
    refine xc_iffalse (by simp [go_sem, g0, g1, g5, g9, g10, hi, hii]) ?_
    refine hX1 _ _ _ _ ?_
    refine hN3 _ _ _ ?_
    refine xc_two fun N7 hN7 => ?_
    refine xc_reg1 5 rfl fun K hK => ?_
    simp only [show (List.range 5).map (·, true) = [(0, true), (1, true), (2, true), (3, true), (4, true)] from rfl, rslv_cons, rslv_nil, List.getElem?_toArray, List.getElem?_cons_zero, List.getElem?_cons_succ, gres]
    iterate 5 (refine seqX_hide2 fun R hR => ?_; simp [go_sem, g0, g1, g5, g9, g10, hi, hii]; refine hR _ _ _ ?_; clear hR R)
    rw [seqX_nil]
    refine hK _ _ _ ?_; clear hK K
    refine hN7 _ _ _ ?_
    simp [go_sem, g0, g1, g5, g9, g10, hi, hii]
    exact ⟨by rw [hn]; exact allF_count nm kids, hAD⟩
  have hii : (i : Int) < kids.length := by omega
  obtain ⟨p, hq1, hq2⟩ := hyk i hi
  obtain ⟨a1, cap1, f1, -, u1⟩ := Row.at1 (i := i) (u := ptr0 p) hrow (by rw [List.getElem?_map, hq1]; rfl)
  simp only [Value.slice.injEq] at f1
  obtain ⟨rfl, -, rfl⟩ := f1
  have u1 := le_cell hAD u1
  obtain ⟨hx1, hx2, hx3⟩ := hfk _ (List.getElem_mem hi)
  have htk : (kids.take (i + 1)).countP (hasF nm) = (kids.take i).countP (hasF nm) + if hasF nm kids[i] then 1 else 0 := by
    rw [List.take_succ_eq_append_getElem hi, List.countP_append, List.countP_singleton]
  refine xc_two fun N5 hN5 => ?_
  refine xc_reg1 1 rfl fun K hK => ?_
  simp only [show (List.range 1).map (·, true) = [(0, true)] from rfl, rslv_cons, rslv_nil, List.getElem?_toArray, List.getElem?_cons_zero, List.getElem?_cons_succ, gres]
  (refine seqX_hide2 fun R hR => ?_; simp [go_sem, g0, g1, g5, g9, g10, hi, hii, hw1, hw2, bc hP u1, xindexAt, vload]; refine hR _ _ _ ?_; clear hR R)
  rw [seqX_nil]
  refine hK _ _ _ ?_; clear hK K
  refine hN5 _ _ _ ?_
  refine xc_two fun N6 hN6 => ?_
  refine xc_iftrue (by simp [go_sem, g0, g1, g5, g9, g10, hi, hii, hw1, hw2, bc hP u1, xindexAt, vload]) ?_
  refine hN6 _ _ _ ?_
  refine xc_two fun N7 hN7 => ?_
  rw [xc_block]
  refine xc_two fun N8 hN8 => ?_
  refine xc_reg1 2 rfl fun K hK => ?_
  simp only [show (List.range 2).map (·, true) = [(0, true), (1, true)] from rfl, rslv_cons, rslv_nil, List.getElem?_toArray, List.getElem?_cons_zero, List.getElem?_cons_succ, gres]
  iterate 2 (refine seqX_hide2 fun R hR => ?_; simp [go_sem, g0, g1, g5, g9, g10, hi, hii, hw1, hw2, bc hP u1, xindexAt, vload]; refine hR _ _ _ ?_; clear hR R)
  rw [seqX_nil]
  refine hK _ _ _ ?_; clear hK K
  refine hN8 _ _ _ ?_
  refine xc_two fun N9 hN9 => ?_
  refine xc_reg1 6 rfl fun K hK => ?_
  simp only [show (List.range 6).map (·, true) = [(0, true), (1, true), (2, true), (3, true), (4, true), (5, true)] from rfl, rslv_cons, rslv_nil, List.getElem?_toArray, List.getElem?_cons_zero, List.getElem?_cons_succ, gres]
  iterate 4 (refine seqX_hide2 fun R hR => ?_; simp [go_sem, g0, g1, g5, g9, g10, hi, hii, hw1, hw2, bc hP u1, xindexAt, vload]; refine hR _ _ _ ?_; clear hR R)
  refine seqX_hide2 fun R hR => ?_
  simp [go_sem, g0, g1, g5, g9, g10, hi, hii, hw1, hw2, bc hP u1, xindexAt, vload]
  refine call_ov hP (newRNode33 D kids[i] p (hq2.le hAD)) ?_
  clear hP
  rintro _ D2 ⟨q, rfl, hr, hD2⟩ hP
  refine hR _ _ _ ?_; clear hR R
  (refine seqX_hide2 fun R hR => ?_; simp [go_sem, g0, g1, g5, g9, g10, hi, hii, hw1, hw2, xindexAt, vload]; refine hR _ _ _ ?_; clear hR R)
  rw [seqX_nil]
  refine hK _ _ _ ?_; clear hK K
  refine hN9 _ _ _ ?_
  refine xc_two fun N10 hN10 => ?_
  refine xc_reg1 4 rfl fun K hK => ?_
  simp only [show (List.range 4).map (·, true) = [(0, true), (1, true), (2, true), (3, true)] from rfl, rslv_cons, rslv_nil, List.getElem?_toArray, List.getElem?_cons_zero, List.getElem?_cons_succ, gres]
  iterate 2 (refine seqX_hide2 fun R hR => ?_; simp [go_sem, g0, g1, g5, g9, g10, hi, hii, hw1, hw2, xindexAt, vload]; refine hR _ _ _ ?_; clear hR R)
  refine seqX_hide2 fun R hR => ?_
  simp [go_sem, g0, g1, g5, g9, g10, hi, hii, hw1, hw2, xindexAt, vload]
  refine call_ov hP (field47 D2 kids[i] q nm hr hx1 hx2 hx3) ?_
  clear hP
  rintro r D3 ⟨hF, hD3⟩ hP
  cases hfo : fldOf kids[i] nm with
  | none =>
    rw [hfo] at hF
    obtain rfl : r = .pointer none := hF
    rw [show hasF nm kids[i] = false by rw [hasF, hfo]; rfl] at htk
    refine hR _ _ _ ?_; clear hR R
    (refine seqX_hide2 fun R hR => ?_; simp [go_sem, g0, g1, g5, g9, g10, hi, hii, hw1, hw2, xindexAt, vload]; refine hR _ _ _ ?_; clear hR R)
    rw [seqX_nil]
    refine hK _ _ _ ?_; clear hK K
    refine hN10 _ _ _ ?_
    refine xc_iffalse (by simp [go_sem, g0, g1, g5, g9, g10, hi, hii, hw1, hw2, xindexAt, vload]) ?_
    refine hN7 _ _ _ ?_
    refine xc_reg1 2 rfl fun K hK => ?_
    simp only [show (List.range 2).map (·, true) = [(0, true), (1, true)] from rfl, rslv_cons, rslv_nil, List.getElem?_toArray, List.getElem?_cons_zero, List.getElem?_cons_succ, gres]
    iterate 2 (refine seqX_hide2 fun R hR => ?_; simp [go_sem, g0, g1, g5, g9, g10, hi, hii, hw1, hw2, xindexAt, vload]; refine hR _ _ _ ?_; clear hR R)
    rw [seqX_nil]
    refine hK _ _ _ ?_; clear hK K
    refine hJ1 (kids.length - (i + 1)) _ _ _ (by omega) ⟨i + 1, n, D3, rfl, rfl, rfl, hP, by simp [go_sem, g0, g1, g5, g9, g10, hi, hii, hw1, hw2, xindexAt, vload], by simp [go_sem, g0, g1, g5, g9, g10, hi, hii, hw1, hw2, xindexAt, vload], by simp [go_sem, g0, g1, g5, g9, g10, hi, hii, hw1, hw2, xindexAt, vload], by simp [go_sem, g0, g1, g5, g9, g10, hi, hii, hw1, hw2, xindexAt, vload], by simp [go_sem, g0, g1, g5, g9, g10, hi, hii, hw1, hw2, xindexAt, vload], by omega, View.le_trans hAD (View.le_trans hD2 hD3), by rw [htk, ← hn]; rfl⟩
  | some x =>
    rw [hfo] at hF
    obtain ⟨m, kp, vp, rfl, -, -⟩ := hF
    rw [show hasF nm kids[i] = true by rw [hasF, hfo]; rfl] at htk
    refine hR _ _ _ ?_; clear hR R
    (refine seqX_hide2 fun R hR => ?_; simp [go_sem, g0, g1, g5, g9, g10, hi, hii, hw1, hw2, xindexAt, vload]; refine hR _ _ _ ?_; clear hR R)
    rw [seqX_nil]
    refine hK _ _ _ ?_; clear hK K
    refine hN10 _ _ _ ?_
    refine xc_iftrue (by simp [go_sem, g0, g1, g5, g9, g10, hi, hii, hw1, hw2, xindexAt, vload]) ?_
    refine xc_reg1 3 rfl fun K hK => ?_
    simp only [show (List.range 3).map (·, true) = [(0, true), (1, true), (2, true)] from rfl, rslv_cons, rslv_nil, List.getElem?_toArray, List.getElem?_cons_zero, List.getElem?_cons_succ, gres]
    iterate 3 (refine seqX_hide2 fun R hR => ?_; simp [go_sem, g0, g1, g5, g9, g10, hi, hii, hw1, hw2, xindexAt, vload]; refine hR _ _ _ ?_; clear hR R)
    rw [seqX_nil]
    refine hK _ _ _ ?_; clear hK K
    refine hN7 _ _ _ ?_
    refine xc_reg1 2 rfl fun K hK => ?_
    simp only [show (List.range 2).map (·, true) = [(0, true), (1, true)] from rfl, rslv_cons, rslv_nil, List.getElem?_toArray, List.getElem?_cons_zero, List.getElem?_cons_succ, gres]
    iterate 2 (refine seqX_hide2 fun R hR => ?_; simp [go_sem, g0, g1, g5, g9, g10, hi, hii, hw1, hw2, xindexAt, vload]; refine hR _ _ _ ?_; clear hR R)
    rw [seqX_nil]
    refine hK _ _ _ ?_; clear hK K
    refine hJ1 (kids.length - (i + 1)) _ _ _ (by omega) ⟨i + 1, n + 1, D3, rfl, rfl, rfl, hP, by simp [go_sem, g0, g1, g5, g9, g10, hi, hii, hw1, hw2, xindexAt, vload], by simp [go_sem, g0, g1, g5, g9, g10, hi, hii, hw1, hw2, xindexAt, vload], by simp [go_sem, g0, g1, g5, g9, g10, hi, hii, hw1, hw2, xindexAt, vload], by simp [go_sem, g0, g1, g5, g9, g10, hi, hii, hw1, hw2, xindexAt, vload], by simp [go_sem, g0, g1, g5, g9, g10, hi, hii, hw1, hw2, xindexAt, vload], by omega, View.le_trans hAD (View.le_trans hD2 hD3), by rw [htk, ← hn]; rfl⟩
/-- The variable that lists the keys of lists. -/
def GN (A : View) : Prop := ∃ a cap, A.cell? ⟨0, 0, none⟩ = some (.slice (some a) 1 cap) ∧ A.cell? a = some (.string vName)
theorem GN.le {A B : View} (h : A ≤ B) (e : GN A) : GN B := let ⟨a, cap, h1, h2⟩ := e; ⟨a, cap, le_cell h h1, le_cell h h2⟩
/-- The key of a list. -/
def keyOf (kids : List Tr) : ByteArray := if allF vName kids = true then vName else e0
set_option maxRecDepth 20000 in
set_option maxHeartbeats 400000 in
theorem getKey24 (A : View) (G : GN A) (t : Tr) (q : Nat) (hq : IsRn A t q) (hk : t.kind ≠ 1) (hkl : t.kids.length ≤ 1000000) (hfk : ∀ x ∈ t.kids, FK x) :
    VCalls Tryd.prog 24 #[ptr0 q] A fun r A' => r = .string (keyOf t.kids) ∧ A ≤ A' := by
  obtain ⟨a, cap, ga, gb⟩ := G
  obtain ⟨p, hq, hy⟩ := hq
  obtain ⟨k, st, tag, val, an, h, l, f, row, col, al, kids, rfl⟩ := t.ex
  replace hk : k ≠ 1 := hk
  replace hkl : kids.length ≤ 1000000 := hkl
  replace hfk : ∀ x ∈ kids, FK x := hfk
  show VCalls Tryd.prog 24 #[ptr0 q] A fun r A' => r = .string (keyOf kids) ∧ A ≤ A'
  obtain ⟨cv, ps, hp, hrow, hpl, hyk⟩ := hy.open
  obtain ⟨cb, cc, rfl⟩ := hrow.form
  refine xcalls Tryd.func24 rfl (by simp [Tryd.ntmps24]) ?_
  simp only [Tryd.f24]
  have hP : Priv A (addrs []) := Priv.nil A
  show xc _ _ _ _ _ _ (ov A [])
  refine xc_two fun N1 hN1 => ?_
  refine xc_reg1 1 rfl fun K hK => ?_
  simp only [show (List.range 1).map (·, true) = [(0, true)] from rfl, rslv_cons, rslv_nil, List.getElem?_toArray, List.getElem?_cons_zero, List.getElem?_cons_succ, gres]
  (refine seqX_hide2 fun R hR => ?_; simp [go_sem, bc hP ga, vload]; refine hR _ _ _ ?_; clear hR R)
  rw [seqX_nil]
  refine hK _ _ _ ?_; clear hK K
  refine hN1 _ _ _ ?_
  refine xc_two fun N2 hN2 => ?_
  refine xc_two fun N3 hN3 => ?_
  refine xc_reg1 3 rfl fun K hK => ?_
  simp only [show (List.range 3).map (·, true) = [(0, true), (1, true), (2, true)] from rfl, rslv_cons, rslv_nil, List.getElem?_toArray, List.getElem?_cons_zero, List.getElem?_cons_succ, gres]
  iterate 3 (refine seqX_hide2 fun R hR => ?_; simp [go_sem, bc hP ga, vload]; refine hR _ _ _ ?_; clear hR R)
  rw [seqX_nil]
  refine hK _ _ _ ?_; clear hK K
  refine hN3 _ _ _ ?_
  rw [xc_block]
  rw [xc_loop]
  refine vloopK (fun k' e ds A' => ∃ (i : Nat) (D : View), k' = 1 - i ∧ ds = [] ∧ A' = ov D [] ∧ Priv D [] ∧ e 0 = ptr0 q ∧ e 5 = .slice (some a) 1 cap ∧ e 6 = .int .i64 1 ∧ e 7 = .int .i64 i ∧ (i ≤ 1) ∧ (A ≤ D) ∧ (i = 1 → allF vName kids = false)) _ ⟨0, A, rfl, rfl, rfl, hP, by simp [go_sem, vload], by simp [go_sem, vload], by simp [go_sem, vload], by simp [go_sem, vload], by omega, View.le_refl _, fun h => by cases h⟩ ?_
  clear hP
  rintro k' e ds A' ⟨i, D, rfl, rfl, hV, hP, g0, g5, g6, g7, hil, hAD, hn⟩ J1 X1 hJ1 hX1
  refine xc_sound _ ?_
  replace hV := Eq.symm hV; subst hV; replace hP : Priv D (addrs []) := hP
  by_cases hi : i < 1
  rotate_left
  · have hii : ¬ (i : Int) < 1 := by omega
    have hi1 : i = 1 := by omega
    refine xc_two fun N4 hN4 => ?_
    refine xc_reg1 1 rfl fun K hK => ?_
    simp only [show (List.range 1).map (·, true) = [(0, true)] from rfl, rslv_cons, rslv_nil, List.getElem?_toArray, List.getElem?_cons_zero, List.getElem?_cons_succ, gres]
    (refine seqX_hide2 fun R hR => ?_; simp [go_sem, vload, g0, g5, g6, g7, hi, hii]; refine hR _ _ _ ?_; clear hR R)
    rw [seqX_nil]
    refine hK _ _ _ ?_; clear hK K
    refine hN4 _ _ _ ?_
    refine xc_two fun N5 hN5 => ?_
    refine xc_iffalse (by simp [go_sem, vload, g0, g5, g6, g7, hi, hii]) ?_
    refine hX1 _ _ _ _ ?_
    refine hN2 _ _ _ ?_
    refine xc_two fun N6 hN6 => ?_
    refine xc_reg1 1 rfl fun K hK => ?_
    simp only [show (List.range 1).map (·, true) = [(0, true)] from rfl, rslv_cons, rslv_nil, List.getElem?_toArray, List.getElem?_cons_zero, List.getElem?_cons_succ, gres]
    (refine seqX_hide2 fun R hR => ?_; simp [go_sem, vload, g0, g5, g6, g7, hi, hii]; refine hR _ _ _ ?_; clear hR R)
    rw [seqX_nil]
    refine hK _ _ _ ?_; clear hK K
    refine hN6 _ _ _ ?_
    simp [go_sem, vload, g0, g5, g6, g7, hi, hii]
    refine ⟨?_, hAD⟩
    rw [keyOf, hn hi1]
    rfl
  obtain rfl : i = 0 := by omega
  have gb1 := le_cell hAD gb
  have hw1 : IntKind.i64.wrap (1 : Int) = 1 := by rw [wrap_in (by omega) (by omega)]
  refine xc_two fun N4 hN4 => ?_
  refine xc_reg1 1 rfl fun K hK => ?_
  simp only [show (List.range 1).map (·, true) = [(0, true)] from rfl, rslv_cons, rslv_nil, List.getElem?_toArray, List.getElem?_cons_zero, List.getElem?_cons_succ, gres]
  (refine seqX_hide2 fun R hR => ?_; simp [go_sem, vload, g0, g5, g6, g7, hw1, bc hP gb1, xindexAt]; refine hR _ _ _ ?_; clear hR R)
  rw [seqX_nil]
  refine hK _ _ _ ?_; clear hK K
  refine hN4 _ _ _ ?_
  refine xc_two fun N5 hN5 => ?_
  refine xc_iftrue (by simp [go_sem, vload, g0, g5, g6, g7, hw1, bc hP gb1, xindexAt]) ?_
  refine hN5 _ _ _ ?_
  refine xc_two fun N6 hN6 => ?_
  rw [xc_block]
  refine xc_two fun N7 hN7 => ?_
  refine xc_reg1 3 rfl fun K hK => ?_
  simp only [show (List.range 3).map (·, true) = [(0, true), (1, true), (2, true)] from rfl, rslv_cons, rslv_nil, List.getElem?_toArray, List.getElem?_cons_zero, List.getElem?_cons_succ, gres]
  iterate 3 (refine seqX_hide2 fun R hR => ?_; simp [go_sem, vload, g0, g5, g6, g7, hw1, bc hP gb1, xindexAt]; refine hR _ _ _ ?_; clear hR R)
  rw [seqX_nil]
  refine hK _ _ _ ?_; clear hK K
  refine hN7 _ _ _ ?_
  refine xc_two fun N8 hN8 => ?_
  refine xc_reg1 4 rfl fun K hK => ?_
  simp only [show (List.range 4).map (·, true) = [(0, true), (1, true), (2, true), (3, true)] from rfl, rslv_cons, rslv_nil, List.getElem?_toArray, List.getElem?_cons_zero, List.getElem?_cons_succ, gres]
  iterate 2 (refine seqX_hide2 fun R hR => ?_; simp [go_sem, vload, g0, g5, g6, g7, hw1, bc hP gb1, xindexAt]; refine hR _ _ _ ?_; clear hR R)
  refine seqX_hide2 fun R hR => ?_
  simp [go_sem, vload, g0, g5, g6, g7, hw1, bc hP gb1, xindexAt]
  refine call_same hP (content36 D q p k st tag val an (.slice cb kids.length cc) h l f row col (hAD _ _ hq) (hAD _ _ hp) hk) ?_
  rintro _ rfl
  refine hR _ _ _ ?_; clear hR R
  refine seqX_hide2 fun R hR => ?_
  simp [go_sem, vload, g0, g5, g6, g7, hw1, bc hP gb1, xindexAt]
  refine call_ov hP (checkKey35 D vName kids ps (.slice cb kids.length cc) (hrow.le hAD) hpl (fun j hj => let ⟨q, h1, h2⟩ := hyk j hj; ⟨q, h1, h2.le hAD⟩) hkl hfk) ?_
  clear hP
  rintro _ D2 ⟨rfl, hD2⟩ hP
  cases hall : allF vName kids with
  | true =>
    refine hR _ _ _ ?_; clear hR R
    rw [seqX_nil]
    refine hK _ _ _ ?_; clear hK K
    refine hN8 _ _ _ ?_
    refine xc_iftrue (by simp [go_sem, vload, g0, g5, g6, g7, hw1, xindexAt, hall]) ?_
    refine xc_two fun N9 hN9 => ?_
    refine xc_reg1 2 rfl fun K hK => ?_
    simp only [show (List.range 2).map (·, true) = [(0, true), (1, true)] from rfl, rslv_cons, rslv_nil, List.getElem?_toArray, List.getElem?_cons_zero, List.getElem?_cons_succ, gres]
    iterate 2 (refine seqX_hide2 fun R hR => ?_; simp [go_sem, vload, g0, g5, g6, g7, hw1, xindexAt, hall]; refine hR _ _ _ ?_; clear hR R)
    rw [seqX_nil]
    refine hK _ _ _ ?_; clear hK K
    refine hN9 _ _ _ ?_
    refine hX1 _ _ _ _ ?_
    simp [go_sem, vload, g0, g5, g6, g7, hw1, xindexAt, hall]
    refine ⟨?_, View.le_trans hAD hD2⟩
    rw [keyOf, if_pos hall]
  | false =>
    refine hR _ _ _ ?_; clear hR R
    rw [seqX_nil]
    refine hK _ _ _ ?_; clear hK K
    refine hN8 _ _ _ ?_
    refine xc_iffalse (by simp [go_sem, vload, g0, g5, g6, g7, hw1, xindexAt, hall]) ?_
    refine hN6 _ _ _ ?_
    refine xc_reg1 2 rfl fun K hK => ?_
    simp only [show (List.range 2).map (·, true) = [(0, true), (1, true)] from rfl, rslv_cons, rslv_nil, List.getElem?_toArray, List.getElem?_cons_zero, List.getElem?_cons_succ, gres]
    iterate 2 (refine seqX_hide2 fun R hR => ?_; simp [go_sem, vload, g0, g5, g6, g7, hw1, xindexAt, hall]; refine hR _ _ _ ?_; clear hR R)
    rw [seqX_nil]
    refine hK _ _ _ ?_; clear hK K
    refine hJ1 (1 - (1)) _ _ _ (by omega) ⟨1, D2, rfl, rfl, rfl, hP, by simp [go_sem, vload, g0, g5, g6, g7, hw1, xindexAt, hall], by simp [go_sem, vload, g0, g5, g6, g7, hw1, xindexAt, hall], by simp [go_sem, vload, g0, g5, g6, g7, hw1, xindexAt, hall], by simp [go_sem, vload, g0, g5, g6, g7, hw1, xindexAt, hall], by omega, View.le_trans hAD hD2, fun _ => hall⟩
set_option maxRecDepth 20000 in
theorem rassoc40 (A : View) (G : GN A) (t : Tr) (q : Nat) (hq : IsRn A t q) (hk : t.kind ≠ 1) (hkl : t.kids.length ≤ 1000000) (hfk : ∀ x ∈ t.kids, FK x) :
    VCalls Tryd.prog 40 #[ptr0 q] A fun r A' => r = .bool (allF vName t.kids) ∧ A ≤ A' := by
  refine xcalls Tryd.func40 rfl (by simp [Tryd.ntmps40]) ?_
  simp only [Tryd.f40]
  have hP : Priv A (addrs []) := Priv.nil A
  show xc _ _ _ _ _ _ (ov A [])
  refine xc_two fun N1 hN1 => ?_
  refine xc_reg1 1 rfl fun K hK => ?_
  simp only [show (List.range 1).map (·, true) = [(0, true)] from rfl, rslv_cons, rslv_nil, List.getElem?_toArray, List.getElem?_cons_zero, List.getElem?_cons_succ, gres]
  (refine seqX_hide2 fun R hR => ?_; simp [go_sem]; refine hR _ _ _ ?_; clear hR R)
  rw [seqX_nil]
  refine hK _ _ _ ?_; clear hK K
  refine hN1 _ _ _ ?_
  refine xc_two fun N2 hN2 => ?_
  refine xc_reg1 4 rfl fun K hK => ?_
  simp only [show (List.range 4).map (·, true) = [(0, true), (1, true), (2, true), (3, true)] from rfl, rslv_cons, rslv_nil, List.getElem?_toArray, List.getElem?_cons_zero, List.getElem?_cons_succ, gres]
  (refine seqX_hide2 fun R hR => ?_; simp [go_sem]; refine hR _ _ _ ?_; clear hR R)
  refine seqX_hide2 fun R hR => ?_
  simp [go_sem]
  refine call_ov hP (getKey24 A G t q hq hk hkl hfk) ?_
  clear hP
  rintro _ A2 ⟨rfl, hA2⟩ hP
  refine hR _ _ _ ?_; clear hR R
  iterate 2 (refine seqX_hide2 fun R hR => ?_; simp [go_sem]; refine hR _ _ _ ?_; clear hR R)
  rw [seqX_nil]
  refine hK _ _ _ ?_; clear hK K
  refine hN2 _ _ _ ?_
  simp [go_sem]
  refine ⟨?_, hA2⟩
  cases hall : allF vName t.kids with
  | true =>
    rw [keyOf, if_pos hall]
    kernel_rfl
  | false =>
    rw [keyOf, hall]
    kernel_rfl
end Go.Proofs.YthjbgpmcfcijgaaDoorV

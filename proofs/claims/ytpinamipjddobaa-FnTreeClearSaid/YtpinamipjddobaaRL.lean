/- Trees: Elements, ElementIndexer, ElementAt. -/
import Derived.Test.YtpinamipjddobaaRJ
namespace Go.Proofs.YtpinamipjddobaaV
open Go.RowKit
set_option linter.unusedSimpArgs false
set_option linter.unusedVariables false
/-- The handles of a list's elements. -/
def EL (kids : List Tr) (r : Value) (A : View) : Prop := ∃ (sl : Value) (rs : List Nat), r = .tuple #[sl, .nilIface] ∧ Row A 1 sl kids.length (rs.map ptr0) ∧ rs.length = kids.length ∧ ∀ j (hj : j < kids.length), ∃ rq, rs[j]? = some rq ∧ IsRn A (kids[j]) rq
set_option maxRecDepth 20000 in
set_option maxHeartbeats 400000 in
theorem elements131 (A : View) (t : Tr) (q : Nat) (hq : IsRn A t q) (hk : t.kind = 2) (ht : t.tag ≠ tNull) (hkl : t.kids.length ≤ 1000000) : VCalls Try.prog 131 #[ptr0 q] A fun r A' => EL t.kids r A' ∧ A ≤ A' := by
  have herr := errIf79 A t q 2 hq (by omega) ht hk (fun h => absurd h (by decide)) hkl
  obtain ⟨p, hqc, hy⟩ := hq
  obtain ⟨k, st, tag, val, an, h, l, f, row, col, al, kids, rfl⟩ := t.ex
  obtain ⟨cv, ps, hp, hrow, hpl, hyk⟩ := hy.open
  obtain ⟨cb, cc, rfl⟩ := hrow.form
  replace hk : k = 2 := hk
  have hk1 : k ≠ 1 := by omega
  replace hkl : kids.length ≤ 1000000 := hkl
  show VCalls Try.prog 131 #[ptr0 q] A fun r A' => EL kids r A' ∧ A ≤ A'
  refine xcalls Try.func131 rfl (by simp [Try.ntmps131]) ?_
  simp only [Try.f131]
  have hP : Priv A (addrs []) := Priv.nil A
  show xc _ _ _ _ _ _ (ov A [])
  refine xc_two fun N1 hN1 => ?_
  refine xc_reg1 2 rfl fun K hK => ?_
  simp only [show (List.range 2).map (·, true) = [(0, true), (1, true)] from rfl, rslv_cons, rslv_nil, List.getElem?_toArray, List.getElem?_cons_zero, List.getElem?_cons_succ, gres]
  iterate 2 (refine seqX_hide2 fun R hR => ?_; simp [go_sem]; refine hR _ _ _ ?_; clear hR R)
  rw [seqX_nil]
  refine hK _ _ _ ?_; clear hK K
  refine hN1 _ _ _ ?_
  refine xc_two fun N2 hN2 => ?_
  refine xc_two fun N3 hN3 => ?_
  refine xc_reg1 3 rfl fun K hK => ?_
  simp only [show (List.range 3).map (·, true) = [(0, true), (1, true), (2, true)] from rfl, rslv_cons, rslv_nil, List.getElem?_toArray, List.getElem?_cons_zero, List.getElem?_cons_succ, gres]
  (refine seqX_hide2 fun R hR => ?_; simp [go_sem]; refine hR _ _ _ ?_; clear hR R)
  refine seqX_hide2 fun R hR => ?_
  simp [go_sem]
  refine call_same hP herr ?_
  rintro _ rfl
  refine hR _ _ _ ?_; clear hR R
  (refine seqX_hide2 fun R hR => ?_; simp [go_sem]; refine hR _ _ _ ?_; clear hR R)
  rw [seqX_nil]
  refine hK _ _ _ ?_; clear hK K
  refine hN3 _ _ _ ?_
  refine xc_two fun N4 hN4 => ?_
  refine xc_reg1 2 rfl fun K hK => ?_
  simp only [show (List.range 2).map (·, true) = [(0, true), (1, true)] from rfl, rslv_cons, rslv_nil, List.getElem?_toArray, List.getElem?_cons_zero, List.getElem?_cons_succ, gres]
  iterate 2 (refine seqX_hide2 fun R hR => ?_; simp [go_sem]; refine hR _ _ _ ?_; clear hR R)
  rw [seqX_nil]
  refine hK _ _ _ ?_; clear hK K
  refine hN4 _ _ _ ?_
  refine xc_iffalse (by simp [go_sem]) ?_
  refine hN2 _ _ _ ?_
  refine xc_two fun N5 hN5 => ?_
  refine xc_reg1 1 rfl fun K hK => ?_
  simp only [show (List.range 1).map (·, true) = [(0, true)] from rfl, rslv_cons, rslv_nil, List.getElem?_toArray, List.getElem?_cons_zero, List.getElem?_cons_succ, gres]
  (refine seqX_hide2 fun R hR => ?_; simp [go_sem]; refine hR _ _ _ ?_; clear hR R)
  rw [seqX_nil]
  refine hK _ _ _ ?_; clear hK K
  refine hN5 _ _ _ ?_
  refine xc_two fun N6 hN6 => ?_
  refine xc_two fun N7 hN7 => ?_
  refine xc_reg1 1 rfl fun K hK => ?_
  simp only [show (List.range 1).map (·, true) = [(0, true)] from rfl, rslv_cons, rslv_nil, List.getElem?_toArray, List.getElem?_cons_zero, List.getElem?_cons_succ, gres]
  (refine seqX_hide2 fun R hR => ?_; simp [go_sem]; refine hR _ _ _ ?_; clear hR R)
  rw [seqX_nil]
  refine hK _ _ _ ?_; clear hK K
  refine hN7 _ _ _ ?_
  rw [xc_block]
  rw [xc_loop]
  refine vloopK (fun k' e ds A' => ∃ (i : Nat) (D : View) (u : Value) (rs : List Nat), k' = kids.length - i ∧ ds = [] ∧ A' = ov D [] ∧ Priv D [] ∧ e 0 = ptr0 q ∧ e 5 = u ∧ e 6 = .int .i64 i ∧ (i ≤ kids.length) ∧ (A ≤ eraseB D u) ∧ (Own (eraseB D u) D 62 1 u i (rs.map ptr0)) ∧ (rs.length = i) ∧ (∀ j (hj : j < kids.length), j < i → ∃ rq, rs[j]? = some rq ∧ IsRn (eraseB D u) kids[j] rq)) _ ⟨0, A, .slice none 0 0, [], rfl, rfl, rfl, hP, by simp [go_sem], by simp [go_sem], by simp [go_sem], by omega, View.le_refl _, Own.nil _ _ _ _, rfl, fun j hj h => by omega⟩ ?_
  clear hP
  rintro k' e ds A' ⟨i, D, u, rs, rfl, rfl, hV, hP, g0, g5, g6, hil, hAD, hO, hrl, hrn⟩ J1 X1 hJ1 hX1
  refine xc_sound _ ?_
  replace hV := Eq.symm hV; subst hV; replace hP : Priv D (addrs []) := hP
  have hw1 : IntKind.i64.wrap ((i : Int) + 1) = ((i + 1 : Nat) : Int) := by rw [wrap_in (by omega) (by omega)]; omega
  have hAD2 := View.le_trans hAD (eraseB_le D u)
  obtain ⟨xb, xcp, rfl⟩ := hO.shape
  refine xc_two fun N8 hN8 => ?_
  refine xc_two fun N9 hN9 => ?_
  refine xc_reg1 5 rfl fun K hK => ?_
  simp only [show (List.range 5).map (·, true) = [(0, true), (1, true), (2, true), (3, true), (4, true)] from rfl, rslv_cons, rslv_nil, List.getElem?_toArray, List.getElem?_cons_zero, List.getElem?_cons_succ, gres]
  iterate 2 (refine seqX_hide2 fun R hR => ?_; simp [go_sem, g0, g5, g6]; refine hR _ _ _ ?_; clear hR R)
  refine seqX_hide2 fun R hR => ?_
  simp [go_sem, g0, g5, g6]
  refine call_same hP (content36 D q p k st tag val an (.slice cb kids.length cc) h l f row col (hAD2 _ _ hqc) (hAD2 _ _ hp) hk1) ?_
  rintro _ rfl
  by_cases hi : i < kids.length
  rotate_left
  · obtain rfl : i = kids.length := by omega
    have hii : ¬ (kids.length : Int) < kids.length := by omega
    refine hR _ _ _ ?_; clear hR R
    iterate 2 (refine seqX_hide2 fun R hR => ?_; simp [go_sem, g0, g5, g6, hi, hii]; refine hR _ _ _ ?_; clear hR R)
    rw [seqX_nil]
    refine hK _ _ _ ?_; clear hK K
    refine hN9 _ _ _ ?_
    refine xc_iffalse (by simp [go_sem, g0, g5, g6, hi, hii]) ?_
    refine hX1 _ _ _ _ ?_
    refine hN6 _ _ _ ?_
    refine xc_two fun N10 hN10 => ?_
    refine xc_reg1 3 rfl fun K hK => ?_
    simp only [show (List.range 3).map (·, true) = [(0, true), (1, true), (2, true)] from rfl, rslv_cons, rslv_nil, List.getElem?_toArray, List.getElem?_cons_zero, List.getElem?_cons_succ, gres]
    iterate 3 (refine seqX_hide2 fun R hR => ?_; simp [go_sem, g0, g5, g6, hi, hii]; refine hR _ _ _ ?_; clear hR R)
    rw [seqX_nil]
    refine hK _ _ _ ?_; clear hK K
    refine hN10 _ _ _ ?_
    simp [go_sem, g0, g5, g6, hi, hii]
    refine ⟨⟨_, rs, rfl, hO.row, hrl, fun j hj => ?_⟩, hAD2⟩
    obtain ⟨rq, h1, h2⟩ := hrn j hj hj
    exact ⟨rq, h1, h2.le (eraseB_le _ _)⟩
  have hii : (i : Int) < kids.length := by omega
  obtain ⟨qk, hq1, hq2⟩ := hyk i hi
  obtain ⟨a1, cap1, f1, -, u1⟩ := Row.at1 (i := i) (u := ptr0 qk) hrow (by rw [List.getElem?_map, hq1]; rfl)
  simp only [Value.slice.injEq] at f1
  obtain ⟨rfl, -, rfl⟩ := f1
  have u1d := le_cell hAD2 u1
  refine hR _ _ _ ?_; clear hR R
  iterate 2 (refine seqX_hide2 fun R hR => ?_; simp [go_sem, g0, g5, g6, hi, hii, hw1, bc hP u1d, xindexAt, vload]; refine hR _ _ _ ?_; clear hR R)
  rw [seqX_nil]
  refine hK _ _ _ ?_; clear hK K
  refine hN9 _ _ _ ?_
  refine xc_iftrue (by simp [go_sem, g0, g5, g6, hi, hii, hw1, bc hP u1d, xindexAt, vload]) ?_
  refine hN8 _ _ _ ?_
  refine xc_two fun N10 hN10 => ?_
  rw [xc_block]
  refine xc_reg1 10 rfl fun K hK => ?_
  simp only [show (List.range 10).map (·, true) = [(0, true), (1, true), (2, true), (3, true), (4, true), (5, true), (6, true), (7, true), (8, true), (9, true)] from rfl, rslv_cons, rslv_nil, List.getElem?_toArray, List.getElem?_cons_zero, List.getElem?_cons_succ, gres]
  iterate 2 (refine seqX_hide2 fun R hR => ?_; simp [go_sem, g0, g5, g6, hi, hii, hw1, bc hP u1d, xindexAt, vload]; refine hR _ _ _ ?_; clear hR R)
  refine seqX_hide2 fun R hR => ?_
  simp [go_sem, g0, g5, g6, hi, hii, hw1, bc hP u1d, xindexAt, vload]
  refine call_same hP (content36 D q p k st tag val an (.slice (some a1) kids.length cc) h l f row col (hAD2 _ _ hqc) (hAD2 _ _ hp) hk1) ?_
  rintro _ rfl
  refine hR _ _ _ ?_; clear hR R
  iterate 3 (refine seqX_hide2 fun R hR => ?_; simp [go_sem, g0, g5, g6, hi, hii, hw1, bc hP u1d, xindexAt, vload]; refine hR _ _ _ ?_; clear hR R)
  refine seqX_hide2 fun R hR => ?_
  simp [go_sem, g0, g5, g6, hi, hii, hw1, bc hP u1d, xindexAt, vload]
  refine call_sub hP (eraseB_le D (.slice xb i xcp)) (newRNode33 _ kids[i] qk (hq2.le hAD)) ?_
  clear hP
  rintro _ E D3 ⟨rq, rfl, hrq, hAE⟩ hED hKp hmono hP
  have hDD := hmono hAE
  have hE3 := keep_erase hO hED hKp
  have hO3 := own_rebase (hO.le hDD)
  refine hR _ _ _ ?_; clear hR R
  refine seqX_hide2 fun R hR => ?_
  simp [go_sem, g0, g5, g6, hi, hii, hw1, xindexAt, vload]
  intro q27 hq27
  replace hP := hP.cons hq27
  clear hq27
  refine hR _ _ _ ?_; clear hR R
  refine seqX_hide2 fun R hR => ?_
  simp [go_sem, g0, g5, g6, hi, hii, hw1, xindexAt, vload]
  refine append_ov (cs := [ptr0 rq]) (m := 1) hP ti160 ti160 (fun k => by simp) ti62 rfl (by decide) hO3 (eraseB_le _ _) (by simp [appended, View.cells?, go_sem]) (by simp [isStr]) (fun v hv => by rw [List.mem_singleton] at hv; subst hv; rfl) (by omega) ?_
  clear hP
  rintro v4 D4 h4 hO4 h4e hP
  obtain ⟨yb, ycp, rfl⟩ := hO4.shape
  refine hR _ _ _ ?_; clear hR R
  (refine seqX_hide2 fun R hR => ?_; simp [go_sem, g0, g5, g6, hi, hii, hw1, xindexAt, vload]; refine hR _ _ _ ?_; clear hR R)
  rw [seqX_nil]
  refine hK _ _ _ ?_; clear hK K
  refine hN10 _ _ _ ?_
  refine xc_reg1 3 rfl fun K hK => ?_
  simp only [show (List.range 3).map (·, true) = [(0, true), (1, true), (2, true)] from rfl, rslv_cons, rslv_nil, List.getElem?_toArray, List.getElem?_cons_zero, List.getElem?_cons_succ, gres]
  iterate 3 (refine seqX_hide2 fun R hR => ?_; simp [go_sem, g0, g5, g6, hi, hii, hw1, xindexAt, vload]; refine hR _ _ _ ?_; clear hR R)
  rw [seqX_nil]
  refine hK _ _ _ ?_; clear hK K
  refine sink_goal 0 hP rfl fun hPn lq27 nq27 => ?_
  clear hP; have hP := hPn; clear hPn
  simp only [List.eraseIdx_cons_zero, List.eraseIdx_cons_succ, addrs_cons, addrs_nil] at hP ⊢
  have hE5 := View.le_trans h4e (eraseB_mono lq27 (.slice yb (i + 1) ycp))
  have hE6 := View.le_trans hAE (View.le_trans hE3 hE5)
  have hrn2 : ∀ j (hj : j < kids.length), j < i + 1 → ∃ r2, (rs ++ [rq])[j]? = some r2 ∧ IsRn (eraseB (D4.set q27 (.cells #[ptr0 rq] 62 (0, 0))) (.slice yb (i + 1) ycp)) kids[j] r2 := fun j hj h => by
    rcases Nat.lt_or_eq_of_le (Nat.le_of_lt_succ h) with h2 | h2
    · obtain ⟨r2, k1, k2⟩ := hrn j hj h2
      exact ⟨r2, by rw [List.getElem?_append_left (by omega)]; exact k1, k2.le hE6⟩
    · subst h2
      exact ⟨rq, by rw [← hrl]; simp, hrq.le (View.le_trans hE3 hE5)⟩
  refine hJ1 (kids.length - (i + 1)) _ _ _ (by omega) ⟨i + 1, _, .slice yb (i + 1) ycp, rs ++ [rq], rfl, rfl, rfl, hP, by simp [go_sem, g0, g5, g6, hi, hii, hw1, xindexAt, vload], by simp [go_sem, g0, g5, g6, hi, hii, hw1, xindexAt, vload], by simp [go_sem, g0, g5, g6, hi, hii, hw1, xindexAt, vload], by omega, View.le_trans hAD hE6, by rw [List.map_append]; exact own_rebase (hO4.le lq27), by rw [List.length_append, hrl]; rfl, hrn2⟩
/-- The element at a place; below 0 the last one. -/
def idx (l : List Tr) (n : Int) : Option Tr := if n < 0 then l[l.length - 1]? else l[n.toNat]?
theorem idx_mem {l : List Tr} {n : Int} {x : Tr} (h : idx l n = some x) : x ∈ l := by
  rw [idx] at h
  split at h
  · exact List.mem_of_getElem? h
  · exact List.mem_of_getElem? h
set_option maxRecDepth 20000 in
set_option maxHeartbeats 400000 in
theorem index130 (A : View) (t : Tr) (q : Nat) (n : Int) (hq : IsRn A t q) (hk : t.kind = 2) (ht : t.tag ≠ tNull) (hkl : t.kids.length ≤ 1000000) (hn : -1 ≤ n ∧ n ≤ 100) (hne : n < 0 → 0 < t.kids.length) :
    VCalls Try.prog 130 #[.agg #[.int .i64 n], ptr0 q] A fun r A' => ∃ x : Option Nat, r = .tuple #[(match x with | none => .pointer none | some b => ptr0 b), .nilIface] ∧ (RP (idx t.kids n) (match x with | none => .pointer none | some b => ptr0 b) A' ∧ A ≤ A') := by
  refine xcalls Try.func130 rfl (by simp [Try.ntmps130]) ?_
  simp only [Try.f130]
  have hP : Priv A (addrs []) := Priv.nil A
  show xc _ _ _ _ _ _ (ov A [])
  refine xc_two fun N1 hN1 => ?_
  refine xc_reg1 3 rfl fun K hK => ?_
  simp only [show (List.range 3).map (·, true) = [(0, true), (1, true), (2, true)] from rfl, rslv_cons, rslv_nil, List.getElem?_toArray, List.getElem?_cons_zero, List.getElem?_cons_succ, gres]
  refine seqX_hide2 fun R hR => ?_
  simp [go_sem]
  intro q2 hq2
  replace hP := hP.cons hq2
  clear hq2
  refine hR _ _ _ ?_; clear hR R
  iterate 2 (refine seqX_hide2 fun R hR => ?_; simp [go_sem]; refine hR _ _ _ ?_; clear hR R)
  rw [seqX_nil]
  refine hK _ _ _ ?_; clear hK K
  refine hN1 _ _ _ ?_
  refine xc_two fun N2 hN2 => ?_
  refine xc_reg1 7 rfl fun K hK => ?_
  simp only [show (List.range 7).map (·, true) = [(0, true), (1, true), (2, true), (3, true), (4, true), (5, true), (6, true)] from rfl, rslv_cons, rslv_nil, List.getElem?_toArray, List.getElem?_cons_zero, List.getElem?_cons_succ, gres]
  (refine seqX_hide2 fun R hR => ?_; simp [go_sem]; refine hR _ _ _ ?_; clear hR R)
  refine seqX_hide2 fun R hR => ?_
  simp [go_sem]
  refine call_ov hP (elements131 A t q hq hk ht hkl) ?_
  clear hP
  rintro _ A2 ⟨⟨sl, rs, rfl, hrow, hrl, hrn⟩, hA2⟩ hP
  obtain ⟨sb, scp, rfl⟩ := hrow.form
  by_cases h0 : n < 0
  · have hpos := hne h0
    obtain ⟨rq, h1, h2⟩ := hrn (t.kids.length - 1) (by omega)
    obtain ⟨a1, cap1, f1, -, u1⟩ := Row.at1 (i := t.kids.length - 1) (u := ptr0 rq) hrow (by rw [List.getElem?_map, h1]; rfl)
    simp only [Value.slice.injEq] at f1
    obtain ⟨rfl, -, rfl⟩ := f1
    have hw1 : IntKind.i64.wrap ((t.kids.length : Int) - 1) = ((t.kids.length - 1 : Nat) : Int) := by rw [wrap_in (by omega) (by omega)]; omega
    have hlt : t.kids.length - 1 < t.kids.length := by omega
    have hlti : ((t.kids.length - 1 : Nat) : Int) < t.kids.length := by omega
    refine hR _ _ _ ?_; clear hR R
    iterate 5 (refine seqX_hide2 fun R hR => ?_; simp [go_sem, h0, hw1, hlt, hlti, bc hP u1, xindexAt, vload]; refine hR _ _ _ ?_; clear hR R)
    rw [seqX_nil]
    refine hK _ _ _ ?_; clear hK K
    refine hN2 _ _ _ ?_
    refine xc_two fun N3 hN3 => ?_
    refine xc_two fun N4 hN4 => ?_
    refine xc_reg1 2 rfl fun K hK => ?_
    simp only [show (List.range 2).map (·, true) = [(0, true), (1, true)] from rfl, rslv_cons, rslv_nil, List.getElem?_toArray, List.getElem?_cons_zero, List.getElem?_cons_succ, gres]
    iterate 2 (refine seqX_hide2 fun R hR => ?_; simp [go_sem, h0, hw1, hlt, hlti, bc hP u1, xindexAt, vload]; refine hR _ _ _ ?_; clear hR R)
    rw [seqX_nil]
    refine hK _ _ _ ?_; clear hK K
    refine hN4 _ _ _ ?_
    refine xc_iffalse (by simp [go_sem, h0, hw1, hlt, hlti, bc hP u1, xindexAt, vload]) ?_
    refine hN3 _ _ _ ?_
    refine xc_two fun N5 hN5 => ?_
    refine xc_two fun N6 hN6 => ?_
    refine xc_reg1 3 rfl fun K hK => ?_
    simp only [show (List.range 3).map (·, true) = [(0, true), (1, true), (2, true)] from rfl, rslv_cons, rslv_nil, List.getElem?_toArray, List.getElem?_cons_zero, List.getElem?_cons_succ, gres]
    iterate 3 (refine seqX_hide2 fun R hR => ?_; simp [go_sem, h0, hw1, hlt, hlti, bc hP u1, xindexAt, vload]; refine hR _ _ _ ?_; clear hR R)
    rw [seqX_nil]
    refine hK _ _ _ ?_; clear hK K
    refine hN6 _ _ _ ?_
    refine xc_iftrue (by simp [go_sem, h0, hw1, hlt, hlti, bc hP u1, xindexAt, vload]) ?_
    refine xc_two fun N7 hN7 => ?_
    refine xc_reg1 8 rfl fun K hK => ?_
    simp only [show (List.range 8).map (·, true) = [(0, true), (1, true), (2, true), (3, true), (4, true), (5, true), (6, true), (7, true)] from rfl, rslv_cons, rslv_nil, List.getElem?_toArray, List.getElem?_cons_zero, List.getElem?_cons_succ, gres]
    iterate 8 (refine seqX_hide2 fun R hR => ?_; simp [go_sem, h0, hw1, hlt, hlti, bc hP u1, xindexAt, vload]; refine hR _ _ _ ?_; clear hR R)
    rw [seqX_nil]
    refine hK _ _ _ ?_; clear hK K
    refine hN7 _ _ _ ?_
    simp [go_sem, h0, hw1, hlt, hlti, xindexAt, vload]
    have hix : idx t.kids n = some t.kids[t.kids.length - 1] := by rw [idx, if_pos h0, List.getElem?_eq_getElem hlt]
    rw [hix]
    refine ⟨some rq, rfl, ⟨rq, rfl, h2.le ?_⟩, View.le_trans hA2 ?_⟩
    · exact le_ov hP
    · exact le_ov hP
  obtain ⟨m, rfl⟩ : ∃ m : Nat, n = m := ⟨n.toNat, by omega⟩
  have hix0 : idx t.kids (m : Int) = t.kids[m]? := by rw [idx, if_neg h0]; rfl
  by_cases hm : m < t.kids.length
  rotate_left
  · have hmi : ¬ (m : Int) < t.kids.length := by omega
    have hmi2 : (t.kids.length : Int) ≤ m := by omega
    have hmi3 : t.kids.length ≤ m := by omega
    refine hR _ _ _ ?_; clear hR R
    iterate 5 (refine seqX_hide2 fun R hR => ?_; simp [go_sem, h0, hm, hmi, hmi2, hmi3]; refine hR _ _ _ ?_; clear hR R)
    rw [seqX_nil]
    refine hK _ _ _ ?_; clear hK K
    refine hN2 _ _ _ ?_
    refine xc_two fun N3 hN3 => ?_
    refine xc_two fun N4 hN4 => ?_
    refine xc_reg1 2 rfl fun K hK => ?_
    simp only [show (List.range 2).map (·, true) = [(0, true), (1, true)] from rfl, rslv_cons, rslv_nil, List.getElem?_toArray, List.getElem?_cons_zero, List.getElem?_cons_succ, gres]
    iterate 2 (refine seqX_hide2 fun R hR => ?_; simp [go_sem, h0, hm, hmi, hmi2, hmi3]; refine hR _ _ _ ?_; clear hR R)
    rw [seqX_nil]
    refine hK _ _ _ ?_; clear hK K
    refine hN4 _ _ _ ?_
    refine xc_iffalse (by simp [go_sem, h0, hm, hmi, hmi2, hmi3]) ?_
    refine hN3 _ _ _ ?_
    refine xc_two fun N5 hN5 => ?_
    refine xc_two fun N6 hN6 => ?_
    refine xc_reg1 3 rfl fun K hK => ?_
    simp only [show (List.range 3).map (·, true) = [(0, true), (1, true), (2, true)] from rfl, rslv_cons, rslv_nil, List.getElem?_toArray, List.getElem?_cons_zero, List.getElem?_cons_succ, gres]
    iterate 3 (refine seqX_hide2 fun R hR => ?_; simp [go_sem, h0, hm, hmi, hmi2, hmi3]; refine hR _ _ _ ?_; clear hR R)
    rw [seqX_nil]
    refine hK _ _ _ ?_; clear hK K
    refine hN6 _ _ _ ?_
    refine xc_iffalse (by simp [go_sem, h0, hm, hmi, hmi2, hmi3]) ?_
    refine hN5 _ _ _ ?_
    refine xc_two fun N7 hN7 => ?_
    refine xc_two fun N8 hN8 => ?_
    refine xc_reg1 5 rfl fun K hK => ?_
    simp only [show (List.range 5).map (·, true) = [(0, true), (1, true), (2, true), (3, true), (4, true)] from rfl, rslv_cons, rslv_nil, List.getElem?_toArray, List.getElem?_cons_zero, List.getElem?_cons_succ, gres]
    iterate 5 (refine seqX_hide2 fun R hR => ?_; simp [go_sem, h0, hm, hmi, hmi2, hmi3]; refine hR _ _ _ ?_; clear hR R)
    rw [seqX_nil]
    refine hK _ _ _ ?_; clear hK K
    refine hN8 _ _ _ ?_
    refine xc_iftrue (by simp [go_sem, h0, hm, hmi, hmi2, hmi3]) ?_
    refine xc_two fun N9 hN9 => ?_
    refine xc_reg1 2 rfl fun K hK => ?_
    simp only [show (List.range 2).map (·, true) = [(0, true), (1, true)] from rfl, rslv_cons, rslv_nil, List.getElem?_toArray, List.getElem?_cons_zero, List.getElem?_cons_succ, gres]
    iterate 2 (refine seqX_hide2 fun R hR => ?_; simp [go_sem, h0, hm, hmi, hmi2, hmi3]; refine hR _ _ _ ?_; clear hR R)
    rw [seqX_nil]
    refine hK _ _ _ ?_; clear hK K
    refine hN9 _ _ _ ?_
    simp [go_sem, h0, hm, hmi, hmi2, hmi3]
    rw [hix0, List.getElem?_eq_none hmi3]
    refine ⟨none, rfl, rfl, View.le_trans hA2 ?_⟩
    exact le_ov hP
  obtain ⟨rq, h1, h2⟩ := hrn m hm
  obtain ⟨a1, cap1, f1, -, u1⟩ := Row.at1 (i := m) (u := ptr0 rq) hrow (by rw [List.getElem?_map, h1]; rfl)
  simp only [Value.slice.injEq] at f1
  obtain ⟨rfl, -, rfl⟩ := f1
  have hmi : (m : Int) < t.kids.length := by omega
  have hmi2 : ¬ (t.kids.length : Int) ≤ m := by omega
  have hmi3 : ¬ t.kids.length ≤ m := by omega
  refine hR _ _ _ ?_; clear hR R
  iterate 5 (refine seqX_hide2 fun R hR => ?_; simp [go_sem, h0, hm, hmi, hmi2, hmi3, bc hP u1, xindexAt, vload]; refine hR _ _ _ ?_; clear hR R)
  rw [seqX_nil]
  refine hK _ _ _ ?_; clear hK K
  refine hN2 _ _ _ ?_
  refine xc_two fun N3 hN3 => ?_
  refine xc_two fun N4 hN4 => ?_
  refine xc_reg1 2 rfl fun K hK => ?_
  simp only [show (List.range 2).map (·, true) = [(0, true), (1, true)] from rfl, rslv_cons, rslv_nil, List.getElem?_toArray, List.getElem?_cons_zero, List.getElem?_cons_succ, gres]
  iterate 2 (refine seqX_hide2 fun R hR => ?_; simp [go_sem, h0, hm, hmi, hmi2, hmi3, bc hP u1, xindexAt, vload]; refine hR _ _ _ ?_; clear hR R)
  rw [seqX_nil]
  refine hK _ _ _ ?_; clear hK K
  refine hN4 _ _ _ ?_
  refine xc_iffalse (by simp [go_sem, h0, hm, hmi, hmi2, hmi3, bc hP u1, xindexAt, vload]) ?_
  refine hN3 _ _ _ ?_
  refine xc_two fun N5 hN5 => ?_
  refine xc_two fun N6 hN6 => ?_
  refine xc_reg1 3 rfl fun K hK => ?_
  simp only [show (List.range 3).map (·, true) = [(0, true), (1, true), (2, true)] from rfl, rslv_cons, rslv_nil, List.getElem?_toArray, List.getElem?_cons_zero, List.getElem?_cons_succ, gres]
  iterate 3 (refine seqX_hide2 fun R hR => ?_; simp [go_sem, h0, hm, hmi, hmi2, hmi3, bc hP u1, xindexAt, vload]; refine hR _ _ _ ?_; clear hR R)
  rw [seqX_nil]
  refine hK _ _ _ ?_; clear hK K
  refine hN6 _ _ _ ?_
  refine xc_iffalse (by simp [go_sem, h0, hm, hmi, hmi2, hmi3, bc hP u1, xindexAt, vload]) ?_
  refine hN5 _ _ _ ?_
  refine xc_two fun N7 hN7 => ?_
  refine xc_two fun N8 hN8 => ?_
  refine xc_reg1 5 rfl fun K hK => ?_
  simp only [show (List.range 5).map (·, true) = [(0, true), (1, true), (2, true), (3, true), (4, true)] from rfl, rslv_cons, rslv_nil, List.getElem?_toArray, List.getElem?_cons_zero, List.getElem?_cons_succ, gres]
  iterate 5 (refine seqX_hide2 fun R hR => ?_; simp [go_sem, h0, hm, hmi, hmi2, hmi3, bc hP u1, xindexAt, vload]; refine hR _ _ _ ?_; clear hR R)
  rw [seqX_nil]
  refine hK _ _ _ ?_; clear hK K
  refine hN8 _ _ _ ?_
  refine xc_iffalse (by simp [go_sem, h0, hm, hmi, hmi2, hmi3, bc hP u1, xindexAt, vload]) ?_
  refine hN7 _ _ _ ?_
  refine xc_two fun N9 hN9 => ?_
  refine xc_reg1 7 rfl fun K hK => ?_
  simp only [show (List.range 7).map (·, true) = [(0, true), (1, true), (2, true), (3, true), (4, true), (5, true), (6, true)] from rfl, rslv_cons, rslv_nil, List.getElem?_toArray, List.getElem?_cons_zero, List.getElem?_cons_succ, gres]
  iterate 7 (refine seqX_hide2 fun R hR => ?_; simp [go_sem, h0, hm, hmi, hmi2, hmi3, bc hP u1, xindexAt, vload]; refine hR _ _ _ ?_; clear hR R)
  rw [seqX_nil]
  refine hK _ _ _ ?_; clear hK K
  refine hN9 _ _ _ ?_
  simp [go_sem, h0, hm, hmi, hmi2, hmi3, xindexAt, vload]
  rw [hix0, List.getElem?_eq_getElem hm]
  refine ⟨some rq, rfl, ⟨rq, rfl, h2.le ?_⟩, View.le_trans hA2 ?_⟩
  · exact le_ov hP
  · exact le_ov hP
end Go.Proofs.YtpinamipjddobaaV

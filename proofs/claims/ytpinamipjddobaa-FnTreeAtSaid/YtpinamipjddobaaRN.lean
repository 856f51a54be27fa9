/- Trees: law 5 (FnTreeAt). -/
import Derived.Test.YtpinamipjddobaaRM
namespace Go.Proofs.YtpinamipjddobaaV
open Go.RowKit
set_option linter.unusedSimpArgs false
set_option linter.unusedVariables false
theorem PL.seq {t : Tr} {lv : Nat} (h : PL lv t) (hk : t.kind = 2) : t.tag = tSeq := by
  obtain ⟨k, st, tag, val, an, hh, l, f, row, col, al, kids, rfl⟩ := t.ex
  rw [PL] at h
  replace hk : k = 2 := hk
  obtain ⟨-, -, h, -⟩ := h
  rcases h with h | h | h
  · omega
  · exact h.2.1
  · omega
/-- A slice of one of the elements. -/
theorem trs_sub {A : View} {a : Addr} {cap cap' m : Nat} {l : List Tr} (h : Trs A (.slice (some a) l.length cap) l) (hm : m < l.length) : Trs A (.slice (some (a.add (m * 12))) 1 cap') [l[m]] := by
  obtain ⟨bs, cp, f1, hel⟩ := h
  simp only [Value.slice.injEq, true_and] at f1
  obtain ⟨e1, -⟩ := f1
  obtain ⟨a', c, ha, u, hc⟩ := hel m hm
  rw [← e1] at ha
  obtain rfl := Option.some.inj ha
  refine ⟨_, cap', rfl, fun j hj => ?_⟩
  obtain rfl : j = 0 := by simp at hj; omega
  exact ⟨_, c, rfl, by rw [Nat.zero_mul, show (a.add (m * 12)).add 0 = a.add (m * 12) from if_pos rfl]; exact u, hc⟩
set_option maxRecDepth 20000 in
set_option maxHeartbeats 400000 in
theorem at5 (A : View) (c : Array Value) (t : Tr) (n : Int) (hh : (IsTr A t c ∧ SB t) ∧ ∀ bs m cap, c.toList[11]? = some (.slice bs m cap) → m ≤ cap) : VCalls Try.prog 5 #[.agg c, .int .i64 n] A fun r A' => r = .bool true ∧ A ≤ A' := by
  obtain ⟨⟨hc, hsb⟩, hcap⟩ := hh
  obtain ⟨k, st, tag, val, an, h, l, f, row, col, al, kk, rfl⟩ := t.ex
  have hc0 := hc
  obtain ⟨bb, bc0, rfl, hT⟩ := hc.open
  have hcap := hcap bb kk.length bc0 rfl
  refine xcalls Try.func5 rfl (by simp [Try.ntmps5]) ?_
  simp only [Try.f5]
  have hP : Priv A (addrs []) := Priv.nil A
  show xc _ _ _ _ _ _ (ov A [])
  refine xc_two fun N1 hN1 => ?_
  refine xc_reg1 2 rfl fun K hK => ?_
  simp only [show (List.range 2).map (·, true) = [(0, true), (1, true)] from rfl, rslv_cons, rslv_nil, List.getElem?_toArray, List.getElem?_cons_zero, List.getElem?_cons_succ, gres]
  refine seqX_hide2 fun R hR => ?_
  simp [go_sem]
  intro q2 hq2
  replace hP := hP.cons hq2
  clear hq2
  refine hR _ _ _ ?_; clear hR R
  (refine seqX_hide2 fun R hR => ?_; simp [go_sem]; refine hR _ _ _ ?_; clear hR R)
  rw [seqX_nil]
  refine hK _ _ _ ?_; clear hK K
  refine hN1 _ _ _ ?_
  refine xc_two fun N2 hN2 => ?_
  refine xc_two fun N3 hN3 => ?_
  refine xc_reg1 3 rfl fun K hK => ?_
  simp only [show (List.range 3).map (·, true) = [(0, true), (1, true), (2, true)] from rfl, rslv_cons, rslv_nil, List.getElem?_toArray, List.getElem?_cons_zero, List.getElem?_cons_succ, gres]
  (refine seqX_hide2 fun R hR => ?_; simp [go_sem]; refine hR _ _ _ ?_; clear hR R)
  refine seqX_hide2 fun R hR => ?_
  simp [go_sem]
  refine call_ov hP (fits8 A _ _ hc0) ?_
  clear hP
  rintro _ A1 ⟨⟨b, rfl, -⟩, hA1⟩ hP
  cases b with
  | false =>
    refine hR _ _ _ ?_; clear hR R
    (refine seqX_hide2 fun R hR => ?_; simp [go_sem]; refine hR _ _ _ ?_; clear hR R)
    rw [seqX_nil]
    refine hK _ _ _ ?_; clear hK K
    refine hN3 _ _ _ ?_
    refine xc_iftrue (by simp [go_sem]) ?_
    refine xc_two fun N4 hN4 => ?_
    refine xc_reg1 1 rfl fun K hK => ?_
    simp only [show (List.range 1).map (·, true) = [(0, true)] from rfl, rslv_cons, rslv_nil, List.getElem?_toArray, List.getElem?_cons_zero, List.getElem?_cons_succ, gres]
    (refine seqX_hide2 fun R hR => ?_; simp [go_sem]; refine hR _ _ _ ?_; clear hR R)
    rw [seqX_nil]
    refine hK _ _ _ ?_; clear hK K
    refine hN4 _ _ _ ?_
    simp [go_sem]
    exact View.le_trans hA1 (le_ov hP)
  | true =>
  refine hR _ _ _ ?_; clear hR R
  (refine seqX_hide2 fun R hR => ?_; simp [go_sem]; refine hR _ _ _ ?_; clear hR R)
  rw [seqX_nil]
  refine hK _ _ _ ?_; clear hK K
  refine hN3 _ _ _ ?_
  refine xc_iffalse (by simp [go_sem]) ?_
  refine hN2 _ _ _ ?_
  refine xc_two fun N4 hN4 => ?_
  refine xc_two fun N5 hN5 => ?_
  refine xc_reg1 21 rfl fun K hK => ?_
  simp only [show (List.range 21).map (·, true) = [(0, true), (1, true), (2, true), (3, true), (4, true), (5, true), (6, true), (7, true), (8, true), (9, true), (10, true), (11, true), (12, true), (13, true), (14, true), (15, true), (16, true), (17, true), (18, true), (19, true), (20, true)] from rfl, rslv_cons, rslv_nil, List.getElem?_toArray, List.getElem?_cons_zero, List.getElem?_cons_succ, gres]
  (refine seqX_hide2 fun R hR => ?_; simp [go_sem]; refine hR _ _ _ ?_; clear hR R)
  refine seqX_hide2 fun R hR => ?_
  simp [go_sem]
  refine call_ov hP (tfIs13 A1 _ _ 2 (hc0.le hA1) hsb) ?_
  clear hP
  rintro _ A2 ⟨⟨b, rfl, hb⟩, hA2⟩ hP
  have hA := View.le_trans hA1 hA2
  cases b with
  | false =>
    refine hR _ _ _ ?_; clear hR R
    iterate 19 (refine seqX_hide2 fun R hR => ?_; simp [go_sem]; refine hR _ _ _ ?_; clear hR R)
    rw [seqX_nil]
    refine hK _ _ _ ?_; clear hK K
    refine hN5 _ _ _ ?_
    refine xc_iftrue (by simp [go_sem]) ?_
    refine xc_two fun N6 hN6 => ?_
    refine xc_reg1 1 rfl fun K hK => ?_
    simp only [show (List.range 1).map (·, true) = [(0, true)] from rfl, rslv_cons, rslv_nil, List.getElem?_toArray, List.getElem?_cons_zero, List.getElem?_cons_succ, gres]
    (refine seqX_hide2 fun R hR => ?_; simp [go_sem]; refine hR _ _ _ ?_; clear hR R)
    rw [seqX_nil]
    refine hK _ _ _ ?_; clear hK K
    refine hN6 _ _ _ ?_
    simp [go_sem]
    exact View.le_trans hA (le_ov hP)
  | true =>
  obtain ⟨hk, hpl, hnd⟩ := hb rfl
  have htag := hpl.seq hk
  have hkl : kk.length ≤ 1000000 := by
    have h5 := nds_len kk
    rw [nds_mk] at hnd
    omega
  by_cases n1 : n < -1
  · skip
    refine hR _ _ _ ?_; clear hR R
    iterate 19 (refine seqX_hide2 fun R hR => ?_; simp [go_sem, n1]; refine hR _ _ _ ?_; clear hR R)
    rw [seqX_nil]
    refine hK _ _ _ ?_; clear hK K
    refine hN5 _ _ _ ?_
    refine xc_iftrue (by simp [go_sem, n1]) ?_
    refine xc_two fun N6 hN6 => ?_
    refine xc_reg1 1 rfl fun K hK => ?_
    simp only [show (List.range 1).map (·, true) = [(0, true)] from rfl, rslv_cons, rslv_nil, List.getElem?_toArray, List.getElem?_cons_zero, List.getElem?_cons_succ, gres]
    (refine seqX_hide2 fun R hR => ?_; simp [go_sem, n1]; refine hR _ _ _ ?_; clear hR R)
    rw [seqX_nil]
    refine hK _ _ _ ?_; clear hK K
    refine hN6 _ _ _ ?_
    simp [go_sem, n1]
    exact View.le_trans hA (le_ov hP)
  by_cases n2 : 100 < n
  · skip
    refine hR _ _ _ ?_; clear hR R
    iterate 19 (refine seqX_hide2 fun R hR => ?_; simp [go_sem, n1, n2]; refine hR _ _ _ ?_; clear hR R)
    rw [seqX_nil]
    refine hK _ _ _ ?_; clear hK K
    refine hN5 _ _ _ ?_
    refine xc_iftrue (by simp [go_sem, n1, n2]) ?_
    refine xc_two fun N6 hN6 => ?_
    refine xc_reg1 1 rfl fun K hK => ?_
    simp only [show (List.range 1).map (·, true) = [(0, true)] from rfl, rslv_cons, rslv_nil, List.getElem?_toArray, List.getElem?_cons_zero, List.getElem?_cons_succ, gres]
    (refine seqX_hide2 fun R hR => ?_; simp [go_sem, n1, n2]; refine hR _ _ _ ?_; clear hR R)
    rw [seqX_nil]
    refine hK _ _ _ ?_; clear hK K
    refine hN6 _ _ _ ?_
    simp [go_sem, n1, n2]
    exact View.le_trans hA (le_ov hP)
  by_cases n3 : n < 0
  · by_cases n4 : kk = []
    · have n5 : kk.length = 0 := by rw [n4]; rfl
      have n6 : (kk.length : Int) = 0 := by omega
      refine hR _ _ _ ?_; clear hR R
      iterate 19 (refine seqX_hide2 fun R hR => ?_; simp [go_sem, n1, n2, n3, n4, n5, n6]; refine hR _ _ _ ?_; clear hR R)
      rw [seqX_nil]
      refine hK _ _ _ ?_; clear hK K
      refine hN5 _ _ _ ?_
      refine xc_iftrue (by simp [go_sem, n1, n2, n3, n4, n5, n6]) ?_
      refine xc_two fun N6 hN6 => ?_
      refine xc_reg1 1 rfl fun K hK => ?_
      simp only [show (List.range 1).map (·, true) = [(0, true)] from rfl, rslv_cons, rslv_nil, List.getElem?_toArray, List.getElem?_cons_zero, List.getElem?_cons_succ, gres]
      (refine seqX_hide2 fun R hR => ?_; simp [go_sem, n1, n2, n3, n4, n5, n6]; refine hR _ _ _ ?_; clear hR R)
      rw [seqX_nil]
      refine hK _ _ _ ?_; clear hK K
      refine hN6 _ _ _ ?_
      simp [go_sem, n1, n2, n3, n4, n5, n6]
      exact View.le_trans hA (le_ov hP)
    have n5 : ¬ kk.length = 0 := fun e => n4 (List.eq_nil_of_length_eq_zero e)
    have n6 : ¬ (kk.length : Int) = 0 := by omega
    have hlt : kk.length - 1 < kk.length := by omega
    have hix : idx kk n = some kk[kk.length - 1] := by rw [idx, if_pos n3, List.getElem?_eq_getElem hlt]
    refine hR _ _ _ ?_; clear hR R
    iterate 19 (refine seqX_hide2 fun R hR => ?_; simp [go_sem, n1, n2, n3, n4, n5, n6]; refine hR _ _ _ ?_; clear hR R)
    rw [seqX_nil]
    refine hK _ _ _ ?_; clear hK K
    refine hN5 _ _ _ ?_
    refine xc_iffalse (by simp [go_sem, n1, n2, n3, n4, n5, n6]) ?_
    refine hN4 _ _ _ ?_
    refine xc_two fun N6 hN6 => ?_
    refine xc_reg1 11 rfl fun K hK => ?_
    simp only [show (List.range 11).map (·, true) = [(0, true), (1, true), (2, true), (3, true), (4, true), (5, true), (6, true), (7, true), (8, true), (9, true), (10, true)] from rfl, rslv_cons, rslv_nil, List.getElem?_toArray, List.getElem?_cons_zero, List.getElem?_cons_succ, gres]
    iterate 2 (refine seqX_hide2 fun R hR => ?_; simp [go_sem, n1, n2, n3, n4, n5, n6]; refine hR _ _ _ ?_; clear hR R)
    refine seqX_hide2 fun R hR => ?_
    simp [go_sem, n1, n2, n3, n4, n5, n6]
    refine call_ov hP (elementAt26 A2 _ 12 _ n (hc0.le hA) hpl.pt (by omega) (by omega) hk (by rw [htag]; decide) hkl (by omega) (fun _ => by show 0 < kk.length; omega)) ?_
    clear hP
    rintro _ A5 ⟨c5, fv, rfl, hc5, hfv, hA5⟩ hP
    have hA := View.le_trans hA hA5
    have hcz5 := hc5.size
    have hco5 := hc5.ones
    replace hfv : Trs A5 fv (opt1 (idx kk n)) := hfv
    obtain ⟨fb, fc, rfl⟩ := hfv.slice
    have hw1 : IntKind.i64.wrap ((kk.length : Int) - 1) = ((kk.length - 1 : Nat) : Int) := by rw [wrap_in (by omega) (by omega)]; omega
    have hw2 : IntKind.i64.wrap (((kk.length - 1 : Nat) : Int) + 1) = (kk.length : Int) := by rw [wrap_in (by omega) (by omega)]; omega
    have hlti : ((kk.length - 1 : Nat) : Int) < kk.length := by omega
    have s1 : kk.length ≤ bc0 := hcap
    have s2 : ((kk.length - 1 : Nat) : Int) ≤ kk.length := by omega
    have s3 : kk.length - 1 ≤ kk.length := by omega
    have s4 : kk.length - (kk.length - 1) = 1 := by omega
    have s5 : (kk.length : Int) ≤ bc0 := by omega
    have s6 : ¬ bc0 = kk.length - 1 := by omega
    obtain ⟨a1, rfl⟩ : ∃ a1, bb = some a1 := by
      obtain ⟨bs', cap', f1, hel⟩ := hT
      obtain ⟨a1, _, ha, -, -⟩ := hel (kk.length - 1) hlt
      simp only [Value.slice.injEq, true_and] at f1
      exact ⟨a1, by rw [f1.1]; exact ha⟩
    refine hR _ _ _ ?_; clear hR R
    iterate 4 (refine seqX_hide2 fun R hR => ?_; simp [go_sem, n1, n2, n3, n4, n5, n6, hcz5, hco5, hw1, hw2, hlt, hlti, s1, s2, s3, s4, s5, s6, xslice]; refine hR _ _ _ ?_; clear hR R)
    refine seqX_hide2 fun R hR => ?_
    simp [go_sem, n1, n2, n3, n4, n5, n6, hcz5, hco5, hw1, hw2, hlt, hlti, s1, s2, s3, s4, s5, s6, xslice]
    intro q5 hq5
    replace hP := hP.cons hq5
    clear hq5
    have d52 : q5 ≠ q2 := (hP.ne q2 (by simp [addrs])).1
    have d25 : q2 ≠ q5 := (hP.ne q2 (by simp [addrs])).2
    refine hR _ _ _ ?_; clear hR R
    refine seqX_hide2 fun R hR => ?_
    simp [go_sem, n1, n2, n3, n4, n5, n6, hcz5, hco5, hw1, hw2, hlt, hlti, s1, s2, s3, s4, s5, s6, xslice, d52, d25]
    refine hR _ _ _ ?_; clear hR R
    iterate 2 (refine seqX_hide2 fun R hR => ?_; simp [go_sem, n1, n2, n3, n4, n5, n6, hcz5, hco5, hw1, hw2, hlt, hlti, s1, s2, s3, s4, s5, s6, xslice, d52, d25]; refine hR _ _ _ ?_; clear hR R)
    rw [seqX_nil]
    refine hK _ _ _ ?_; clear hK K
    refine hN6 _ _ _ ?_
    refine xc_two fun N7 hN7 => ?_
    refine xc_two fun N8 hN8 => ?_
    refine xc_reg1 2 rfl fun K hK => ?_
    simp only [show (List.range 2).map (·, true) = [(0, true), (1, true)] from rfl, rslv_cons, rslv_nil, List.getElem?_toArray, List.getElem?_cons_zero, List.getElem?_cons_succ, gres]
    iterate 2 (refine seqX_hide2 fun R hR => ?_; simp [go_sem, n1, n2, n3, n4, n5, n6, hcz5, hco5, hw1, hw2, hlt, hlti, s1, s2, s3, s4, s5, s6, xslice, d52, d25]; refine hR _ _ _ ?_; clear hR R)
    rw [seqX_nil]
    refine hK _ _ _ ?_; clear hK K
    refine hN8 _ _ _ ?_
    refine xc_iftrue (by simp [go_sem, n1, n2, n3, n4, n5, n6, hcz5, hco5, hw1, hw2, hlt, hlti, s1, s2, s3, s4, s5, s6, xslice, d52, d25]) ?_
    refine xc_reg1 5 rfl fun K hK => ?_
    simp only [show (List.range 5).map (·, true) = [(0, true), (1, true), (2, true), (3, true), (4, true)] from rfl, rslv_cons, rslv_nil, List.getElem?_toArray, List.getElem?_cons_zero, List.getElem?_cons_succ, gres]
    iterate 5 (refine seqX_hide2 fun R hR => ?_; simp [go_sem, n1, n2, n3, n4, n5, n6, hcz5, hco5, hw1, hw2, hlt, hlti, s1, s2, s3, s4, s5, s6, xslice, d52, d25]; refine hR _ _ _ ?_; clear hR R)
    rw [seqX_nil]
    refine hK _ _ _ ?_; clear hK K
    refine hN7 _ _ _ ?_
    refine xc_two fun N9 hN9 => ?_
    refine xc_reg1 1 rfl fun K hK => ?_
    simp only [show (List.range 1).map (·, true) = [(0, true)] from rfl, rslv_cons, rslv_nil, List.getElem?_toArray, List.getElem?_cons_zero, List.getElem?_cons_succ, gres]
    (refine seqX_hide2 fun R hR => ?_; simp [go_sem, n1, n2, n3, n4, n5, n6, hcz5, hco5, hw1, hw2, hlt, hlti, s1, s2, s3, s4, s5, s6, xslice, d52, d25]; refine hR _ _ _ ?_; clear hR R)
    rw [seqX_nil]
    refine hK _ _ _ ?_; clear hK K
    refine hN9 _ _ _ ?_
    refine xc_two fun N10 hN10 => ?_
    refine xc_two fun N11 hN11 => ?_
    refine xc_reg1 5 rfl fun K hK => ?_
    simp only [show (List.range 5).map (·, true) = [(0, true), (1, true), (2, true), (3, true), (4, true)] from rfl, rslv_cons, rslv_nil, List.getElem?_toArray, List.getElem?_cons_zero, List.getElem?_cons_succ, gres]
    iterate 5 (refine seqX_hide2 fun R hR => ?_; simp [go_sem, n1, n2, n3, n4, n5, n6, hcz5, hco5, hw1, hw2, hlt, hlti, s1, s2, s3, s4, s5, s6, xslice, d52, d25]; refine hR _ _ _ ?_; clear hR R)
    rw [seqX_nil]
    refine hK _ _ _ ?_; clear hK K
    refine hN11 _ _ _ ?_
    refine xc_iftrue (by simp [go_sem, n1, n2, n3, n4, n5, n6, hcz5, hco5, hw1, hw2, hlt, hlti, s1, s2, s3, s4, s5, s6, xslice, d52, d25]) ?_
    refine xc_reg1 7 rfl fun K hK => ?_
    simp only [show (List.range 7).map (·, true) = [(0, true), (1, true), (2, true), (3, true), (4, true), (5, true), (6, true)] from rfl, rslv_cons, rslv_nil, List.getElem?_toArray, List.getElem?_cons_zero, List.getElem?_cons_succ, gres]
    iterate 7 (refine seqX_hide2 fun R hR => ?_; simp [go_sem, n1, n2, n3, n4, n5, n6, hcz5, hco5, hw1, hw2, hlt, hlti, s1, s2, s3, s4, s5, s6, xslice, d52, d25]; refine hR _ _ _ ?_; clear hR R)
    rw [seqX_nil]
    refine hK _ _ _ ?_; clear hK K
    refine hN10 _ _ _ ?_
    refine xc_two fun N12 hN12 => ?_
    refine xc_reg1 16 rfl fun K hK => ?_
    simp only [show (List.range 16).map (·, true) = [(0, true), (1, true), (2, true), (3, true), (4, true), (5, true), (6, true), (7, true), (8, true), (9, true), (10, true), (11, true), (12, true), (13, true), (14, true), (15, true)] from rfl, rslv_cons, rslv_nil, List.getElem?_toArray, List.getElem?_cons_zero, List.getElem?_cons_succ, gres]
    iterate 5 (refine seqX_hide2 fun R hR => ?_; simp [go_sem, n1, n2, n3, n4, n5, n6, hcz5, hco5, hw1, hw2, hlt, hlti, s1, s2, s3, s4, s5, s6, xslice, d52, d25]; refine hR _ _ _ ?_; clear hR R)
    refine seqX_hide2 fun R hR => ?_
    simp [go_sem, n1, n2, n3, n4, n5, n6, hcz5, hco5, hw1, hw2, hlt, hlti, s1, s2, s3, s4, s5, s6, xslice, d52, d25]
    have hw : Trs A (.slice (some (a1.add ((kk.length - 1) * 12))) 1 (bc0 - (kk.length - 1))) (opt1 (idx kk n)) := by rw [hix]; exact trs_sub hT hlt
    refine call_ov hP (same14 _ A5 _ c5 _ hc5 (hc0.le hA) (Same.refl _) (by omega)) ?_
    clear hP
    rintro _ A6 ⟨rfl, hA6⟩ hP
    refine hR _ _ _ ?_; clear hR R
    iterate 4 (refine seqX_hide2 fun R hR => ?_; simp [go_sem, n1, n2, n3, n4, n5, n6, hcz5, hco5, hw1, hw2, hlt, hlti, s1, s2, s3, s4, s5, s6, xslice, d52, d25]; refine hR _ _ _ ?_; clear hR R)
    refine seqX_hide2 fun R hR => ?_
    simp [go_sem, n1, n2, n3, n4, n5, n6, hcz5, hco5, hw1, hw2, hlt, hlti, s1, s2, s3, s4, s5, s6, xslice, d52, d25]
    refine call_ov hP (sames27 A6 _ _ (opt1 (idx kk n)) (hfv.le hA6) (hw.le (View.le_trans hA hA6)) ?_ ?_) ?_
    · cases idx kk n <;> simp [opt1]
    · intro y hy
      cases hm : idx kk n with
      | none => rw [hm] at hy; cases hy
      | some z =>
        rw [hm] at hy
        obtain rfl : y = z := List.mem_singleton.1 hy
        have := nds_kid' (t := .mk k st tag val an h l f row col al kk) (idx_mem hm)
        omega
    clear hP
    rintro _ A7 ⟨rfl, hA7⟩ hP
    refine hR _ _ _ ?_; clear hR R
    iterate 2 (refine seqX_hide2 fun R hR => ?_; simp [go_sem, n1, n2, n3, n4, n5, n6, hcz5, hco5, hw1, hw2, hlt, hlti, s1, s2, s3, s4, s5, s6, xslice, d52, d25]; refine hR _ _ _ ?_; clear hR R)
    refine seqX_hide2 fun R hR => ?_
    simp [go_sem, n1, n2, n3, n4, n5, n6, hcz5, hco5, hw1, hw2, hlt, hlti, s1, s2, s3, s4, s5, s6, xslice, d52, d25]
    refine call_ov hP (lives28 A7) ?_
    clear hP
    rintro _ A8 ⟨rfl, hA8⟩ hP
    refine hR _ _ _ ?_; clear hR R
    iterate 2 (refine seqX_hide2 fun R hR => ?_; simp [go_sem, n1, n2, n3, n4, n5, n6, hcz5, hco5, hw1, hw2, hlt, hlti, s1, s2, s3, s4, s5, s6, xslice, d52, d25]; refine hR _ _ _ ?_; clear hR R)
    rw [seqX_nil]
    refine hK _ _ _ ?_; clear hK K
    refine hN12 _ _ _ ?_
    simp [go_sem, n1, n2, n3, n4, n5, n6, hcz5, hco5, hw1, hw2, hlt, hlti, s1, s2, s3, s4, s5, s6, xslice, d52, d25]
    exact View.le_trans hA (View.le_trans hA6 (View.le_trans hA7 (View.le_trans hA8 (le_ov hP))))
  obtain ⟨m, rfl⟩ : ∃ m : Nat, n = m := ⟨n.toNat, by omega⟩
  have hix0 : idx kk (m : Int) = kk[m]? := by rw [idx, if_neg n3]; rfl
  by_cases hm : m < kk.length
  rotate_left
  · have hmi : ¬ (m : Int) < kk.length := by omega
    have hmi3 : kk.length ≤ m := by omega
    refine hR _ _ _ ?_; clear hR R
    iterate 19 (refine seqX_hide2 fun R hR => ?_; simp [go_sem, n1, n2, n3]; refine hR _ _ _ ?_; clear hR R)
    rw [seqX_nil]
    refine hK _ _ _ ?_; clear hK K
    refine hN5 _ _ _ ?_
    refine xc_iffalse (by simp [go_sem, n1, n2, n3]) ?_
    refine hN4 _ _ _ ?_
    refine xc_two fun N6 hN6 => ?_
    refine xc_reg1 11 rfl fun K hK => ?_
    simp only [show (List.range 11).map (·, true) = [(0, true), (1, true), (2, true), (3, true), (4, true), (5, true), (6, true), (7, true), (8, true), (9, true), (10, true)] from rfl, rslv_cons, rslv_nil, List.getElem?_toArray, List.getElem?_cons_zero, List.getElem?_cons_succ, gres]
    iterate 2 (refine seqX_hide2 fun R hR => ?_; simp [go_sem, n1, n2, n3]; refine hR _ _ _ ?_; clear hR R)
    refine seqX_hide2 fun R hR => ?_
    simp [go_sem, n1, n2, n3]
    refine call_ov hP (elementAt26 A2 _ 12 _ (m : Int) (hc0.le hA) hpl.pt (by omega) (by omega) hk (by rw [htag]; decide) hkl (by omega) (fun h => absurd h n3)) ?_
    clear hP
    rintro _ A5 ⟨c5, fv, rfl, hc5, hfv, hA5⟩ hP
    have hA := View.le_trans hA hA5
    have hcz5 := hc5.size
    have hco5 := hc5.ones
    replace hfv : Trs A5 fv (opt1 (idx kk (m : Int))) := hfv
    obtain ⟨fb, fc, rfl⟩ := hfv.slice
    refine hR _ _ _ ?_; clear hR R
    iterate 4 (refine seqX_hide2 fun R hR => ?_; simp [go_sem, n1, n2, n3, hcz5, hco5, hm, hmi, hmi3]; refine hR _ _ _ ?_; clear hR R)
    refine seqX_hide2 fun R hR => ?_
    simp [go_sem, n1, n2, n3, hcz5, hco5, hm, hmi, hmi3]
    intro q5 hq5
    replace hP := hP.cons hq5
    clear hq5
    have d52 : q5 ≠ q2 := (hP.ne q2 (by simp [addrs])).1
    have d25 : q2 ≠ q5 := (hP.ne q2 (by simp [addrs])).2
    refine hR _ _ _ ?_; clear hR R
    refine seqX_hide2 fun R hR => ?_
    simp [go_sem, n1, n2, n3, hcz5, hco5, hm, hmi, hmi3, d52, d25]
    refine hR _ _ _ ?_; clear hR R
    iterate 2 (refine seqX_hide2 fun R hR => ?_; simp [go_sem, n1, n2, n3, hcz5, hco5, hm, hmi, hmi3, d52, d25]; refine hR _ _ _ ?_; clear hR R)
    rw [seqX_nil]
    refine hK _ _ _ ?_; clear hK K
    refine hN6 _ _ _ ?_
    refine xc_two fun N7 hN7 => ?_
    refine xc_two fun N8 hN8 => ?_
    refine xc_reg1 2 rfl fun K hK => ?_
    simp only [show (List.range 2).map (·, true) = [(0, true), (1, true)] from rfl, rslv_cons, rslv_nil, List.getElem?_toArray, List.getElem?_cons_zero, List.getElem?_cons_succ, gres]
    iterate 2 (refine seqX_hide2 fun R hR => ?_; simp [go_sem, n1, n2, n3, hcz5, hco5, hm, hmi, hmi3, d52, d25]; refine hR _ _ _ ?_; clear hR R)
    rw [seqX_nil]
    refine hK _ _ _ ?_; clear hK K
    refine hN8 _ _ _ ?_
    refine xc_iffalse (by simp [go_sem, n1, n2, n3, hcz5, hco5, hm, hmi, hmi3, d52, d25]) ?_
    refine hN7 _ _ _ ?_
    refine xc_two fun N9 hN9 => ?_
    refine xc_reg1 1 rfl fun K hK => ?_
    simp only [show (List.range 1).map (·, true) = [(0, true)] from rfl, rslv_cons, rslv_nil, List.getElem?_toArray, List.getElem?_cons_zero, List.getElem?_cons_succ, gres]
    (refine seqX_hide2 fun R hR => ?_; simp [go_sem, n1, n2, n3, hcz5, hco5, hm, hmi, hmi3, d52, d25]; refine hR _ _ _ ?_; clear hR R)
    rw [seqX_nil]
    refine hK _ _ _ ?_; clear hK K
    refine hN9 _ _ _ ?_
    refine xc_two fun N10 hN10 => ?_
    refine xc_two fun N11 hN11 => ?_
    refine xc_reg1 5 rfl fun K hK => ?_
    simp only [show (List.range 5).map (·, true) = [(0, true), (1, true), (2, true), (3, true), (4, true)] from rfl, rslv_cons, rslv_nil, List.getElem?_toArray, List.getElem?_cons_zero, List.getElem?_cons_succ, gres]
    iterate 5 (refine seqX_hide2 fun R hR => ?_; simp [go_sem, n1, n2, n3, hcz5, hco5, hm, hmi, hmi3, d52, d25]; refine hR _ _ _ ?_; clear hR R)
    rw [seqX_nil]
    refine hK _ _ _ ?_; clear hK K
    refine hN11 _ _ _ ?_
    refine xc_iffalse (by simp [go_sem, n1, n2, n3, hcz5, hco5, hm, hmi, hmi3, d52, d25]) ?_
    refine hN10 _ _ _ ?_
    refine xc_two fun N12 hN12 => ?_
    refine xc_reg1 16 rfl fun K hK => ?_
    simp only [show (List.range 16).map (·, true) = [(0, true), (1, true), (2, true), (3, true), (4, true), (5, true), (6, true), (7, true), (8, true), (9, true), (10, true), (11, true), (12, true), (13, true), (14, true), (15, true)] from rfl, rslv_cons, rslv_nil, List.getElem?_toArray, List.getElem?_cons_zero, List.getElem?_cons_succ, gres]
    iterate 5 (refine seqX_hide2 fun R hR => ?_; simp [go_sem, n1, n2, n3, hcz5, hco5, hm, hmi, hmi3, d52, d25]; refine hR _ _ _ ?_; clear hR R)
    refine seqX_hide2 fun R hR => ?_
    simp [go_sem, n1, n2, n3, hcz5, hco5, hm, hmi, hmi3, d52, d25]
    have hw : Trs A (.slice none 0 0) (opt1 (idx kk (m : Int))) := by rw [hix0, List.getElem?_eq_none hmi3]; exact Elems.nil _ _ _
    refine call_ov hP (same14 _ A5 _ c5 _ hc5 (hc0.le hA) (Same.refl _) (by omega)) ?_
    clear hP
    rintro _ A6 ⟨rfl, hA6⟩ hP
    refine hR _ _ _ ?_; clear hR R
    iterate 4 (refine seqX_hide2 fun R hR => ?_; simp [go_sem, n1, n2, n3, hcz5, hco5, hm, hmi, hmi3, d52, d25]; refine hR _ _ _ ?_; clear hR R)
    refine seqX_hide2 fun R hR => ?_
    simp [go_sem, n1, n2, n3, hcz5, hco5, hm, hmi, hmi3, d52, d25]
    refine call_ov hP (sames27 A6 _ _ (opt1 (idx kk (m : Int))) (hfv.le hA6) (hw.le (View.le_trans hA hA6)) ?_ ?_) ?_
    · cases idx kk (m : Int) <;> simp [opt1]
    · intro y hy
      cases hm : idx kk (m : Int) with
      | none => rw [hm] at hy; cases hy
      | some z =>
        rw [hm] at hy
        obtain rfl : y = z := List.mem_singleton.1 hy
        have := nds_kid' (t := .mk k st tag val an h l f row col al kk) (idx_mem hm)
        omega
    clear hP
    rintro _ A7 ⟨rfl, hA7⟩ hP
    refine hR _ _ _ ?_; clear hR R
    iterate 2 (refine seqX_hide2 fun R hR => ?_; simp [go_sem, n1, n2, n3, hcz5, hco5, hm, hmi, hmi3, d52, d25]; refine hR _ _ _ ?_; clear hR R)
    refine seqX_hide2 fun R hR => ?_
    simp [go_sem, n1, n2, n3, hcz5, hco5, hm, hmi, hmi3, d52, d25]
    refine call_ov hP (lives28 A7) ?_
    clear hP
    rintro _ A8 ⟨rfl, hA8⟩ hP
    refine hR _ _ _ ?_; clear hR R
    iterate 2 (refine seqX_hide2 fun R hR => ?_; simp [go_sem, n1, n2, n3, hcz5, hco5, hm, hmi, hmi3, d52, d25]; refine hR _ _ _ ?_; clear hR R)
    rw [seqX_nil]
    refine hK _ _ _ ?_; clear hK K
    refine hN12 _ _ _ ?_
    simp [go_sem, n1, n2, n3, hcz5, hco5, hm, hmi, hmi3, d52, d25]
    exact View.le_trans hA (View.le_trans hA6 (View.le_trans hA7 (View.le_trans hA8 (le_ov hP))))
  have hmi : (m : Int) < kk.length := by omega
  have hix : idx kk (m : Int) = some kk[m] := by rw [hix0, List.getElem?_eq_getElem hm]
  have hw2 : IntKind.i64.wrap ((m : Int) + 1) = ((m + 1 : Nat) : Int) := by rw [wrap_in (by omega) (by omega)]; omega
  have s1 : m + 1 ≤ bc0 := by omega
  have s2 : (m : Int) + 1 ≤ bc0 := by omega
  have s3 : (0 : Int) ≤ (m : Int) + 1 := by omega
  have s4 : (m : Int) ≤ (m : Int) + 1 := by omega
  have s6 : ¬ bc0 = m := by omega
  have s7 : ((m + 1 : Nat) : Int) ≤ bc0 := by omega
  refine hR _ _ _ ?_; clear hR R
  iterate 19 (refine seqX_hide2 fun R hR => ?_; simp [go_sem, n1, n2, n3]; refine hR _ _ _ ?_; clear hR R)
  rw [seqX_nil]
  refine hK _ _ _ ?_; clear hK K
  refine hN5 _ _ _ ?_
  refine xc_iffalse (by simp [go_sem, n1, n2, n3]) ?_
  refine hN4 _ _ _ ?_
  refine xc_two fun N6 hN6 => ?_
  refine xc_reg1 11 rfl fun K hK => ?_
  simp only [show (List.range 11).map (·, true) = [(0, true), (1, true), (2, true), (3, true), (4, true), (5, true), (6, true), (7, true), (8, true), (9, true), (10, true)] from rfl, rslv_cons, rslv_nil, List.getElem?_toArray, List.getElem?_cons_zero, List.getElem?_cons_succ, gres]
  iterate 2 (refine seqX_hide2 fun R hR => ?_; simp [go_sem, n1, n2, n3]; refine hR _ _ _ ?_; clear hR R)
  refine seqX_hide2 fun R hR => ?_
  simp [go_sem, n1, n2, n3]
  refine call_ov hP (elementAt26 A2 _ 12 _ (m : Int) (hc0.le hA) hpl.pt (by omega) (by omega) hk (by rw [htag]; decide) hkl (by omega) (fun h => absurd h n3)) ?_
  clear hP
  rintro _ A5 ⟨c5, fv, rfl, hc5, hfv, hA5⟩ hP
  have hA := View.le_trans hA hA5
  have hcz5 := hc5.size
  have hco5 := hc5.ones
  replace hfv : Trs A5 fv (opt1 (idx kk (m : Int))) := hfv
  obtain ⟨fb, fc, rfl⟩ := hfv.slice
  obtain ⟨a1, rfl⟩ : ∃ a1, bb = some a1 := by
    obtain ⟨bs', cap', f1, hel⟩ := hT
    obtain ⟨a1, _, ha, -, -⟩ := hel m hm
    simp only [Value.slice.injEq, true_and] at f1
    exact ⟨a1, by rw [f1.1]; exact ha⟩
  refine hR _ _ _ ?_; clear hR R
  iterate 4 (refine seqX_hide2 fun R hR => ?_; simp [go_sem, n1, n2, n3, hcz5, hco5, hw2, hm, hmi, s1, s2, s3, s4, s6, s7, xslice]; refine hR _ _ _ ?_; clear hR R)
  refine seqX_hide2 fun R hR => ?_
  simp [go_sem, n1, n2, n3, hcz5, hco5, hw2, hm, hmi, s1, s2, s3, s4, s6, s7, xslice]
  intro q5 hq5
  replace hP := hP.cons hq5
  clear hq5
  have d52 : q5 ≠ q2 := (hP.ne q2 (by simp [addrs])).1
  have d25 : q2 ≠ q5 := (hP.ne q2 (by simp [addrs])).2
  refine hR _ _ _ ?_; clear hR R
  refine seqX_hide2 fun R hR => ?_
  simp [go_sem, n1, n2, n3, hcz5, hco5, hw2, hm, hmi, s1, s2, s3, s4, s6, s7, xslice, d52, d25]
  refine hR _ _ _ ?_; clear hR R
  iterate 2 (refine seqX_hide2 fun R hR => ?_; simp [go_sem, n1, n2, n3, hcz5, hco5, hw2, hm, hmi, s1, s2, s3, s4, s6, s7, xslice, d52, d25]; refine hR _ _ _ ?_; clear hR R)
  rw [seqX_nil]
  refine hK _ _ _ ?_; clear hK K
  refine hN6 _ _ _ ?_
  refine xc_two fun N7 hN7 => ?_
  refine xc_two fun N8 hN8 => ?_
  refine xc_reg1 2 rfl fun K hK => ?_
  simp only [show (List.range 2).map (·, true) = [(0, true), (1, true)] from rfl, rslv_cons, rslv_nil, List.getElem?_toArray, List.getElem?_cons_zero, List.getElem?_cons_succ, gres]
  iterate 2 (refine seqX_hide2 fun R hR => ?_; simp [go_sem, n1, n2, n3, hcz5, hco5, hw2, hm, hmi, s1, s2, s3, s4, s6, s7, xslice, d52, d25]; refine hR _ _ _ ?_; clear hR R)
  rw [seqX_nil]
  refine hK _ _ _ ?_; clear hK K
  refine hN8 _ _ _ ?_
  refine xc_iffalse (by simp [go_sem, n1, n2, n3, hcz5, hco5, hw2, hm, hmi, s1, s2, s3, s4, s6, s7, xslice, d52, d25]) ?_
  refine hN7 _ _ _ ?_
  refine xc_two fun N9 hN9 => ?_
  refine xc_reg1 1 rfl fun K hK => ?_
  simp only [show (List.range 1).map (·, true) = [(0, true)] from rfl, rslv_cons, rslv_nil, List.getElem?_toArray, List.getElem?_cons_zero, List.getElem?_cons_succ, gres]
  (refine seqX_hide2 fun R hR => ?_; simp [go_sem, n1, n2, n3, hcz5, hco5, hw2, hm, hmi, s1, s2, s3, s4, s6, s7, xslice, d52, d25]; refine hR _ _ _ ?_; clear hR R)
  rw [seqX_nil]
  refine hK _ _ _ ?_; clear hK K
  refine hN9 _ _ _ ?_
  refine xc_two fun N10 hN10 => ?_
  refine xc_two fun N11 hN11 => ?_
  refine xc_reg1 5 rfl fun K hK => ?_
  simp only [show (List.range 5).map (·, true) = [(0, true), (1, true), (2, true), (3, true), (4, true)] from rfl, rslv_cons, rslv_nil, List.getElem?_toArray, List.getElem?_cons_zero, List.getElem?_cons_succ, gres]
  iterate 5 (refine seqX_hide2 fun R hR => ?_; simp [go_sem, n1, n2, n3, hcz5, hco5, hw2, hm, hmi, s1, s2, s3, s4, s6, s7, xslice, d52, d25]; refine hR _ _ _ ?_; clear hR R)
  rw [seqX_nil]
  refine hK _ _ _ ?_; clear hK K
  refine hN11 _ _ _ ?_
  refine xc_iftrue (by simp [go_sem, n1, n2, n3, hcz5, hco5, hw2, hm, hmi, s1, s2, s3, s4, s6, s7, xslice, d52, d25]) ?_
  refine xc_reg1 7 rfl fun K hK => ?_
  simp only [show (List.range 7).map (·, true) = [(0, true), (1, true), (2, true), (3, true), (4, true), (5, true), (6, true)] from rfl, rslv_cons, rslv_nil, List.getElem?_toArray, List.getElem?_cons_zero, List.getElem?_cons_succ, gres]
  iterate 7 (refine seqX_hide2 fun R hR => ?_; simp [go_sem, n1, n2, n3, hcz5, hco5, hw2, hm, hmi, s1, s2, s3, s4, s6, s7, xslice, d52, d25]; refine hR _ _ _ ?_; clear hR R)
  rw [seqX_nil]
  refine hK _ _ _ ?_; clear hK K
  refine hN10 _ _ _ ?_
  refine xc_two fun N12 hN12 => ?_
  refine xc_reg1 16 rfl fun K hK => ?_
  simp only [show (List.range 16).map (·, true) = [(0, true), (1, true), (2, true), (3, true), (4, true), (5, true), (6, true), (7, true), (8, true), (9, true), (10, true), (11, true), (12, true), (13, true), (14, true), (15, true)] from rfl, rslv_cons, rslv_nil, List.getElem?_toArray, List.getElem?_cons_zero, List.getElem?_cons_succ, gres]
  iterate 5 (refine seqX_hide2 fun R hR => ?_; simp [go_sem, n1, n2, n3, hcz5, hco5, hw2, hm, hmi, s1, s2, s3, s4, s6, s7, xslice, d52, d25]; refine hR _ _ _ ?_; clear hR R)
  refine seqX_hide2 fun R hR => ?_
  simp [go_sem, n1, n2, n3, hcz5, hco5, hw2, hm, hmi, s1, s2, s3, s4, s6, s7, xslice, d52, d25]
  have hw : Trs A (.slice (some (a1.add (m * 12))) 1 (bc0 - m)) (opt1 (idx kk (m : Int))) := by rw [hix]; exact trs_sub hT hm
  refine call_ov hP (same14 _ A5 _ c5 _ hc5 (hc0.le hA) (Same.refl _) (by omega)) ?_
  clear hP
  rintro _ A6 ⟨rfl, hA6⟩ hP
  refine hR _ _ _ ?_; clear hR R
  iterate 4 (refine seqX_hide2 fun R hR => ?_; simp [go_sem, n1, n2, n3, hcz5, hco5, hw2, hm, hmi, s1, s2, s3, s4, s6, s7, xslice, d52, d25]; refine hR _ _ _ ?_; clear hR R)
  refine seqX_hide2 fun R hR => ?_
  simp [go_sem, n1, n2, n3, hcz5, hco5, hw2, hm, hmi, s1, s2, s3, s4, s6, s7, xslice, d52, d25]
  refine call_ov hP (sames27 A6 _ _ (opt1 (idx kk (m : Int))) (hfv.le hA6) (hw.le (View.le_trans hA hA6)) ?_ ?_) ?_
  · cases idx kk (m : Int) <;> simp [opt1]
  · intro y hy
    cases hm : idx kk (m : Int) with
    | none => rw [hm] at hy; cases hy
    | some z =>
      rw [hm] at hy
      obtain rfl : y = z := List.mem_singleton.1 hy
      have := nds_kid' (t := .mk k st tag val an h l f row col al kk) (idx_mem hm)
      omega
  clear hP
  rintro _ A7 ⟨rfl, hA7⟩ hP
  refine hR _ _ _ ?_; clear hR R
  iterate 2 (refine seqX_hide2 fun R hR => ?_; simp [go_sem, n1, n2, n3, hcz5, hco5, hw2, hm, hmi, s1, s2, s3, s4, s6, s7, xslice, d52, d25]; refine hR _ _ _ ?_; clear hR R)
  refine seqX_hide2 fun R hR => ?_
  simp [go_sem, n1, n2, n3, hcz5, hco5, hw2, hm, hmi, s1, s2, s3, s4, s6, s7, xslice, d52, d25]
  refine call_ov hP (lives28 A7) ?_
  clear hP
  rintro _ A8 ⟨rfl, hA8⟩ hP
  refine hR _ _ _ ?_; clear hR R
  iterate 2 (refine seqX_hide2 fun R hR => ?_; simp [go_sem, n1, n2, n3, hcz5, hco5, hw2, hm, hmi, s1, s2, s3, s4, s6, s7, xslice, d52, d25]; refine hR _ _ _ ?_; clear hR R)
  rw [seqX_nil]
  refine hK _ _ _ ?_; clear hK K
  refine hN12 _ _ _ ?_
  simp [go_sem, n1, n2, n3, hcz5, hco5, hw2, hm, hmi, s1, s2, s3, s4, s6, s7, xslice, d52, d25]
  exact View.le_trans hA (View.le_trans hA6 (View.le_trans hA7 (View.le_trans hA8 (le_ov hP))))
theorem law5 (W : World) (c : Array Value) (t : Tr) (h : (IsTr (full W) t c ∧ SB t) ∧ ∀ bs m cap, c.toList[11]? = some (.slice bs m cap) → m ≤ cap) (n : Int) (hn : (Lit.int .i64 n).wf = true) : VCalls Try.prog 5 #[.agg c, .int .i64 n] (full W) fun r A' => r = .bool true ∧ full W ≤ A' := at5 (full W) c t n h
end Go.Proofs.YtpinamipjddobaaV

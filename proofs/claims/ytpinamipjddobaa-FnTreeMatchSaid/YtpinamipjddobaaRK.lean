/- Trees: law 7 (FnTreeMatch). -/
import Derived.Test.YtpinamipjddobaaRJ
namespace Go.Proofs.YtpinamipjddobaaV
open Go.RowKit
set_option linter.unusedSimpArgs false
set_option linter.unusedVariables false
theorem wd_ne {s : ByteArray} (h : Wd s) : s ≠ e0 := fun e => h.1 (by rw [e]; rfl)
theorem PL.ev {t : Tr} {lv : Nat} (h : PL lv t) (hk : t.kind = 4) : t.tag = tMap ∧ t.kids.length % 2 = 0 := by
  obtain ⟨k, st, tag, val, an, hh, l, f, row, col, al, kids, rfl⟩ := t.ex
  rw [PL] at h
  replace hk : k = 4 := hk
  obtain ⟨-, -, h, -⟩ := h
  rcases h with h | h | h
  · omega
  · omega
  · exact ⟨h.2.1, h.2.2.2.1⟩
set_option maxRecDepth 20000 in
set_option maxHeartbeats 400000 in
theorem match7 (A : View) (c : Array Value) (t : Tr) (nm sv : ByteArray) (h : IsTr A t c ∧ SB t) : VCalls Try.prog 7 #[.agg c, .string nm, .string sv] A fun r A' => r = .bool true ∧ A ≤ A' := by
  obtain ⟨hc, hsb⟩ := h
  have hcz := hc.size
  have hco := hc.ones
  refine xcalls Try.func7 rfl (by simp [Try.ntmps7]) ?_
  simp only [Try.f7]
  have hP : Priv A (addrs []) := Priv.nil A
  show xc _ _ _ _ _ _ (ov A [])
  refine xc_two fun N1 hN1 => ?_
  refine xc_reg1 2 rfl fun K hK => ?_
  simp only [show (List.range 2).map (·, true) = [(0, true), (1, true)] from rfl, rslv_cons, rslv_nil, List.getElem?_toArray, List.getElem?_cons_zero, List.getElem?_cons_succ, gres]
  refine seqX_hide2 fun R hR => ?_
  simp [go_sem, hcz, hco]
  intro q3 hq3
  replace hP := hP.cons hq3
  clear hq3
  refine hR _ _ _ ?_; clear hR R
  (refine seqX_hide2 fun R hR => ?_; simp [go_sem, hcz, hco]; refine hR _ _ _ ?_; clear hR R)
  rw [seqX_nil]
  refine hK _ _ _ ?_; clear hK K
  refine hN1 _ _ _ ?_
  refine xc_two fun N2 hN2 => ?_
  refine xc_two fun N3 hN3 => ?_
  refine xc_reg1 13 rfl fun K hK => ?_
  simp only [show (List.range 13).map (·, true) = [(0, true), (1, true), (2, true), (3, true), (4, true), (5, true), (6, true), (7, true), (8, true), (9, true), (10, true), (11, true), (12, true)] from rfl, rslv_cons, rslv_nil, List.getElem?_toArray, List.getElem?_cons_zero, List.getElem?_cons_succ, gres]
  (refine seqX_hide2 fun R hR => ?_; simp [go_sem, hcz, hco]; refine hR _ _ _ ?_; clear hR R)
  refine seqX_hide2 fun R hR => ?_
  simp [go_sem, hcz, hco]
  refine call_ov hP (fits8 A t c hc) ?_
  clear hP
  rintro _ A1 ⟨⟨b, rfl, -⟩, hA1⟩ hP
  cases b with
  | false =>
    refine hR _ _ _ ?_; clear hR R
    iterate 11 (refine seqX_hide2 fun R hR => ?_; simp [go_sem, hcz, hco]; refine hR _ _ _ ?_; clear hR R)
    rw [seqX_nil]
    refine hK _ _ _ ?_; clear hK K
    refine hN3 _ _ _ ?_
    refine xc_iftrue (by simp [go_sem, hcz, hco]) ?_
    refine xc_two fun N4 hN4 => ?_
    refine xc_reg1 1 rfl fun K hK => ?_
    simp only [show (List.range 1).map (·, true) = [(0, true)] from rfl, rslv_cons, rslv_nil, List.getElem?_toArray, List.getElem?_cons_zero, List.getElem?_cons_succ, gres]
    (refine seqX_hide2 fun R hR => ?_; simp [go_sem, hcz, hco]; refine hR _ _ _ ?_; clear hR R)
    rw [seqX_nil]
    refine hK _ _ _ ?_; clear hK K
    refine hN4 _ _ _ ?_
    simp [go_sem, hcz, hco]
    exact View.le_trans hA1 (le_ov hP)
  | true =>
  by_cases h1 : nm.size ≤ 2147483647
  rotate_left
  · have z1 : (2147483647 : Int) < nm.size := by omega
    refine hR _ _ _ ?_; clear hR R
    iterate 11 (refine seqX_hide2 fun R hR => ?_; simp [go_sem, hcz, hco, z1]; refine hR _ _ _ ?_; clear hR R)
    rw [seqX_nil]
    refine hK _ _ _ ?_; clear hK K
    refine hN3 _ _ _ ?_
    refine xc_iftrue (by simp [go_sem, hcz, hco, z1]) ?_
    refine xc_two fun N4 hN4 => ?_
    refine xc_reg1 1 rfl fun K hK => ?_
    simp only [show (List.range 1).map (·, true) = [(0, true)] from rfl, rslv_cons, rslv_nil, List.getElem?_toArray, List.getElem?_cons_zero, List.getElem?_cons_succ, gres]
    (refine seqX_hide2 fun R hR => ?_; simp [go_sem, hcz, hco, z1]; refine hR _ _ _ ?_; clear hR R)
    rw [seqX_nil]
    refine hK _ _ _ ?_; clear hK K
    refine hN4 _ _ _ ?_
    simp [go_sem, hcz, hco, z1]
    exact View.le_trans hA1 (le_ov hP)
  have z1 : ¬ (2147483647 : Int) < nm.size := by omega
  by_cases h2 : sv.size ≤ 2147483647
  rotate_left
  · have z2 : (2147483647 : Int) < sv.size := by omega
    refine hR _ _ _ ?_; clear hR R
    iterate 11 (refine seqX_hide2 fun R hR => ?_; simp [go_sem, hcz, hco, z1, z2]; refine hR _ _ _ ?_; clear hR R)
    rw [seqX_nil]
    refine hK _ _ _ ?_; clear hK K
    refine hN3 _ _ _ ?_
    refine xc_iftrue (by simp [go_sem, hcz, hco, z1, z2]) ?_
    refine xc_two fun N4 hN4 => ?_
    refine xc_reg1 1 rfl fun K hK => ?_
    simp only [show (List.range 1).map (·, true) = [(0, true)] from rfl, rslv_cons, rslv_nil, List.getElem?_toArray, List.getElem?_cons_zero, List.getElem?_cons_succ, gres]
    (refine seqX_hide2 fun R hR => ?_; simp [go_sem, hcz, hco, z1, z2]; refine hR _ _ _ ?_; clear hR R)
    rw [seqX_nil]
    refine hK _ _ _ ?_; clear hK K
    refine hN4 _ _ _ ?_
    simp [go_sem, hcz, hco, z1, z2]
    exact View.le_trans hA1 (le_ov hP)
  have z2 : ¬ (2147483647 : Int) < sv.size := by omega
  refine hR _ _ _ ?_; clear hR R
  iterate 11 (refine seqX_hide2 fun R hR => ?_; simp [go_sem, hcz, hco, z1, z2]; refine hR _ _ _ ?_; clear hR R)
  rw [seqX_nil]
  refine hK _ _ _ ?_; clear hK K
  refine hN3 _ _ _ ?_
  refine xc_iffalse (by simp [go_sem, hcz, hco, z1, z2]) ?_
  refine hN2 _ _ _ ?_
  refine xc_two fun N4 hN4 => ?_
  refine xc_two fun N5 hN5 => ?_
  refine xc_reg1 13 rfl fun K hK => ?_
  simp only [show (List.range 13).map (·, true) = [(0, true), (1, true), (2, true), (3, true), (4, true), (5, true), (6, true), (7, true), (8, true), (9, true), (10, true), (11, true), (12, true)] from rfl, rslv_cons, rslv_nil, List.getElem?_toArray, List.getElem?_cons_zero, List.getElem?_cons_succ, gres]
  (refine seqX_hide2 fun R hR => ?_; simp [go_sem, hcz, hco, z1, z2]; refine hR _ _ _ ?_; clear hR R)
  refine seqX_hide2 fun R hR => ?_
  simp [go_sem, hcz, hco, z1, z2]
  refine call_ov hP (tfIs13 A1 t c 4 (hc.le hA1) hsb) ?_
  clear hP
  rintro _ A2 ⟨⟨b, rfl, hb⟩, hA2⟩ hP
  have hA := View.le_trans hA1 hA2
  cases b with
  | false =>
    refine hR _ _ _ ?_; clear hR R
    iterate 3 (refine seqX_hide2 fun R hR => ?_; simp [go_sem, hcz, hco, z1, z2]; refine hR _ _ _ ?_; clear hR R)
    refine seqX_hide2 fun R hR => ?_
    simp [go_sem, hcz, hco, z1, z2]
    refine hR _ _ _ ?_; clear hR R
    iterate 4 (refine seqX_hide2 fun R hR => ?_; simp [go_sem, hcz, hco, z1, z2]; refine hR _ _ _ ?_; clear hR R)
    refine seqX_hide2 fun R hR => ?_
    simp [go_sem, hcz, hco, z1, z2]
    refine hR _ _ _ ?_; clear hR R
    iterate 2 (refine seqX_hide2 fun R hR => ?_; simp [go_sem, hcz, hco, z1, z2]; refine hR _ _ _ ?_; clear hR R)
    rw [seqX_nil]
    refine hK _ _ _ ?_; clear hK K
    refine hN5 _ _ _ ?_
    refine xc_iftrue (by simp [go_sem, hcz, hco, z1, z2]) ?_
    refine xc_two fun N6 hN6 => ?_
    refine xc_reg1 1 rfl fun K hK => ?_
    simp only [show (List.range 1).map (·, true) = [(0, true)] from rfl, rslv_cons, rslv_nil, List.getElem?_toArray, List.getElem?_cons_zero, List.getElem?_cons_succ, gres]
    (refine seqX_hide2 fun R hR => ?_; simp [go_sem, hcz, hco, z1, z2]; refine hR _ _ _ ?_; clear hR R)
    rw [seqX_nil]
    refine hK _ _ _ ?_; clear hK K
    refine hN6 _ _ _ ?_
    simp [go_sem, hcz, hco, z1, z2]
    exact View.le_trans hA (le_ov hP)
  | true =>
  obtain ⟨hk, hpl, hnd⟩ := hb rfl
  refine hR _ _ _ ?_; clear hR R
  iterate 3 (refine seqX_hide2 fun R hR => ?_; simp [go_sem, hcz, hco, z1, z2]; refine hR _ _ _ ?_; clear hR R)
  refine seqX_hide2 fun R hR => ?_
  simp [go_sem, hcz, hco, z1, z2]
  refine call_same hP (word6 A2 nm (by omega)) ?_
  rintro _ ⟨b, rfl, hbn⟩
  cases b with
  | false =>
    refine hR _ _ _ ?_; clear hR R
    iterate 4 (refine seqX_hide2 fun R hR => ?_; simp [go_sem, hcz, hco, z1, z2]; refine hR _ _ _ ?_; clear hR R)
    refine seqX_hide2 fun R hR => ?_
    simp [go_sem, hcz, hco, z1, z2]
    refine hR _ _ _ ?_; clear hR R
    iterate 2 (refine seqX_hide2 fun R hR => ?_; simp [go_sem, hcz, hco, z1, z2]; refine hR _ _ _ ?_; clear hR R)
    rw [seqX_nil]
    refine hK _ _ _ ?_; clear hK K
    refine hN5 _ _ _ ?_
    refine xc_iftrue (by simp [go_sem, hcz, hco, z1, z2]) ?_
    refine xc_two fun N6 hN6 => ?_
    refine xc_reg1 1 rfl fun K hK => ?_
    simp only [show (List.range 1).map (·, true) = [(0, true)] from rfl, rslv_cons, rslv_nil, List.getElem?_toArray, List.getElem?_cons_zero, List.getElem?_cons_succ, gres]
    (refine seqX_hide2 fun R hR => ?_; simp [go_sem, hcz, hco, z1, z2]; refine hR _ _ _ ?_; clear hR R)
    rw [seqX_nil]
    refine hK _ _ _ ?_; clear hK K
    refine hN6 _ _ _ ?_
    simp [go_sem, hcz, hco, z1, z2]
    exact View.le_trans hA (le_ov hP)
  | true =>
  have hwn := hbn rfl
  refine hR _ _ _ ?_; clear hR R
  iterate 4 (refine seqX_hide2 fun R hR => ?_; simp [go_sem, hcz, hco, z1, z2]; refine hR _ _ _ ?_; clear hR R)
  refine seqX_hide2 fun R hR => ?_
  simp [go_sem, hcz, hco, z1, z2]
  refine call_same hP (word6 A2 sv (by omega)) ?_
  rintro _ ⟨b, rfl, hbs⟩
  cases b with
  | false =>
    refine hR _ _ _ ?_; clear hR R
    iterate 2 (refine seqX_hide2 fun R hR => ?_; simp [go_sem, hcz, hco, z1, z2]; refine hR _ _ _ ?_; clear hR R)
    rw [seqX_nil]
    refine hK _ _ _ ?_; clear hK K
    refine hN5 _ _ _ ?_
    refine xc_iftrue (by simp [go_sem, hcz, hco, z1, z2]) ?_
    refine xc_two fun N6 hN6 => ?_
    refine xc_reg1 1 rfl fun K hK => ?_
    simp only [show (List.range 1).map (·, true) = [(0, true)] from rfl, rslv_cons, rslv_nil, List.getElem?_toArray, List.getElem?_cons_zero, List.getElem?_cons_succ, gres]
    (refine seqX_hide2 fun R hR => ?_; simp [go_sem, hcz, hco, z1, z2]; refine hR _ _ _ ?_; clear hR R)
    rw [seqX_nil]
    refine hK _ _ _ ?_; clear hK K
    refine hN6 _ _ _ ?_
    simp [go_sem, hcz, hco, z1, z2]
    exact View.le_trans hA (le_ov hP)
  | true =>
  obtain ⟨htag, hev⟩ := hpl.ev hk
  have hkl : t.kids.length ≤ 1000000 := by
    have h5 := nds_len t.kids
    have h6 : nds t = 1 + (t.kids.map nds).sum := by
      obtain ⟨k, st, tag, val, an, hh, l, f, row, col, al, kids, rfl⟩ := t.ex
      exact nds_mk _ _ _ _ _ _ _ _ _ _ _ _
    omega
  refine hR _ _ _ ?_; clear hR R
  iterate 2 (refine seqX_hide2 fun R hR => ?_; simp [go_sem, hcz, hco, z1, z2]; refine hR _ _ _ ?_; clear hR R)
  rw [seqX_nil]
  refine hK _ _ _ ?_; clear hK K
  refine hN5 _ _ _ ?_
  refine xc_iffalse (by simp [go_sem, hcz, hco, z1, z2]) ?_
  refine hN4 _ _ _ ?_
  refine xc_two fun N6 hN6 => ?_
  refine xc_reg1 5 rfl fun K hK => ?_
  simp only [show (List.range 5).map (·, true) = [(0, true), (1, true), (2, true), (3, true), (4, true)] from rfl, rslv_cons, rslv_nil, List.getElem?_toArray, List.getElem?_cons_zero, List.getElem?_cons_succ, gres]
  (refine seqX_hide2 fun R hR => ?_; simp [go_sem, hcz, hco, z1, z2]; refine hR _ _ _ ?_; clear hR R)
  refine seqX_hide2 fun R hR => ?_
  simp [go_sem, hcz, hco, z1, z2]
  refine call_ov hP (one11 A2 t c (hc.le hA)) ?_
  clear hP
  rintro v1 A3 ⟨hv1, hA3⟩ hP
  refine hR _ _ _ ?_; clear hR R
  (refine seqX_hide2 fun R hR => ?_; simp [go_sem, hcz, hco, z1, z2]; refine hR _ _ _ ?_; clear hR R)
  refine seqX_hide2 fun R hR => ?_
  simp [go_sem, hcz, hco, z1, z2]
  refine call_ov hP (field10 A3 [t] v1 nm hv1 (by simp) (fun x hx => by rw [List.mem_singleton] at hx; subst hx; omega)) ?_
  clear hP
  rintro v7 A4 ⟨hv7, hA4⟩ hP
  have hA := View.le_trans hA (View.le_trans hA3 hA4)
  rw [ffl_one, show fldOf t nm = fld t.kids nm from if_pos hk] at hv7
  -- HERE
  cases hfo : fld t.kids nm with
  | none =>
    rw [hfo] at hv7
    have hml : mfl t.kids nm sv = none := by rw [mfl, hfo]; rfl
    have hw : Trs A4 v7 (opt1 (mfl t.kids nm sv)) := by rw [hml]; exact hv7
    obtain ⟨wb, wc, rfl⟩ := hv7.slice
    refine hR _ _ _ ?_; clear hR R
    (refine seqX_hide2 fun R hR => ?_; simp [go_sem, hcz, hco, z1, z2]; refine hR _ _ _ ?_; clear hR R)
    rw [seqX_nil]
    refine hK _ _ _ ?_; clear hK K
    refine hN6 _ _ _ ?_
    refine xc_two fun N7 hN7 => ?_
    refine xc_two fun N8 hN8 => ?_
    refine xc_reg1 17 rfl fun K hK => ?_
    simp only [show (List.range 17).map (·, true) = [(0, true), (1, true), (2, true), (3, true), (4, true), (5, true), (6, true), (7, true), (8, true), (9, true), (10, true), (11, true), (12, true), (13, true), (14, true), (15, true), (16, true)] from rfl, rslv_cons, rslv_nil, List.getElem?_toArray, List.getElem?_cons_zero, List.getElem?_cons_succ, gres]
    iterate 17 (refine seqX_hide2 fun R hR => ?_; simp [go_sem, hcz, hco, z1, z2]; refine hR _ _ _ ?_; clear hR R)
    rw [seqX_nil]
    refine hK _ _ _ ?_; clear hK K
    refine hN8 _ _ _ ?_
    refine xc_iffalse (by simp [go_sem, hcz, hco, z1, z2]) ?_
    refine hN7 _ _ _ ?_
    refine xc_two fun N9 hN9 => ?_
    refine xc_two fun N10 hN10 => ?_
    refine xc_reg1 11 rfl fun K hK => ?_
    simp only [show (List.range 11).map (·, true) = [(0, true), (1, true), (2, true), (3, true), (4, true), (5, true), (6, true), (7, true), (8, true), (9, true), (10, true)] from rfl, rslv_cons, rslv_nil, List.getElem?_toArray, List.getElem?_cons_zero, List.getElem?_cons_succ, gres]
    iterate 11 (refine seqX_hide2 fun R hR => ?_; simp [go_sem, hcz, hco, z1, z2]; refine hR _ _ _ ?_; clear hR R)
    rw [seqX_nil]
    refine hK _ _ _ ?_; clear hK K
    refine hN10 _ _ _ ?_
    refine xc_iffalse (by simp [go_sem, hcz, hco, z1, z2]) ?_
    refine hN9 _ _ _ ?_
    refine xc_two fun N11 hN11 => ?_
    refine xc_reg1 12 rfl fun K hK => ?_
    simp only [show (List.range 12).map (·, true) = [(0, true), (1, true), (2, true), (3, true), (4, true), (5, true), (6, true), (7, true), (8, true), (9, true), (10, true), (11, true)] from rfl, rslv_cons, rslv_nil, List.getElem?_toArray, List.getElem?_cons_zero, List.getElem?_cons_succ, gres]
    iterate 3 (refine seqX_hide2 fun R hR => ?_; simp [go_sem, hcz, hco, z1, z2]; refine hR _ _ _ ?_; clear hR R)
    refine seqX_hide2 fun R hR => ?_
    simp [go_sem, hcz, hco, z1, z2]
    refine call_ov hP (matchField32 A4 t 12 c nm sv (hc.le hA) hpl.pt (by omega) (by omega) hk (by rw [htag]; decide) hev hkl (wd_ne hwn)) ?_
    clear hP
    rintro _ A5 ⟨c5, fv, rfl, hc5, hfv, hA5⟩ hP
    have hcz5 := hc5.size
    have hco5 := hc5.ones
    obtain ⟨fb, fc, rfl⟩ := hfv.slice
    refine hR _ _ _ ?_; clear hR R
    iterate 4 (refine seqX_hide2 fun R hR => ?_; simp [go_sem, hcz, hco, z1, z2, hcz5, hco5]; refine hR _ _ _ ?_; clear hR R)
    refine seqX_hide2 fun R hR => ?_
    simp [go_sem, hcz, hco, z1, z2, hcz5, hco5]
    intro q8 hq8
    replace hP := hP.cons hq8
    clear hq8
    have d83 : q8 ≠ q3 := (hP.ne q3 (by simp [addrs])).1
    have d38 : q3 ≠ q8 := (hP.ne q3 (by simp [addrs])).2
    refine hR _ _ _ ?_; clear hR R
    refine seqX_hide2 fun R hR => ?_
    simp [go_sem, hcz, hco, z1, z2, hcz5, hco5, d83, d38]
    refine hR _ _ _ ?_; clear hR R
    iterate 2 (refine seqX_hide2 fun R hR => ?_; simp [go_sem, hcz, hco, z1, z2, hcz5, hco5, d83, d38]; refine hR _ _ _ ?_; clear hR R)
    rw [seqX_nil]
    refine hK _ _ _ ?_; clear hK K
    refine hN11 _ _ _ ?_
    refine xc_two fun N12 hN12 => ?_
    refine xc_reg1 16 rfl fun K hK => ?_
    simp only [show (List.range 16).map (·, true) = [(0, true), (1, true), (2, true), (3, true), (4, true), (5, true), (6, true), (7, true), (8, true), (9, true), (10, true), (11, true), (12, true), (13, true), (14, true), (15, true)] from rfl, rslv_cons, rslv_nil, List.getElem?_toArray, List.getElem?_cons_zero, List.getElem?_cons_succ, gres]
    iterate 5 (refine seqX_hide2 fun R hR => ?_; simp [go_sem, hcz, hco, z1, z2, hcz5, hco5, d83, d38]; refine hR _ _ _ ?_; clear hR R)
    refine seqX_hide2 fun R hR => ?_
    simp [go_sem, hcz, hco, z1, z2, hcz5, hco5, d83, d38]
    have hA := View.le_trans hA hA5
    refine call_ov hP (same14 t A5 t c5 c hc5 (hc.le hA) (Same.refl t) (by omega)) ?_
    clear hP
    rintro _ A6 ⟨rfl, hA6⟩ hP
    refine hR _ _ _ ?_; clear hR R
    iterate 4 (refine seqX_hide2 fun R hR => ?_; simp [go_sem, hcz, hco, z1, z2, hcz5, hco5, d83, d38]; refine hR _ _ _ ?_; clear hR R)
    refine seqX_hide2 fun R hR => ?_
    simp [go_sem, hcz, hco, z1, z2, hcz5, hco5, d83, d38]
    refine call_ov hP (sames27 A6 _ _ (opt1 (mfl t.kids nm sv)) (hfv.le hA6) ((hw.le hA5).le hA6) ?_ ?_) ?_
    · cases mfl t.kids nm sv <;> simp [opt1]
    · intro y hy
      cases hm : mfl t.kids nm sv with
      | none => rw [hm] at hy; cases hy
      | some z =>
        rw [hm] at hy
        obtain rfl : y = z := List.mem_singleton.1 hy
        have := nds_kid' (fld_mem (mfl_fld hm).1)
        omega
    clear hP
    rintro _ A7 ⟨rfl, hA7⟩ hP
    refine hR _ _ _ ?_; clear hR R
    iterate 2 (refine seqX_hide2 fun R hR => ?_; simp [go_sem, hcz, hco, z1, z2, hcz5, hco5, d83, d38]; refine hR _ _ _ ?_; clear hR R)
    refine seqX_hide2 fun R hR => ?_
    simp [go_sem, hcz, hco, z1, z2, hcz5, hco5, d83, d38]
    refine call_ov hP (lives28 A7) ?_
    clear hP
    rintro _ A8 ⟨rfl, hA8⟩ hP
    refine hR _ _ _ ?_; clear hR R
    iterate 2 (refine seqX_hide2 fun R hR => ?_; simp [go_sem, hcz, hco, z1, z2, hcz5, hco5, d83, d38]; refine hR _ _ _ ?_; clear hR R)
    rw [seqX_nil]
    refine hK _ _ _ ?_; clear hK K
    refine hN12 _ _ _ ?_
    simp [go_sem, hcz, hco, z1, z2, hcz5, hco5, d83, d38]
    exact View.le_trans hA (View.le_trans hA6 (View.le_trans hA7 (View.le_trans hA8 (le_ov hP))))
  | some x =>
    rw [hfo] at hv7
    have hv70 := hv7
    obtain ⟨bs', cap', f1, hel2⟩ := hv7
    subst f1
    obtain ⟨a2, c2, rfl, w2, hc2⟩ := hel2 0 (by simp)
    rw [show a2.add (0 * 12) = a2 from if_pos rfl] at w2
    obtain ⟨z0, z2, z3⟩ := hc2.at2
    have hw00 := cells?_get _ _ _ w2 0 (by decide)
    rw [Nat.zero_add, show a2.add 0 = a2 from if_pos rfl, Array.getElem?_toList, z0] at hw00
    have vj2 := cell_in w2 (by decide) (by decide) z2
    have vj3 := cell_in w2 (by decide) (by decide) z3
    by_cases hk8 : x.kind = 8
    rotate_left
    · have hkb8 : (x.kind == 8) = false := beq_eq_false_iff_ne.2 hk8
      have hkn8 : (x.kind != 8) = true := bne_iff_ne.2 hk8
      refine hR _ _ _ ?_; clear hR R
      (refine seqX_hide2 fun R hR => ?_; simp [go_sem, hcz, hco, z1, z2, bc hP hw00, bc hP vj2, bc hP vj3, hk8, hkb8, hkn8]; refine hR _ _ _ ?_; clear hR R)
      rw [seqX_nil]
      refine hK _ _ _ ?_; clear hK K
      refine hN6 _ _ _ ?_
      refine xc_two fun N7 hN7 => ?_
      refine xc_two fun N8 hN8 => ?_
      refine xc_reg1 17 rfl fun K hK => ?_
      simp only [show (List.range 17).map (·, true) = [(0, true), (1, true), (2, true), (3, true), (4, true), (5, true), (6, true), (7, true), (8, true), (9, true), (10, true), (11, true), (12, true), (13, true), (14, true), (15, true), (16, true)] from rfl, rslv_cons, rslv_nil, List.getElem?_toArray, List.getElem?_cons_zero, List.getElem?_cons_succ, gres]
      iterate 17 (refine seqX_hide2 fun R hR => ?_; simp [go_sem, hcz, hco, z1, z2, bc hP hw00, bc hP vj2, bc hP vj3, hk8, hkb8, hkn8]; refine hR _ _ _ ?_; clear hR R)
      rw [seqX_nil]
      refine hK _ _ _ ?_; clear hK K
      refine hN8 _ _ _ ?_
      refine xc_iftrue (by simp [go_sem, hcz, hco, z1, z2, bc hP hw00, bc hP vj2, bc hP vj3, hk8, hkb8, hkn8]) ?_
      refine xc_two fun N9 hN9 => ?_
      refine xc_reg1 1 rfl fun K hK => ?_
      simp only [show (List.range 1).map (·, true) = [(0, true)] from rfl, rslv_cons, rslv_nil, List.getElem?_toArray, List.getElem?_cons_zero, List.getElem?_cons_succ, gres]
      (refine seqX_hide2 fun R hR => ?_; simp [go_sem, hcz, hco, z1, z2, bc hP hw00, bc hP vj2, bc hP vj3, hk8, hkb8, hkn8]; refine hR _ _ _ ?_; clear hR R)
      rw [seqX_nil]
      refine hK _ _ _ ?_; clear hK K
      refine hN9 _ _ _ ?_
      simp [go_sem, hcz, hco, z1, z2, bc hP hw00, bc hP vj2, bc hP vj3, hk8, hkb8, hkn8]
      exact View.le_trans hA (le_ov hP)
    have hkb8 : (x.kind == 8) = true := by rw [hk8]; rfl
    by_cases htg : x.tag = tStr
    rotate_left
    · have hti : ¬ x.tag.toList = [33, 33, 115, 116, 114] := fun e => bytes_ne htg (e.trans (by kernel_rfl))
      refine hR _ _ _ ?_; clear hR R
      (refine seqX_hide2 fun R hR => ?_; simp [go_sem, hcz, hco, z1, z2, bc hP hw00, bc hP vj2, bc hP vj3, hk8, hkb8, hti]; refine hR _ _ _ ?_; clear hR R)
      rw [seqX_nil]
      refine hK _ _ _ ?_; clear hK K
      refine hN6 _ _ _ ?_
      refine xc_two fun N7 hN7 => ?_
      refine xc_two fun N8 hN8 => ?_
      refine xc_reg1 17 rfl fun K hK => ?_
      simp only [show (List.range 17).map (·, true) = [(0, true), (1, true), (2, true), (3, true), (4, true), (5, true), (6, true), (7, true), (8, true), (9, true), (10, true), (11, true), (12, true), (13, true), (14, true), (15, true), (16, true)] from rfl, rslv_cons, rslv_nil, List.getElem?_toArray, List.getElem?_cons_zero, List.getElem?_cons_succ, gres]
      iterate 17 (refine seqX_hide2 fun R hR => ?_; simp [go_sem, hcz, hco, z1, z2, bc hP hw00, bc hP vj2, bc hP vj3, hk8, hkb8, hti]; refine hR _ _ _ ?_; clear hR R)
      rw [seqX_nil]
      refine hK _ _ _ ?_; clear hK K
      refine hN8 _ _ _ ?_
      refine xc_iftrue (by simp [go_sem, hcz, hco, z1, z2, bc hP hw00, bc hP vj2, bc hP vj3, hk8, hkb8, hti]) ?_
      refine xc_two fun N9 hN9 => ?_
      refine xc_reg1 1 rfl fun K hK => ?_
      simp only [show (List.range 1).map (·, true) = [(0, true)] from rfl, rslv_cons, rslv_nil, List.getElem?_toArray, List.getElem?_cons_zero, List.getElem?_cons_succ, gres]
      (refine seqX_hide2 fun R hR => ?_; simp [go_sem, hcz, hco, z1, z2, bc hP hw00, bc hP vj2, bc hP vj3, hk8, hkb8, hti]; refine hR _ _ _ ?_; clear hR R)
      rw [seqX_nil]
      refine hK _ _ _ ?_; clear hK K
      refine hN9 _ _ _ ?_
      simp [go_sem, hcz, hco, z1, z2, bc hP hw00, bc hP vj2, bc hP vj3, hk8, hkb8, hti]
      exact View.le_trans hA (le_ov hP)
    have hti : x.tag.toList = [33, 33, 115, 116, 114] := by rw [htg]; kernel_rfl
    by_cases hxv : x.value = sv
    · have hml : mfl t.kids nm sv = some x := by rw [mfl, hfo, Option.bind_some, if_pos hxv]
      have hw : Trs A4 (.slice (some a2) 1 cap') (opt1 (mfl t.kids nm sv)) := by rw [hml]; exact hv70
      have hxl : x.value.toList = sv.toList := by rw [hxv]
      refine hR _ _ _ ?_; clear hR R
      (refine seqX_hide2 fun R hR => ?_; simp [go_sem, hcz, hco, z1, z2, bc hP hw00, bc hP vj2, bc hP vj3, hk8, hkb8, hti, hxl]; refine hR _ _ _ ?_; clear hR R)
      rw [seqX_nil]
      refine hK _ _ _ ?_; clear hK K
      refine hN6 _ _ _ ?_
      refine xc_two fun N7 hN7 => ?_
      refine xc_two fun N8 hN8 => ?_
      refine xc_reg1 17 rfl fun K hK => ?_
      simp only [show (List.range 17).map (·, true) = [(0, true), (1, true), (2, true), (3, true), (4, true), (5, true), (6, true), (7, true), (8, true), (9, true), (10, true), (11, true), (12, true), (13, true), (14, true), (15, true), (16, true)] from rfl, rslv_cons, rslv_nil, List.getElem?_toArray, List.getElem?_cons_zero, List.getElem?_cons_succ, gres]
      iterate 17 (refine seqX_hide2 fun R hR => ?_; simp [go_sem, hcz, hco, z1, z2, bc hP hw00, bc hP vj2, bc hP vj3, hk8, hkb8, hti, hxl]; refine hR _ _ _ ?_; clear hR R)
      rw [seqX_nil]
      refine hK _ _ _ ?_; clear hK K
      refine hN8 _ _ _ ?_
      refine xc_iffalse (by simp [go_sem, hcz, hco, z1, z2, bc hP hw00, bc hP vj2, bc hP vj3, hk8, hkb8, hti, hxl]) ?_
      refine hN7 _ _ _ ?_
      refine xc_two fun N9 hN9 => ?_
      refine xc_two fun N10 hN10 => ?_
      refine xc_reg1 11 rfl fun K hK => ?_
      simp only [show (List.range 11).map (·, true) = [(0, true), (1, true), (2, true), (3, true), (4, true), (5, true), (6, true), (7, true), (8, true), (9, true), (10, true)] from rfl, rslv_cons, rslv_nil, List.getElem?_toArray, List.getElem?_cons_zero, List.getElem?_cons_succ, gres]
      iterate 11 (refine seqX_hide2 fun R hR => ?_; simp [go_sem, hcz, hco, z1, z2, bc hP hw00, bc hP vj2, bc hP vj3, hk8, hkb8, hti, hxl]; refine hR _ _ _ ?_; clear hR R)
      rw [seqX_nil]
      refine hK _ _ _ ?_; clear hK K
      refine hN10 _ _ _ ?_
      refine xc_iffalse (by simp [go_sem, hcz, hco, z1, z2, bc hP hw00, bc hP vj2, bc hP vj3, hk8, hkb8, hti, hxl]) ?_
      refine hN9 _ _ _ ?_
      refine xc_two fun N11 hN11 => ?_
      refine xc_reg1 12 rfl fun K hK => ?_
      simp only [show (List.range 12).map (·, true) = [(0, true), (1, true), (2, true), (3, true), (4, true), (5, true), (6, true), (7, true), (8, true), (9, true), (10, true), (11, true)] from rfl, rslv_cons, rslv_nil, List.getElem?_toArray, List.getElem?_cons_zero, List.getElem?_cons_succ, gres]
      iterate 3 (refine seqX_hide2 fun R hR => ?_; simp [go_sem, hcz, hco, z1, z2, bc hP hw00, bc hP vj2, bc hP vj3, hk8, hkb8, hti, hxl]; refine hR _ _ _ ?_; clear hR R)
      refine seqX_hide2 fun R hR => ?_
      simp [go_sem, hcz, hco, z1, z2, bc hP hw00, bc hP vj2, bc hP vj3, hk8, hkb8, hti, hxl]
      refine call_ov hP (matchField32 A4 t 12 c nm sv (hc.le hA) hpl.pt (by omega) (by omega) hk (by rw [htag]; decide) hev hkl (wd_ne hwn)) ?_
      clear hP
      rintro _ A5 ⟨c5, fv, rfl, hc5, hfv, hA5⟩ hP
      have hcz5 := hc5.size
      have hco5 := hc5.ones
      obtain ⟨fb, fc, rfl⟩ := hfv.slice
      refine hR _ _ _ ?_; clear hR R
      iterate 4 (refine seqX_hide2 fun R hR => ?_; simp [go_sem, hcz, hco, z1, z2, hk8, hkb8, hti, hxl, hcz5, hco5]; refine hR _ _ _ ?_; clear hR R)
      refine seqX_hide2 fun R hR => ?_
      simp [go_sem, hcz, hco, z1, z2, hk8, hkb8, hti, hxl, hcz5, hco5]
      intro q8 hq8
      replace hP := hP.cons hq8
      clear hq8
      have d83 : q8 ≠ q3 := (hP.ne q3 (by simp [addrs])).1
      have d38 : q3 ≠ q8 := (hP.ne q3 (by simp [addrs])).2
      refine hR _ _ _ ?_; clear hR R
      refine seqX_hide2 fun R hR => ?_
      simp [go_sem, hcz, hco, z1, z2, hk8, hkb8, hti, hxl, hcz5, hco5, d83, d38]
      refine hR _ _ _ ?_; clear hR R
      iterate 2 (refine seqX_hide2 fun R hR => ?_; simp [go_sem, hcz, hco, z1, z2, hk8, hkb8, hti, hxl, hcz5, hco5, d83, d38]; refine hR _ _ _ ?_; clear hR R)
      rw [seqX_nil]
      refine hK _ _ _ ?_; clear hK K
      refine hN11 _ _ _ ?_
      refine xc_two fun N12 hN12 => ?_
      refine xc_reg1 16 rfl fun K hK => ?_
      simp only [show (List.range 16).map (·, true) = [(0, true), (1, true), (2, true), (3, true), (4, true), (5, true), (6, true), (7, true), (8, true), (9, true), (10, true), (11, true), (12, true), (13, true), (14, true), (15, true)] from rfl, rslv_cons, rslv_nil, List.getElem?_toArray, List.getElem?_cons_zero, List.getElem?_cons_succ, gres]
      iterate 5 (refine seqX_hide2 fun R hR => ?_; simp [go_sem, hcz, hco, z1, z2, hk8, hkb8, hti, hxl, hcz5, hco5, d83, d38]; refine hR _ _ _ ?_; clear hR R)
      refine seqX_hide2 fun R hR => ?_
      simp [go_sem, hcz, hco, z1, z2, hk8, hkb8, hti, hxl, hcz5, hco5, d83, d38]
      have hA := View.le_trans hA hA5
      refine call_ov hP (same14 t A5 t c5 c hc5 (hc.le hA) (Same.refl t) (by omega)) ?_
      clear hP
      rintro _ A6 ⟨rfl, hA6⟩ hP
      refine hR _ _ _ ?_; clear hR R
      iterate 4 (refine seqX_hide2 fun R hR => ?_; simp [go_sem, hcz, hco, z1, z2, hk8, hkb8, hti, hxl, hcz5, hco5, d83, d38]; refine hR _ _ _ ?_; clear hR R)
      refine seqX_hide2 fun R hR => ?_
      simp [go_sem, hcz, hco, z1, z2, hk8, hkb8, hti, hxl, hcz5, hco5, d83, d38]
      refine call_ov hP (sames27 A6 _ _ (opt1 (mfl t.kids nm sv)) (hfv.le hA6) ((hw.le hA5).le hA6) ?_ ?_) ?_
      · cases mfl t.kids nm sv <;> simp [opt1]
      · intro y hy
        cases hm : mfl t.kids nm sv with
        | none => rw [hm] at hy; cases hy
        | some z =>
          rw [hm] at hy
          obtain rfl : y = z := List.mem_singleton.1 hy
          have := nds_kid' (fld_mem (mfl_fld hm).1)
          omega
      clear hP
      rintro _ A7 ⟨rfl, hA7⟩ hP
      refine hR _ _ _ ?_; clear hR R
      iterate 2 (refine seqX_hide2 fun R hR => ?_; simp [go_sem, hcz, hco, z1, z2, hk8, hkb8, hti, hxl, hcz5, hco5, d83, d38]; refine hR _ _ _ ?_; clear hR R)
      refine seqX_hide2 fun R hR => ?_
      simp [go_sem, hcz, hco, z1, z2, hk8, hkb8, hti, hxl, hcz5, hco5, d83, d38]
      refine call_ov hP (lives28 A7) ?_
      clear hP
      rintro _ A8 ⟨rfl, hA8⟩ hP
      refine hR _ _ _ ?_; clear hR R
      iterate 2 (refine seqX_hide2 fun R hR => ?_; simp [go_sem, hcz, hco, z1, z2, hk8, hkb8, hti, hxl, hcz5, hco5, d83, d38]; refine hR _ _ _ ?_; clear hR R)
      rw [seqX_nil]
      refine hK _ _ _ ?_; clear hK K
      refine hN12 _ _ _ ?_
      simp [go_sem, hcz, hco, z1, z2, hk8, hkb8, hti, hxl, hcz5, hco5, d83, d38]
      exact View.le_trans hA (View.le_trans hA6 (View.le_trans hA7 (View.le_trans hA8 (le_ov hP))))
    have hml : mfl t.kids nm sv = none := by rw [mfl, hfo, Option.bind_some, if_neg hxv]
    have hw : Trs A4 (.slice none 0 0) (opt1 (mfl t.kids nm sv)) := by rw [hml]; exact Elems.nil _ _ _
    have hxl := bytes_ne hxv
    refine hR _ _ _ ?_; clear hR R
    (refine seqX_hide2 fun R hR => ?_; simp [go_sem, hcz, hco, z1, z2, bc hP hw00, bc hP vj2, bc hP vj3, hk8, hkb8, hti, hxl]; refine hR _ _ _ ?_; clear hR R)
    rw [seqX_nil]
    refine hK _ _ _ ?_; clear hK K
    refine hN6 _ _ _ ?_
    refine xc_two fun N7 hN7 => ?_
    refine xc_two fun N8 hN8 => ?_
    refine xc_reg1 17 rfl fun K hK => ?_
    simp only [show (List.range 17).map (·, true) = [(0, true), (1, true), (2, true), (3, true), (4, true), (5, true), (6, true), (7, true), (8, true), (9, true), (10, true), (11, true), (12, true), (13, true), (14, true), (15, true), (16, true)] from rfl, rslv_cons, rslv_nil, List.getElem?_toArray, List.getElem?_cons_zero, List.getElem?_cons_succ, gres]
    iterate 17 (refine seqX_hide2 fun R hR => ?_; simp [go_sem, hcz, hco, z1, z2, bc hP hw00, bc hP vj2, bc hP vj3, hk8, hkb8, hti, hxl]; refine hR _ _ _ ?_; clear hR R)
    rw [seqX_nil]
    refine hK _ _ _ ?_; clear hK K
    refine hN8 _ _ _ ?_
    refine xc_iffalse (by simp [go_sem, hcz, hco, z1, z2, bc hP hw00, bc hP vj2, bc hP vj3, hk8, hkb8, hti, hxl]) ?_
    refine hN7 _ _ _ ?_
    refine xc_two fun N9 hN9 => ?_
    refine xc_two fun N10 hN10 => ?_
    refine xc_reg1 11 rfl fun K hK => ?_
    simp only [show (List.range 11).map (·, true) = [(0, true), (1, true), (2, true), (3, true), (4, true), (5, true), (6, true), (7, true), (8, true), (9, true), (10, true)] from rfl, rslv_cons, rslv_nil, List.getElem?_toArray, List.getElem?_cons_zero, List.getElem?_cons_succ, gres]
    iterate 11 (refine seqX_hide2 fun R hR => ?_; simp [go_sem, hcz, hco, z1, z2, bc hP hw00, bc hP vj2, bc hP vj3, hk8, hkb8, hti, hxl]; refine hR _ _ _ ?_; clear hR R)
    rw [seqX_nil]
    refine hK _ _ _ ?_; clear hK K
    refine hN10 _ _ _ ?_
    refine xc_iftrue (by simp [go_sem, hcz, hco, z1, z2, bc hP hw00, bc hP vj2, bc hP vj3, hk8, hkb8, hti, hxl]) ?_
    refine xc_reg1 1 rfl fun K hK => ?_
    simp only [show (List.range 1).map (·, true) = [(0, true)] from rfl, rslv_cons, rslv_nil, List.getElem?_toArray, List.getElem?_cons_zero, List.getElem?_cons_succ, gres]
    (refine seqX_hide2 fun R hR => ?_; simp [go_sem, hcz, hco, z1, z2, bc hP hw00, bc hP vj2, bc hP vj3, hk8, hkb8, hti, hxl]; refine hR _ _ _ ?_; clear hR R)
    rw [seqX_nil]
    refine hK _ _ _ ?_; clear hK K
    refine hN9 _ _ _ ?_
    refine xc_two fun N11 hN11 => ?_
    refine xc_reg1 12 rfl fun K hK => ?_
    simp only [show (List.range 12).map (·, true) = [(0, true), (1, true), (2, true), (3, true), (4, true), (5, true), (6, true), (7, true), (8, true), (9, true), (10, true), (11, true)] from rfl, rslv_cons, rslv_nil, List.getElem?_toArray, List.getElem?_cons_zero, List.getElem?_cons_succ, gres]
    iterate 3 (refine seqX_hide2 fun R hR => ?_; simp [go_sem, hcz, hco, z1, z2, bc hP hw00, bc hP vj2, bc hP vj3, hk8, hkb8, hti, hxl]; refine hR _ _ _ ?_; clear hR R)
    refine seqX_hide2 fun R hR => ?_
    simp [go_sem, hcz, hco, z1, z2, bc hP hw00, bc hP vj2, bc hP vj3, hk8, hkb8, hti, hxl]
    refine call_ov hP (matchField32 A4 t 12 c nm sv (hc.le hA) hpl.pt (by omega) (by omega) hk (by rw [htag]; decide) hev hkl (wd_ne hwn)) ?_
    clear hP
    rintro _ A5 ⟨c5, fv, rfl, hc5, hfv, hA5⟩ hP
    have hcz5 := hc5.size
    have hco5 := hc5.ones
    obtain ⟨fb, fc, rfl⟩ := hfv.slice
    refine hR _ _ _ ?_; clear hR R
    iterate 4 (refine seqX_hide2 fun R hR => ?_; simp [go_sem, hcz, hco, z1, z2, hk8, hkb8, hti, hxl, hcz5, hco5]; refine hR _ _ _ ?_; clear hR R)
    refine seqX_hide2 fun R hR => ?_
    simp [go_sem, hcz, hco, z1, z2, hk8, hkb8, hti, hxl, hcz5, hco5]
    intro q8 hq8
    replace hP := hP.cons hq8
    clear hq8
    have d83 : q8 ≠ q3 := (hP.ne q3 (by simp [addrs])).1
    have d38 : q3 ≠ q8 := (hP.ne q3 (by simp [addrs])).2
    refine hR _ _ _ ?_; clear hR R
    refine seqX_hide2 fun R hR => ?_
    simp [go_sem, hcz, hco, z1, z2, hk8, hkb8, hti, hxl, hcz5, hco5, d83, d38]
    refine hR _ _ _ ?_; clear hR R
    iterate 2 (refine seqX_hide2 fun R hR => ?_; simp [go_sem, hcz, hco, z1, z2, hk8, hkb8, hti, hxl, hcz5, hco5, d83, d38]; refine hR _ _ _ ?_; clear hR R)
    rw [seqX_nil]
    refine hK _ _ _ ?_; clear hK K
    refine hN11 _ _ _ ?_
    refine xc_two fun N12 hN12 => ?_
    refine xc_reg1 16 rfl fun K hK => ?_
    simp only [show (List.range 16).map (·, true) = [(0, true), (1, true), (2, true), (3, true), (4, true), (5, true), (6, true), (7, true), (8, true), (9, true), (10, true), (11, true), (12, true), (13, true), (14, true), (15, true)] from rfl, rslv_cons, rslv_nil, List.getElem?_toArray, List.getElem?_cons_zero, List.getElem?_cons_succ, gres]
    iterate 5 (refine seqX_hide2 fun R hR => ?_; simp [go_sem, hcz, hco, z1, z2, hk8, hkb8, hti, hxl, hcz5, hco5, d83, d38]; refine hR _ _ _ ?_; clear hR R)
    refine seqX_hide2 fun R hR => ?_
    simp [go_sem, hcz, hco, z1, z2, hk8, hkb8, hti, hxl, hcz5, hco5, d83, d38]
    have hA := View.le_trans hA hA5
    refine call_ov hP (same14 t A5 t c5 c hc5 (hc.le hA) (Same.refl t) (by omega)) ?_
    clear hP
    rintro _ A6 ⟨rfl, hA6⟩ hP
    refine hR _ _ _ ?_; clear hR R
    iterate 4 (refine seqX_hide2 fun R hR => ?_; simp [go_sem, hcz, hco, z1, z2, hk8, hkb8, hti, hxl, hcz5, hco5, d83, d38]; refine hR _ _ _ ?_; clear hR R)
    refine seqX_hide2 fun R hR => ?_
    simp [go_sem, hcz, hco, z1, z2, hk8, hkb8, hti, hxl, hcz5, hco5, d83, d38]
    refine call_ov hP (sames27 A6 _ _ (opt1 (mfl t.kids nm sv)) (hfv.le hA6) ((hw.le hA5).le hA6) ?_ ?_) ?_
    · cases mfl t.kids nm sv <;> simp [opt1]
    · intro y hy
      cases hm : mfl t.kids nm sv with
      | none => rw [hm] at hy; cases hy
      | some z =>
        rw [hm] at hy
        obtain rfl : y = z := List.mem_singleton.1 hy
        have := nds_kid' (fld_mem (mfl_fld hm).1)
        omega
    clear hP
    rintro _ A7 ⟨rfl, hA7⟩ hP
    refine hR _ _ _ ?_; clear hR R
    iterate 2 (refine seqX_hide2 fun R hR => ?_; simp [go_sem, hcz, hco, z1, z2, hk8, hkb8, hti, hxl, hcz5, hco5, d83, d38]; refine hR _ _ _ ?_; clear hR R)
    refine seqX_hide2 fun R hR => ?_
    simp [go_sem, hcz, hco, z1, z2, hk8, hkb8, hti, hxl, hcz5, hco5, d83, d38]
    refine call_ov hP (lives28 A7) ?_
    clear hP
    rintro _ A8 ⟨rfl, hA8⟩ hP
    refine hR _ _ _ ?_; clear hR R
    iterate 2 (refine seqX_hide2 fun R hR => ?_; simp [go_sem, hcz, hco, z1, z2, hk8, hkb8, hti, hxl, hcz5, hco5, d83, d38]; refine hR _ _ _ ?_; clear hR R)
    rw [seqX_nil]
    refine hK _ _ _ ?_; clear hK K
    refine hN12 _ _ _ ?_
    simp [go_sem, hcz, hco, z1, z2, hk8, hkb8, hti, hxl, hcz5, hco5, d83, d38]
    exact View.le_trans hA (View.le_trans hA6 (View.le_trans hA7 (View.le_trans hA8 (le_ov hP))))
theorem law7 (W : World) (c : Array Value) (t : Tr) (h : IsTr (full W) t c ∧ SB t) (nm : ByteArray) (hn : nm.size ≤ 140737488351232) (sv : ByteArray) (hs : sv.size ≤ 140737488351232) : VCalls Try.prog 7 #[.agg c, .string nm, .string sv] (full W) fun r A' => r = .bool true ∧ full W ≤ A' := match7 (full W) c t nm sv h
end Go.Proofs.YtpinamipjddobaaV

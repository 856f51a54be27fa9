/- Roads: law 4 (FnRoadPrefix). -/
import Derived.Test.YtpinamipjddobaaRC
namespace Go.Proofs.YtpinamipjddobaaV
open Go.RowKit
set_option linter.unusedSimpArgs false
set_option linter.unusedVariables false
theorem pt_tn (s : ByteArray) {lv : Nat} (h : 0 < lv) : PT lv (tn s) := by
  rw [tn, PT]
  exact ⟨h, ⟨rfl, rfl⟩, .inl rfl, fun j hj => absurd hj (Nat.not_lt_zero _)⟩
theorem nds_tn (s : ByteArray) : nds (tn s) = 1 := by
  rw [tn, nds_mk]
  rfl
set_option maxRecDepth 20000 in
theorem word6 (A : View) (s : ByteArray) (hs : s.size ≤ 1125899906842624) : VCalls Try.prog 20 #[.string s] A fun r A' => FB (Wd s) r ∧ A' = A := by
  refine xcalls Try.func20 rfl (by simp [Try.ntmps20]) ?_
  simp only [Try.f20]
  have hP : Priv A (addrs []) := Priv.nil A
  show xc _ _ _ _ _ _ (ov A [])
  refine xc_two fun N1 hN1 => ?_
  refine xc_reg1 1 rfl fun K hK => ?_
  simp only [show (List.range 1).map (·, true) = [(0, true)] from rfl, rslv_cons, rslv_nil, List.getElem?_toArray, List.getElem?_cons_zero, List.getElem?_cons_succ, gres]
  (refine seqX_hide2 fun R hR => ?_; simp [go_sem]; refine hR _ _ _ ?_; clear hR R)
  rw [seqX_nil]
  refine hK _ _ _ ?_; clear hK K
  refine hN1 _ _ _ ?_
  refine xc_two fun N2 hN2 => ?_
  refine xc_reg1 3 rfl fun K hK => ?_
  simp only [show (List.range 3).map (·, true) = [(0, true), (1, true), (2, true)] from rfl, rslv_cons, rslv_nil, List.getElem?_toArray, List.getElem?_cons_zero, List.getElem?_cons_succ, gres]
  (refine seqX_hide2 fun R hR => ?_; simp [go_sem]; refine hR _ _ _ ?_; clear hR R)
  refine seqX_hide2 fun R hR => ?_
  simp [go_sem]
  refine call_same hP (word A s hs) ?_
  rintro r hr
  refine hR _ _ _ ?_; clear hR R
  (refine seqX_hide2 fun R hR => ?_; simp [go_sem]; refine hR _ _ _ ?_; clear hR R)
  rw [seqX_nil]
  refine hK _ _ _ ?_; clear hK K
  refine hN2 _ _ _ ?_
  simp [go_sem]
  exact ⟨hr, rfl⟩
theorem tn_open {A : View} {s : ByteArray} {c : Array Value} (h : IsTr A (tn s) c) : ∃ bs cap, c = trc 8 0 tStr s e0 e0 e0 e0 0 0 (-1) (.slice bs 0 cap) := by
  obtain ⟨bs, cap, e, -⟩ := IsTr.open h
  exact ⟨bs, cap, e⟩
set_option maxRecDepth 20000 in
set_option maxHeartbeats 400000 in
theorem road4 (A : View) (s m : ByteArray) : VCalls Try.prog 4 #[.string s, .string m] A fun r A' => r = .bool true ∧ A ≤ A' := by
  refine xcalls Try.func4 rfl (by simp [Try.ntmps4]) ?_
  simp only [Try.f4]
  have hP : Priv A (addrs []) := Priv.nil A
  show xc _ _ _ _ _ _ (ov A [])
  refine xc_two fun N1 hN1 => ?_
  refine xc_reg1 1 rfl fun K hK => ?_
  simp only [show (List.range 1).map (·, true) = [(0, true)] from rfl, rslv_cons, rslv_nil, List.getElem?_toArray, List.getElem?_cons_zero, List.getElem?_cons_succ, gres]
  (refine seqX_hide2 fun R hR => ?_; simp [go_sem]; refine hR _ _ _ ?_; clear hR R)
  rw [seqX_nil]
  refine hK _ _ _ ?_; clear hK K
  refine hN1 _ _ _ ?_
  refine xc_two fun N2 hN2 => ?_
  refine xc_two fun N3 hN3 => ?_
  by_cases h0 : s.size ≤ 2147483647
  rotate_left
  · have z0 : (2147483647 : Int) < s.size := by omega
    refine xc_reg1 8 rfl fun K hK => ?_
    simp only [show (List.range 8).map (·, true) = [(0, true), (1, true), (2, true), (3, true), (4, true), (5, true), (6, true), (7, true)] from rfl, rslv_cons, rslv_nil, List.getElem?_toArray, List.getElem?_cons_zero, List.getElem?_cons_succ, gres]
    iterate 8 (refine seqX_hide2 fun R hR => ?_; simp [go_sem, z0]; refine hR _ _ _ ?_; clear hR R)
    rw [seqX_nil]
    refine hK _ _ _ ?_; clear hK K
    refine hN3 _ _ _ ?_
    refine xc_iftrue (by simp [go_sem, z0]) ?_
    refine xc_two fun N4 hN4 => ?_
    refine xc_reg1 1 rfl fun K hK => ?_
    simp only [show (List.range 1).map (·, true) = [(0, true)] from rfl, rslv_cons, rslv_nil, List.getElem?_toArray, List.getElem?_cons_zero, List.getElem?_cons_succ, gres]
    (refine seqX_hide2 fun R hR => ?_; simp [go_sem, z0]; refine hR _ _ _ ?_; clear hR R)
    rw [seqX_nil]
    refine hK _ _ _ ?_; clear hK K
    refine hN4 _ _ _ ?_
    simp [go_sem, z0]
    exact View.le_refl _
  have z0 : ¬ (2147483647 : Int) < s.size := by omega
  by_cases h1 : m.size ≤ 2147483647
  rotate_left
  · have z1 : (2147483647 : Int) < m.size := by omega
    refine xc_reg1 8 rfl fun K hK => ?_
    simp only [show (List.range 8).map (·, true) = [(0, true), (1, true), (2, true), (3, true), (4, true), (5, true), (6, true), (7, true)] from rfl, rslv_cons, rslv_nil, List.getElem?_toArray, List.getElem?_cons_zero, List.getElem?_cons_succ, gres]
    iterate 8 (refine seqX_hide2 fun R hR => ?_; simp [go_sem, z0, z1]; refine hR _ _ _ ?_; clear hR R)
    rw [seqX_nil]
    refine hK _ _ _ ?_; clear hK K
    refine hN3 _ _ _ ?_
    refine xc_iftrue (by simp [go_sem, z0, z1]) ?_
    refine xc_two fun N4 hN4 => ?_
    refine xc_reg1 1 rfl fun K hK => ?_
    simp only [show (List.range 1).map (·, true) = [(0, true)] from rfl, rslv_cons, rslv_nil, List.getElem?_toArray, List.getElem?_cons_zero, List.getElem?_cons_succ, gres]
    (refine seqX_hide2 fun R hR => ?_; simp [go_sem, z0, z1]; refine hR _ _ _ ?_; clear hR R)
    rw [seqX_nil]
    refine hK _ _ _ ?_; clear hK K
    refine hN4 _ _ _ ?_
    simp [go_sem, z0, z1]
    exact View.le_refl _
  have z1 : ¬ (2147483647 : Int) < m.size := by omega
  refine xc_reg1 8 rfl fun K hK => ?_
  simp only [show (List.range 8).map (·, true) = [(0, true), (1, true), (2, true), (3, true), (4, true), (5, true), (6, true), (7, true)] from rfl, rslv_cons, rslv_nil, List.getElem?_toArray, List.getElem?_cons_zero, List.getElem?_cons_succ, gres]
  iterate 8 (refine seqX_hide2 fun R hR => ?_; simp [go_sem, z0, z1]; refine hR _ _ _ ?_; clear hR R)
  rw [seqX_nil]
  refine hK _ _ _ ?_; clear hK K
  refine hN3 _ _ _ ?_
  refine xc_iffalse (by simp [go_sem, z0, z1]) ?_
  refine hN2 _ _ _ ?_
  refine xc_two fun N4 hN4 => ?_
  refine xc_two fun N5 hN5 => ?_
  refine xc_reg1 8 rfl fun K hK => ?_
  simp only [show (List.range 8).map (·, true) = [(0, true), (1, true), (2, true), (3, true), (4, true), (5, true), (6, true), (7, true)] from rfl, rslv_cons, rslv_nil, List.getElem?_toArray, List.getElem?_cons_zero, List.getElem?_cons_succ, gres]
  (refine seqX_hide2 fun R hR => ?_; simp [go_sem, z0, z1]; refine hR _ _ _ ?_; clear hR R)
  refine seqX_hide2 fun R hR => ?_
  simp [go_sem, z0, z1]
  refine call_same hP (word6 A s (by omega)) ?_
  rintro _ ⟨b, rfl, hb⟩
  cases b with
  | false =>
    refine hR _ _ _ ?_; clear hR R
    iterate 3 (refine seqX_hide2 fun R hR => ?_; simp [go_sem, z0, z1]; refine hR _ _ _ ?_; clear hR R)
    refine seqX_hide2 fun R hR => ?_
    simp [go_sem, z0, z1]
    refine hR _ _ _ ?_; clear hR R
    iterate 2 (refine seqX_hide2 fun R hR => ?_; simp [go_sem, z0, z1]; refine hR _ _ _ ?_; clear hR R)
    rw [seqX_nil]
    refine hK _ _ _ ?_; clear hK K
    refine hN5 _ _ _ ?_
    refine xc_iftrue (by simp [go_sem, z0, z1]) ?_
    refine xc_two fun N6 hN6 => ?_
    refine xc_reg1 1 rfl fun K hK => ?_
    simp only [show (List.range 1).map (·, true) = [(0, true)] from rfl, rslv_cons, rslv_nil, List.getElem?_toArray, List.getElem?_cons_zero, List.getElem?_cons_succ, gres]
    (refine seqX_hide2 fun R hR => ?_; simp [go_sem, z0, z1]; refine hR _ _ _ ?_; clear hR R)
    rw [seqX_nil]
    refine hK _ _ _ ?_; clear hK K
    refine hN6 _ _ _ ?_
    simp [go_sem, z0, z1]
    exact View.le_refl _
  | true =>
  have ws := hb rfl
  refine hR _ _ _ ?_; clear hR R
  iterate 3 (refine seqX_hide2 fun R hR => ?_; simp [go_sem, z0, z1]; refine hR _ _ _ ?_; clear hR R)
  refine seqX_hide2 fun R hR => ?_
  simp [go_sem, z0, z1]
  refine call_same hP (word6 A m (by omega)) ?_
  rintro _ ⟨b2, rfl, hb2⟩
  cases b2 with
  | false =>
    refine hR _ _ _ ?_; clear hR R
    iterate 2 (refine seqX_hide2 fun R hR => ?_; simp [go_sem, z0, z1]; refine hR _ _ _ ?_; clear hR R)
    rw [seqX_nil]
    refine hK _ _ _ ?_; clear hK K
    refine hN5 _ _ _ ?_
    refine xc_iftrue (by simp [go_sem, z0, z1]) ?_
    refine xc_two fun N6 hN6 => ?_
    refine xc_reg1 1 rfl fun K hK => ?_
    simp only [show (List.range 1).map (·, true) = [(0, true)] from rfl, rslv_cons, rslv_nil, List.getElem?_toArray, List.getElem?_cons_zero, List.getElem?_cons_succ, gres]
    (refine seqX_hide2 fun R hR => ?_; simp [go_sem, z0, z1]; refine hR _ _ _ ?_; clear hR R)
    rw [seqX_nil]
    refine hK _ _ _ ?_; clear hK K
    refine hN6 _ _ _ ?_
    simp [go_sem, z0, z1]
    exact View.le_refl _
  | true =>
  have wm := hb2 rfl
  have zs := ws.2.1
  have zm := wm.2.1
  have zp := prf_size s m
  have zq := suf_size s m
  refine hR _ _ _ ?_; clear hR R
  iterate 2 (refine seqX_hide2 fun R hR => ?_; simp [go_sem, z0, z1]; refine hR _ _ _ ?_; clear hR R)
  rw [seqX_nil]
  refine hK _ _ _ ?_; clear hK K
  refine hN5 _ _ _ ?_
  refine xc_iffalse (by simp [go_sem, z0, z1]) ?_
  refine hN4 _ _ _ ?_
  refine xc_two fun N6 hN6 => ?_
  refine xc_reg1 12 rfl fun K hK => ?_
  simp only [show (List.range 12).map (·, true) = [(0, true), (1, true), (2, true), (3, true), (4, true), (5, true), (6, true), (7, true), (8, true), (9, true), (10, true), (11, true)] from rfl, rslv_cons, rslv_nil, List.getElem?_toArray, List.getElem?_cons_zero, List.getElem?_cons_succ, gres]
  (refine seqX_hide2 fun R hR => ?_; simp [go_sem, z0, z1]; refine hR _ _ _ ?_; clear hR R)
  refine seqX_hide2 fun R hR => ?_
  simp [go_sem, z0, z1]
  refine call_ov hP (text16 A s) ?_
  clear hP
  rintro _ A1 ⟨rfl, hA1⟩ hP
  refine hR _ _ _ ?_; clear hR R
  (refine seqX_hide2 fun R hR => ?_; simp [go_sem, z0, z1]; refine hR _ _ _ ?_; clear hR R)
  refine seqX_hide2 fun R hR => ?_
  simp [go_sem, z0, z1]
  refine call_ov hP (add_pfx A1 (tn s) 12 _ m (text_is A1 s) (pt_tn _ (by omega)) (by rw [nds_tn]; omega) (by omega) (by show s.size + m.size ≤ 1000000000; omega)) ?_
  clear hP
  rintro _ A2 ⟨c1, fv1, rfl, hc1, hA2⟩ hP
  replace hc1 : IsTr A2 (tn (prf s m)) c1 := hc1
  obtain ⟨b1, k1, rfl⟩ := tn_open hc1
  refine hR _ _ _ ?_; clear hR R
  iterate 4 (refine seqX_hide2 fun R hR => ?_; simp [go_sem, z0, z1]; refine hR _ _ _ ?_; clear hR R)
  refine seqX_hide2 fun R hR => ?_
  simp [go_sem, z0, z1]
  intro q5 hq5
  replace hP := hP.cons hq5
  clear hq5
  refine hR _ _ _ ?_; clear hR R
  refine seqX_hide2 fun R hR => ?_
  simp [go_sem, z0, z1]
  refine hR _ _ _ ?_; clear hR R
  iterate 2 (refine seqX_hide2 fun R hR => ?_; simp [go_sem, z0, z1]; refine hR _ _ _ ?_; clear hR R)
  rw [seqX_nil]
  refine hK _ _ _ ?_; clear hK K
  refine hN6 _ _ _ ?_
  refine xc_two fun N7 hN7 => ?_
  refine xc_reg1 11 rfl fun K hK => ?_
  simp only [show (List.range 11).map (·, true) = [(0, true), (1, true), (2, true), (3, true), (4, true), (5, true), (6, true), (7, true), (8, true), (9, true), (10, true)] from rfl, rslv_cons, rslv_nil, List.getElem?_toArray, List.getElem?_cons_zero, List.getElem?_cons_succ, gres]
  iterate 2 (refine seqX_hide2 fun R hR => ?_; simp [go_sem, z0, z1]; refine hR _ _ _ ?_; clear hR R)
  refine seqX_hide2 fun R hR => ?_
  simp [go_sem, z0, z1]
  refine call_ov hP (add_pfx A2 (tn (prf s m)) 12 _ m hc1 (pt_tn _ (by omega)) (by rw [nds_tn]; omega) (by omega) (by show (prf s m).size + m.size ≤ 1000000000; omega)) ?_
  clear hP
  rintro _ A3 ⟨c2, fv2, rfl, hc2, hA3⟩ hP
  replace hc2 : IsTr A3 (tn (prf (prf s m) m)) c2 := hc2
  rw [prf_twice] at hc2
  obtain ⟨b2, k2, rfl⟩ := tn_open hc2
  have hA3 := View.le_trans hA1 (View.le_trans hA2 hA3)
  refine hR _ _ _ ?_; clear hR R
  iterate 4 (refine seqX_hide2 fun R hR => ?_; simp [go_sem, z0, z1]; refine hR _ _ _ ?_; clear hR R)
  refine seqX_hide2 fun R hR => ?_
  simp [go_sem, z0, z1]
  intro q8 hq8
  replace hP := hP.cons hq8
  clear hq8
  have d85 : q8 ≠ q5 := (hP.ne q5 (by simp [addrs])).1
  have d58 : q5 ≠ q8 := (hP.ne q5 (by simp [addrs])).2
  refine hR _ _ _ ?_; clear hR R
  refine seqX_hide2 fun R hR => ?_
  simp [go_sem, z0, z1, d85, d58]
  refine hR _ _ _ ?_; clear hR R
  iterate 2 (refine seqX_hide2 fun R hR => ?_; simp [go_sem, z0, z1, d85, d58]; refine hR _ _ _ ?_; clear hR R)
  rw [seqX_nil]
  refine hK _ _ _ ?_; clear hK K
  refine hN7 _ _ _ ?_
  refine xc_two fun N8 hN8 => ?_
  refine xc_reg1 12 rfl fun K hK => ?_
  simp only [show (List.range 12).map (·, true) = [(0, true), (1, true), (2, true), (3, true), (4, true), (5, true), (6, true), (7, true), (8, true), (9, true), (10, true), (11, true)] from rfl, rslv_cons, rslv_nil, List.getElem?_toArray, List.getElem?_cons_zero, List.getElem?_cons_succ, gres]
  (refine seqX_hide2 fun R hR => ?_; simp [go_sem, z0, z1, d85, d58]; refine hR _ _ _ ?_; clear hR R)
  refine seqX_hide2 fun R hR => ?_
  simp [go_sem, z0, z1, d85, d58]
  refine call_ov hP (text16 A3 s) ?_
  clear hP
  rintro _ A4 ⟨rfl, hA4⟩ hP
  refine hR _ _ _ ?_; clear hR R
  (refine seqX_hide2 fun R hR => ?_; simp [go_sem, z0, z1, d85, d58]; refine hR _ _ _ ?_; clear hR R)
  refine seqX_hide2 fun R hR => ?_
  simp [go_sem, z0, z1, d85, d58]
  refine call_ov hP (add_sfx A4 (tn s) 12 _ m (text_is A4 s) (pt_tn _ (by omega)) (by rw [nds_tn]; omega) (by omega) (by show s.size + m.size ≤ 1000000000; omega)) ?_
  clear hP
  rintro _ A5 ⟨c3, fv3, rfl, hc3, hA5⟩ hP
  replace hc3 : IsTr A5 (tn (suf s m)) c3 := hc3
  obtain ⟨b3, k3, rfl⟩ := tn_open hc3
  refine hR _ _ _ ?_; clear hR R
  iterate 4 (refine seqX_hide2 fun R hR => ?_; simp [go_sem, z0, z1, d85, d58]; refine hR _ _ _ ?_; clear hR R)
  refine seqX_hide2 fun R hR => ?_
  simp [go_sem, z0, z1, d85, d58]
  intro q11 hq11
  replace hP := hP.cons hq11
  clear hq11
  have d118 : q11 ≠ q8 := (hP.ne q8 (by simp [addrs])).1
  have d811 : q8 ≠ q11 := (hP.ne q8 (by simp [addrs])).2
  have d115 : q11 ≠ q5 := (hP.ne q5 (by simp [addrs])).1
  have d511 : q5 ≠ q11 := (hP.ne q5 (by simp [addrs])).2
  refine hR _ _ _ ?_; clear hR R
  refine seqX_hide2 fun R hR => ?_
  simp [go_sem, z0, z1, d85, d58, d118, d811, d115, d511]
  refine hR _ _ _ ?_; clear hR R
  iterate 2 (refine seqX_hide2 fun R hR => ?_; simp [go_sem, z0, z1, d85, d58, d118, d811, d115, d511]; refine hR _ _ _ ?_; clear hR R)
  rw [seqX_nil]
  refine hK _ _ _ ?_; clear hK K
  refine hN8 _ _ _ ?_
  refine xc_two fun N9 hN9 => ?_
  refine xc_reg1 11 rfl fun K hK => ?_
  simp only [show (List.range 11).map (·, true) = [(0, true), (1, true), (2, true), (3, true), (4, true), (5, true), (6, true), (7, true), (8, true), (9, true), (10, true)] from rfl, rslv_cons, rslv_nil, List.getElem?_toArray, List.getElem?_cons_zero, List.getElem?_cons_succ, gres]
  iterate 2 (refine seqX_hide2 fun R hR => ?_; simp [go_sem, z0, z1, d85, d58, d118, d811, d115, d511]; refine hR _ _ _ ?_; clear hR R)
  refine seqX_hide2 fun R hR => ?_
  simp [go_sem, z0, z1, d85, d58, d118, d811, d115, d511]
  refine call_ov hP (add_sfx A5 (tn (suf s m)) 12 _ m hc3 (pt_tn _ (by omega)) (by rw [nds_tn]; omega) (by omega) (by show (suf s m).size + m.size ≤ 1000000000; omega)) ?_
  clear hP
  rintro _ A6 ⟨c4, fv4, rfl, hc4, hA6⟩ hP
  replace hc4 : IsTr A6 (tn (suf (suf s m) m)) c4 := hc4
  rw [suf_twice] at hc4
  obtain ⟨b4, k4, rfl⟩ := tn_open hc4
  have hA6 := View.le_trans hA3 (View.le_trans hA4 (View.le_trans hA5 hA6))
  have hw0 : IntKind.i64.wrap 0 = 0 := by rw [wrap_in (by omega) (by omega)]
  refine hR _ _ _ ?_; clear hR R
  iterate 4 (refine seqX_hide2 fun R hR => ?_; simp [go_sem, z0, z1, d85, d58, d118, d811, d115, d511, hw0]; refine hR _ _ _ ?_; clear hR R)
  refine seqX_hide2 fun R hR => ?_
  simp [go_sem, z0, z1, d85, d58, d118, d811, d115, d511, hw0]
  intro q14 hq14
  replace hP := hP.cons hq14
  clear hq14
  have d1411 : q14 ≠ q11 := (hP.ne q11 (by simp [addrs])).1
  have d1114 : q11 ≠ q14 := (hP.ne q11 (by simp [addrs])).2
  have d148 : q14 ≠ q8 := (hP.ne q8 (by simp [addrs])).1
  have d814 : q8 ≠ q14 := (hP.ne q8 (by simp [addrs])).2
  have d145 : q14 ≠ q5 := (hP.ne q5 (by simp [addrs])).1
  have d514 : q5 ≠ q14 := (hP.ne q5 (by simp [addrs])).2
  refine hR _ _ _ ?_; clear hR R
  refine seqX_hide2 fun R hR => ?_
  simp [go_sem, z0, z1, d85, d58, d118, d811, d115, d511, hw0, d1411, d1114, d148, d814, d145, d514]
  refine hR _ _ _ ?_; clear hR R
  iterate 2 (refine seqX_hide2 fun R hR => ?_; simp [go_sem, z0, z1, d85, d58, d118, d811, d115, d511, hw0, d1411, d1114, d148, d814, d145, d514]; refine hR _ _ _ ?_; clear hR R)
  rw [seqX_nil]
  refine hK _ _ _ ?_; clear hK K
  refine hN9 _ _ _ ?_
  refine xc_two fun N10 hN10 => ?_
  refine xc_reg1 35 rfl fun K hK => ?_
  simp only [show (List.range 35).map (·, true) = [(0, true), (1, true), (2, true), (3, true), (4, true), (5, true), (6, true), (7, true), (8, true), (9, true), (10, true), (11, true), (12, true), (13, true), (14, true), (15, true), (16, true), (17, true), (18, true), (19, true), (20, true), (21, true), (22, true), (23, true), (24, true), (25, true), (26, true), (27, true), (28, true), (29, true), (30, true), (31, true), (32, true), (33, true), (34, true)] from rfl, rslv_cons, rslv_nil, List.getElem?_toArray, List.getElem?_cons_zero, List.getElem?_cons_succ, gres]
  iterate 26 (refine seqX_hide2 fun R hR => ?_; simp [go_sem, z0, z1, d85, d58, d118, d811, d115, d511, hw0, d1411, d1114, d148, d814, d145, d514]; refine hR _ _ _ ?_; clear hR R)
  refine seqX_hide2 fun R hR => ?_
  simp [go_sem, z0, z1, d85, d58, d118, d811, d115, d511, hw0, d1411, d1114, d148, d814, d145, d514]
  refine call_same hP (pfx2 A6 (prf s m) m (by omega)) ?_
  rintro _ rfl
  have hd1 : decide (Pfx (prf s m) m) = true := decide_eq_true (prf_pfx s m)
  rw [hd1]
  refine hR _ _ _ ?_; clear hR R
  iterate 5 (refine seqX_hide2 fun R hR => ?_; simp [go_sem, z0, z1, d85, d58, d118, d811, d115, d511, hw0, d1411, d1114, d148, d814, d145, d514]; refine hR _ _ _ ?_; clear hR R)
  refine seqX_hide2 fun R hR => ?_
  simp [go_sem, z0, z1, d85, d58, d118, d811, d115, d511, hw0, d1411, d1114, d148, d814, d145, d514]
  refine call_same hP (sfx2 A6 (suf s m) m (by omega)) ?_
  rintro _ rfl
  have hd2 : decide (Sfx (suf s m) m) = true := decide_eq_true (suf_sfx s m)
  rw [hd2]
  refine hR _ _ _ ?_; clear hR R
  iterate 2 (refine seqX_hide2 fun R hR => ?_; simp [go_sem, z0, z1, d85, d58, d118, d811, d115, d511, hw0, d1411, d1114, d148, d814, d145, d514]; refine hR _ _ _ ?_; clear hR R)
  rw [seqX_nil]
  refine hK _ _ _ ?_; clear hK K
  refine hN10 _ _ _ ?_
  simp [go_sem, z0, z1, d85, d58, d118, d811, d115, d511, hw0, d1411, d1114, d148, d814, d145, d514]
  exact View.le_trans hA6 (le_ov hP)
theorem law4 (W : World) (s : ByteArray) (hs : s.size ≤ 140737488351232) (m : ByteArray) (hm : m.size ≤ 140737488351232) : VCalls Try.prog 4 #[.string s, .string m] (full W) fun r A' => r = .bool true ∧ full W ≤ A' := road4 (full W) s m
end Go.Proofs.YtpinamipjddobaaV

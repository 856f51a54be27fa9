/- Trees: law 4 (FnAssociative). -/
import Derived.Test.YthjbgpmcfcijgaaDoorKN
namespace Go.Proofs.YthjbgpmcfcijgaaDoorV
open Go.RowKit
set_option linter.unusedSimpArgs false
set_option linter.unusedVariables false
def vX : ByteArray := ⟨#[120]⟩
/-- A list's node. -/
def seqN (l : List Tr) : Tr := .mk 2 0 tSeq e0 e0 e0 e0 e0 0 0 (-1) l
theorem seqN_is {A : View} {v : Value} {l : List Tr} (h : Trs A v l) : IsTr A (seqN l) (trc 2 0 tSeq e0 e0 e0 e0 e0 0 0 (-1) v) := IsTr.of h
theorem wd_name : Wd vName := by
  exact ⟨by decide, by decide, by decide⟩
theorem wd_x : Wd vX := by
  exact ⟨by decide, by decide, by decide⟩
theorem tn_pl {s : ByteArray} {lv : Nat} (h : Wd s) (hl : 0 < lv) : PL lv (tn s) := by
  rw [tn, PL]
  exact ⟨hl, ⟨rfl, rfl, rfl, rfl, rfl, rfl⟩, .inl ⟨rfl, rfl, .inr (.inl ⟨rfl, h⟩)⟩, fun j hj => absurd hj (Nat.not_lt_zero _)⟩
theorem tn_nds (s : ByteArray) : nds (tn s) = 1 := by
  rw [tn, nds_mk]
  rfl
theorem fixed_pl : PL 12 (seqN [mapN [vName] [tn vX]]) := by
  rw [seqN, PL]
  refine ⟨by omega, ⟨rfl, rfl, rfl, rfl, rfl, rfl⟩, .inr (.inl ⟨rfl, rfl, rfl⟩), fun j hj => ?_⟩
  obtain rfl : j = 0 := by simp at hj; omega
  show PL 11 (mapN [vName] [tn vX])
  rw [mapN, PL]
  refine ⟨by omega, ⟨rfl, rfl, rfl, rfl, rfl, rfl⟩, .inr (.inr ⟨rfl, rfl, rfl, rfl, fun i hi h2 => ?_, fun i j hi hj h2 h3 => ?_⟩), fun j hj => ?_⟩
  · replace hi : i < 2 := hi
    obtain rfl : i = 0 := by omega
    rfl
  · replace hi : i < 2 := hi
    omega
  · replace hj : j < 2 := hj
    match j, hj with
    | 0, _ => exact tn_pl wd_name (by omega)
    | 1, _ => exact tn_pl wd_x (by omega)
theorem fixed_nds : nds (seqN [mapN [vName] [tn vX]]) = 4 := by
  rw [seqN, nds_mk, List.map_singleton, mapN, nds_mk]
  simp [pairsT, tn_nds]
theorem fixed_key : keyOf (seqN [mapN [vName] [tn vX]]).kids = vName := by
  rw [keyOf, if_pos]
  kernel_rfl
theorem seqN_sb {l : List Tr} (hl : l.length ≤ 1125899906842624) (h : ∀ t ∈ l, SB t) : SB (seqN l) := SB.mk' ⟨by decide, by decide, by decide, by decide, by decide, by decide⟩ h hl
theorem one_texts {A : View} {q : Nat} {e : TypeId} (h : A q = some (.cells #[.string vName] e (0, 0))) : Texts A (.slice (some ⟨q, 0, none⟩) 1 1) [vName] := by
  exact .inl ⟨_, 1, rfl, cells_block h rfl⟩
set_option maxRecDepth 20000 in
set_option maxHeartbeats 400000 in
theorem assoc4 (A : View) (G : GN A) (v : Value) (l : List Tr) (h : Trs A v l ∧ l.length ≤ 1125899906842624 ∧ ∀ t ∈ l, SB t) : VCalls Tryd.prog 4 #[v] A fun r A' => r = .bool true ∧ A ≤ A' := by
  obtain ⟨hv, hlb, hsb⟩ := h
  obtain ⟨vb, vc, rfl⟩ := hv.slice
  refine xcalls Tryd.func4 rfl (by simp [Tryd.ntmps4]) ?_
  simp only [Tryd.f4]
  have hP : Priv A (addrs []) := Priv.nil A
  show xc _ _ _ _ _ _ (ov A [])
  by_cases hbig : l.length ≤ 2147483647
  rotate_left
  · have hb1 : (2147483647 : Int) < l.length := by omega
    refine xc_two fun N1 hN1 => ?_
    refine xc_reg1 1 rfl fun K hK => ?_
    simp only [show (List.range 1).map (·, true) = [(0, true)] from rfl, rslv_cons, rslv_nil, List.getElem?_toArray, List.getElem?_cons_zero, List.getElem?_cons_succ, gres]
    (refine seqX_hide2 fun R hR => ?_; simp [go_sem, hb1]; refine hR _ _ _ ?_; clear hR R)
    rw [seqX_nil]
    refine hK _ _ _ ?_; clear hK K
    refine hN1 _ _ _ ?_
    refine xc_two fun N2 hN2 => ?_
    refine xc_two fun N3 hN3 => ?_
    refine xc_reg1 3 rfl fun K hK => ?_
    simp only [show (List.range 3).map (·, true) = [(0, true), (1, true), (2, true)] from rfl, rslv_cons, rslv_nil, List.getElem?_toArray, List.getElem?_cons_zero, List.getElem?_cons_succ, gres]
    iterate 3 (refine seqX_hide2 fun R hR => ?_; simp [go_sem, hb1]; refine hR _ _ _ ?_; clear hR R)
    rw [seqX_nil]
    refine hK _ _ _ ?_; clear hK K
    refine hN3 _ _ _ ?_
    refine xc_iftrue (by simp [go_sem, hb1]) ?_
    refine xc_two fun N4 hN4 => ?_
    refine xc_reg1 1 rfl fun K hK => ?_
    simp only [show (List.range 1).map (·, true) = [(0, true)] from rfl, rslv_cons, rslv_nil, List.getElem?_toArray, List.getElem?_cons_zero, List.getElem?_cons_succ, gres]
    (refine seqX_hide2 fun R hR => ?_; simp [go_sem, hb1]; refine hR _ _ _ ?_; clear hR R)
    rw [seqX_nil]
    refine hK _ _ _ ?_; clear hK K
    refine hN4 _ _ _ ?_
    simp [go_sem, hb1]
    exact View.le_refl _
  have hb1 : ¬ (2147483647 : Int) < l.length := by omega
  refine xc_two fun N1 hN1 => ?_
  refine xc_reg1 1 rfl fun K hK => ?_
  simp only [show (List.range 1).map (·, true) = [(0, true)] from rfl, rslv_cons, rslv_nil, List.getElem?_toArray, List.getElem?_cons_zero, List.getElem?_cons_succ, gres]
  (refine seqX_hide2 fun R hR => ?_; simp [go_sem, hb1]; refine hR _ _ _ ?_; clear hR R)
  rw [seqX_nil]
  refine hK _ _ _ ?_; clear hK K
  refine hN1 _ _ _ ?_
  refine xc_two fun N2 hN2 => ?_
  refine xc_two fun N3 hN3 => ?_
  refine xc_reg1 3 rfl fun K hK => ?_
  simp only [show (List.range 3).map (·, true) = [(0, true), (1, true), (2, true)] from rfl, rslv_cons, rslv_nil, List.getElem?_toArray, List.getElem?_cons_zero, List.getElem?_cons_succ, gres]
  iterate 3 (refine seqX_hide2 fun R hR => ?_; simp [go_sem, hb1]; refine hR _ _ _ ?_; clear hR R)
  rw [seqX_nil]
  refine hK _ _ _ ?_; clear hK K
  refine hN3 _ _ _ ?_
  refine xc_iffalse (by simp [go_sem, hb1]) ?_
  refine hN2 _ _ _ ?_
  refine xc_two fun N4 hN4 => ?_
  refine xc_reg1 4 rfl fun K hK => ?_
  simp only [show (List.range 4).map (·, true) = [(0, true), (1, true), (2, true), (3, true)] from rfl, rslv_cons, rslv_nil, List.getElem?_toArray, List.getElem?_cons_zero, List.getElem?_cons_succ, gres]
  iterate 2 (refine seqX_hide2 fun R hR => ?_; simp [go_sem, hb1]; refine hR _ _ _ ?_; clear hR R)
  refine seqX_hide2 fun R hR => ?_
  simp [go_sem, hb1]
  intro q3 hq3
  replace hP := hP.cons hq3
  clear hq3
  refine hR _ _ _ ?_; clear hR R
  refine seqX_hide2 fun R hR => ?_
  simp [go_sem, hb1]
  refine hR _ _ _ ?_; clear hR R
  rw [seqX_nil]
  refine hK _ _ _ ?_; clear hK K
  refine hN4 _ _ _ ?_
  refine xc_two fun N5 hN5 => ?_
  refine xc_reg1 2 rfl fun K hK => ?_
  simp only [show (List.range 2).map (·, true) = [(0, true), (1, true)] from rfl, rslv_cons, rslv_nil, List.getElem?_toArray, List.getElem?_cons_zero, List.getElem?_cons_succ, gres]
  iterate 2 (refine seqX_hide2 fun R hR => ?_; simp [go_sem, hb1]; refine hR _ _ _ ?_; clear hR R)
  rw [seqX_nil]
  refine hK _ _ _ ?_; clear hK K
  refine hN5 _ _ _ ?_
  refine xc_two fun N6 hN6 => ?_
  refine xc_two fun N7 hN7 => ?_
  refine xc_reg1 3 rfl fun K hK => ?_
  simp only [show (List.range 3).map (·, true) = [(0, true), (1, true), (2, true)] from rfl, rslv_cons, rslv_nil, List.getElem?_toArray, List.getElem?_cons_zero, List.getElem?_cons_succ, gres]
  iterate 3 (refine seqX_hide2 fun R hR => ?_; simp [go_sem, hb1]; refine hR _ _ _ ?_; clear hR R)
  rw [seqX_nil]
  refine hK _ _ _ ?_; clear hK K
  refine hN7 _ _ _ ?_
  rw [xc_block]
  rw [xc_loop]
  refine vloopK (fun k' e ds A' => ∃ (i : Nat) (n : Nat) (tz : Int) (D : View), k' = l.length - i ∧ ds = [] ∧ A' = ov D [(q3, .cells (trc 2 0 tSeq e0 e0 e0 e0 e0 0 0 (-1) (.slice vb l.length vc)) 33 (0, 0))] ∧ Priv D [q3] ∧ e 0 = .slice vb l.length vc ∧ e 3 = .pointer (some ⟨q3, 0, none⟩) ∧ e 4 = .int .i64 tz ∧ e 5 = .int .i64 n ∧ e 22 = .slice vb l.length vc ∧ e 23 = .int .i64 l.length ∧ e 24 = .int .i64 i ∧ (i ≤ l.length) ∧ (A ≤ D) ∧ (n = (l.take i).countP (hasF vName))) _ ⟨0, 0, 0, A, rfl, rfl, rfl, hP, by simp [go_sem, hb1], by simp [go_sem, hb1], by simp [go_sem, hb1], by simp [go_sem, hb1], by simp [go_sem, hb1], by simp [go_sem, hb1], by simp [go_sem, hb1], by omega, View.le_refl _, by simp⟩ ?_
  clear hP
  rintro k' e ds _ ⟨i, n, tz, D, rfl, rfl, rfl, hP, g0, g3, g4, g5, g22, g23, g24, hil, hAD, hn⟩ J1 X1 hJ1 hX1
  refine xc_sound _ ?_
  have hw1 : IntKind.i64.wrap ((i : Int) + 1) = ((i + 1 : Nat) : Int) := by rw [wrap_in (by omega) (by omega)]; omega
  have hnl : n ≤ i := by
    rw [hn]
    refine Nat.le_trans List.countP_le_length ?_
    rw [List.length_take]
    omega
  have hw2 : IntKind.i64.wrap ((n : Int) + 1) = ((n + 1 : Nat) : Int) := by rw [wrap_in (by omega) (by omega)]; omega
  by_cases hi : i < l.length
  rotate_left
  · rw [List.take_of_length_le (by omega)] at hn
    have hii : ¬ (i : Int) < l.length := by omega
    refine xc_two fun N8 hN8 => ?_
    refine xc_reg1 1 rfl fun K hK => ?_
    simp only [show (List.range 1).map (·, true) = [(0, true)] from rfl, rslv_cons, rslv_nil, List.getElem?_toArray, List.getElem?_cons_zero, List.getElem?_cons_succ, gres]
    (refine seqX_hide2 fun R hR => ?_; simp [go_sem, hb1, g0, g3, g4, g5, g22, g23, g24, hi, hii]; refine hR _ _ _ ?_; clear hR R)
    rw [seqX_nil]
    refine hK _ _ _ ?_; clear hK K
    refine hN8 _ _ _ ?_
    refine xc_two fun N9 hN9 => ?_
    refine xc_iffalse (by simp [go_sem, hb1, g0, g3, g4, g5, g22, g23, g24, hi, hii]) ?_
    refine hX1 _ _ _ _ ?_
    refine hN6 _ _ _ ?_
    refine xc_two fun N10 hN10 => ?_
    refine xc_two fun N11 hN11 => ?_
    by_cases h1 : l.length < 1
    · have h1i : (l.length : Int) < 1 := by omega
      have h2 : ¬ 30 < l.length := by omega
      have h2i : ¬ (30 : Int) < l.length := by omega
      refine xc_reg1 23 rfl fun K hK => ?_
      simp only [show (List.range 23).map (·, true) = [(0, true), (1, true), (2, true), (3, true), (4, true), (5, true), (6, true), (7, true), (8, true), (9, true), (10, true), (11, true), (12, true), (13, true), (14, true), (15, true), (16, true), (17, true), (18, true), (19, true), (20, true), (21, true), (22, true)] from rfl, rslv_cons, rslv_nil, List.getElem?_toArray, List.getElem?_cons_zero, List.getElem?_cons_succ, gres]
      iterate 10 (refine seqX_hide2 fun R hR => ?_; simp [go_sem, hb1, g0, g3, g4, g5, g22, g23, g24, hi, hii, h1, h1i, h2, h2i]; refine hR _ _ _ ?_; clear hR R)
      refine seqX_hide2 fun R hR => ?_
      simp [go_sem, hb1, g0, g3, g4, g5, g22, g23, g24, hi, hii, h1, h1i, h2, h2i]
      refine hR _ _ _ ?_; clear hR R
      iterate 12 (refine seqX_hide2 fun R hR => ?_; simp [go_sem, hb1, g0, g3, g4, g5, g22, g23, g24, hi, hii, h1, h1i, h2, h2i]; refine hR _ _ _ ?_; clear hR R)
      rw [seqX_nil]
      refine hK _ _ _ ?_; clear hK K
      refine hN11 _ _ _ ?_
      refine xc_iftrue (by simp [go_sem, hb1, g0, g3, g4, g5, g22, g23, g24, hi, hii, h1, h1i, h2, h2i]) ?_
      refine xc_two fun N12 hN12 => ?_
      refine xc_reg1 1 rfl fun K hK => ?_
      simp only [show (List.range 1).map (·, true) = [(0, true)] from rfl, rslv_cons, rslv_nil, List.getElem?_toArray, List.getElem?_cons_zero, List.getElem?_cons_succ, gres]
      (refine seqX_hide2 fun R hR => ?_; simp [go_sem, hb1, g0, g3, g4, g5, g22, g23, g24, hi, hii, h1, h1i, h2, h2i]; refine hR _ _ _ ?_; clear hR R)
      rw [seqX_nil]
      refine hK _ _ _ ?_; clear hK K
      refine hN12 _ _ _ ?_
      simp [go_sem, hb1, g0, g3, g4, g5, g22, g23, g24, hi, hii, h1, h1i, h2, h2i]
      exact View.le_trans hAD (le_ov hP)
    have h1i : ¬ (l.length : Int) < 1 := by omega
    by_cases h2 : 30 < l.length
    · have h2i : (30 : Int) < l.length := by omega
      refine xc_reg1 23 rfl fun K hK => ?_
      simp only [show (List.range 23).map (·, true) = [(0, true), (1, true), (2, true), (3, true), (4, true), (5, true), (6, true), (7, true), (8, true), (9, true), (10, true), (11, true), (12, true), (13, true), (14, true), (15, true), (16, true), (17, true), (18, true), (19, true), (20, true), (21, true), (22, true)] from rfl, rslv_cons, rslv_nil, List.getElem?_toArray, List.getElem?_cons_zero, List.getElem?_cons_succ, gres]
      iterate 10 (refine seqX_hide2 fun R hR => ?_; simp [go_sem, hb1, g0, g3, g4, g5, g22, g23, g24, hi, hii, h1, h1i, h2, h2i]; refine hR _ _ _ ?_; clear hR R)
      refine seqX_hide2 fun R hR => ?_
      simp [go_sem, hb1, g0, g3, g4, g5, g22, g23, g24, hi, hii, h1, h1i, h2, h2i]
      refine hR _ _ _ ?_; clear hR R
      iterate 12 (refine seqX_hide2 fun R hR => ?_; simp [go_sem, hb1, g0, g3, g4, g5, g22, g23, g24, hi, hii, h1, h1i, h2, h2i]; refine hR _ _ _ ?_; clear hR R)
      rw [seqX_nil]
      refine hK _ _ _ ?_; clear hK K
      refine hN11 _ _ _ ?_
      refine xc_iftrue (by simp [go_sem, hb1, g0, g3, g4, g5, g22, g23, g24, hi, hii, h1, h1i, h2, h2i]) ?_
      refine xc_two fun N12 hN12 => ?_
      refine xc_reg1 1 rfl fun K hK => ?_
      simp only [show (List.range 1).map (·, true) = [(0, true)] from rfl, rslv_cons, rslv_nil, List.getElem?_toArray, List.getElem?_cons_zero, List.getElem?_cons_succ, gres]
      (refine seqX_hide2 fun R hR => ?_; simp [go_sem, hb1, g0, g3, g4, g5, g22, g23, g24, hi, hii, h1, h1i, h2, h2i]; refine hR _ _ _ ?_; clear hR R)
      rw [seqX_nil]
      refine hK _ _ _ ?_; clear hK K
      refine hN12 _ _ _ ?_
      simp [go_sem, hb1, g0, g3, g4, g5, g22, g23, g24, hi, hii, h1, h1i, h2, h2i]
      exact View.le_trans hAD (le_ov hP)
    have h2i : ¬ (30 : Int) < l.length := by omega
    refine xc_reg1 23 rfl fun K hK => ?_
    simp only [show (List.range 23).map (·, true) = [(0, true), (1, true), (2, true), (3, true), (4, true), (5, true), (6, true), (7, true), (8, true), (9, true), (10, true), (11, true), (12, true), (13, true), (14, true), (15, true), (16, true), (17, true), (18, true), (19, true), (20, true), (21, true), (22, true)] from rfl, rslv_cons, rslv_nil, List.getElem?_toArray, List.getElem?_cons_zero, List.getElem?_cons_succ, gres]
    iterate 10 (refine seqX_hide2 fun R hR => ?_; simp [go_sem, hb1, g0, g3, g4, g5, g22, g23, g24, hi, hii, h1, h1i, h2, h2i]; refine hR _ _ _ ?_; clear hR R)
    refine seqX_hide2 fun R hR => ?_
    simp [go_sem, hb1, g0, g3, g4, g5, g22, g23, g24, hi, hii, h1, h1i, h2, h2i]
    have his := seqN_is (hv.le hAD)
    refine call_ov hP (plainTree12 D (seqN l) _ 120 his (seqN_sb hlb hsb) (by omega)) ?_
    clear hP
    rintro _ D2 ⟨⟨b, rfl, hb⟩, hD2⟩ hP
    cases b with
    | false =>
      refine hR _ _ _ ?_; clear hR R
      iterate 12 (refine seqX_hide2 fun R hR => ?_; simp [go_sem, hb1, g0, g3, g4, g5, g22, g23, g24, hi, hii, h1, h1i, h2, h2i]; refine hR _ _ _ ?_; clear hR R)
      rw [seqX_nil]
      refine hK _ _ _ ?_; clear hK K
      refine hN11 _ _ _ ?_
      refine xc_iftrue (by simp [go_sem, hb1, g0, g3, g4, g5, g22, g23, g24, hi, hii, h1, h1i, h2, h2i]) ?_
      refine xc_two fun N12 hN12 => ?_
      refine xc_reg1 1 rfl fun K hK => ?_
      simp only [show (List.range 1).map (·, true) = [(0, true)] from rfl, rslv_cons, rslv_nil, List.getElem?_toArray, List.getElem?_cons_zero, List.getElem?_cons_succ, gres]
      (refine seqX_hide2 fun R hR => ?_; simp [go_sem, hb1, g0, g3, g4, g5, g22, g23, g24, hi, hii, h1, h1i, h2, h2i]; refine hR _ _ _ ?_; clear hR R)
      rw [seqX_nil]
      refine hK _ _ _ ?_; clear hK K
      refine hN12 _ _ _ ?_
      simp [go_sem, hb1, g0, g3, g4, g5, g22, g23, g24, hi, hii, h1, h1i, h2, h2i]
      exact View.le_trans hAD (View.le_trans hD2 (le_ov hP))
    | true =>
    obtain ⟨hpl, hnd⟩ := hb rfl
    have hD := View.le_trans hAD hD2
    have hl1 : (1 : Int) ≤ l.length := by omega
    have hs2 := his.le hD2
    by_cases h34 : 0 < tz ∧ tz < l.length
    · obtain ⟨h3, h4⟩ := h34
      refine hR _ _ _ ?_; clear hR R
      iterate 12 (refine seqX_hide2 fun R hR => ?_; simp [go_sem, hb1, g0, g3, g4, g5, g22, g23, g24, hi, hii, h1, h1i, h2, h2i, h3, h4]; refine hR _ _ _ ?_; clear hR R)
      rw [seqX_nil]
      refine hK _ _ _ ?_; clear hK K
      refine hN11 _ _ _ ?_
      refine xc_iftrue (by simp [go_sem, hb1, g0, g3, g4, g5, g22, g23, g24, hi, hii, h1, h1i, h2, h2i, h3, h4]) ?_
      refine xc_two fun N12 hN12 => ?_
      refine xc_reg1 1 rfl fun K hK => ?_
      simp only [show (List.range 1).map (·, true) = [(0, true)] from rfl, rslv_cons, rslv_nil, List.getElem?_toArray, List.getElem?_cons_zero, List.getElem?_cons_succ, gres]
      (refine seqX_hide2 fun R hR => ?_; simp [go_sem, hb1, g0, g3, g4, g5, g22, g23, g24, hi, hii, h1, h1i, h2, h2i, h3, h4]; refine hR _ _ _ ?_; clear hR R)
      rw [seqX_nil]
      refine hK _ _ _ ?_; clear hK K
      refine hN12 _ _ _ ?_
      simp [go_sem, hb1, g0, g3, g4, g5, g22, g23, g24, hi, hii, h1, h1i, h2, h2i, h3, h4]
      exact View.le_trans hD (le_ov hP)
    have htag : (seqN l).tag ≠ tNull := by
      show tSeq ≠ tNull
      decide
    have tl : ∀  (e : Env), Priv D2 [q3] → e 0 = .slice vb l.length vc → e 3 = .pointer (some ⟨q3, 0, none⟩) → e 5 = .int .i64 n → N10 e [] (ov D2 [(q3, .cells (trc 2 0 tSeq e0 e0 e0 e0 e0 0 0 (-1) (.slice vb l.length vc)) 33 (0, 0))]) := by
      clear g0 g3 g4 g5 g22 g23 g24
      clear hP
      intro e hP g0 g3 g5
      refine hN10 _ _ _ ?_
      refine xc_two fun N12 hN12 => ?_
      refine xc_reg1 7 rfl fun K hK => ?_
      simp only [show (List.range 7).map (·, true) = [(0, true), (1, true), (2, true), (3, true), (4, true), (5, true), (6, true)] from rfl, rslv_cons, rslv_nil, List.getElem?_toArray, List.getElem?_cons_zero, List.getElem?_cons_succ, gres]
      (refine seqX_hide2 fun R hR => ?_; simp [go_sem, hb1, hi, hii, h1, h1i, h2, h2i, g0, g3, g5]; refine hR _ _ _ ?_; clear hR R)
      refine seqX_hide2 fun R hR => ?_
      simp [go_sem, hb1, hi, hii, h1, h1i, h2, h2i, g0, g3, g5]
      refine call_ov hP (assocKey13 D2 (G.le hD) (seqN l) 12 _ hs2 hpl (by omega) (by omega)) ?_
      clear hP
      rintro _ D3 ⟨rfl, hD3⟩ hP
      refine hR _ _ _ ?_; clear hR R
      iterate 5 (refine seqX_hide2 fun R hR => ?_; simp [go_sem, hb1, hi, hii, h1, h1i, h2, h2i, g0, g3, g5]; refine hR _ _ _ ?_; clear hR R)
      rw [seqX_nil]
      refine hK _ _ _ ?_; clear hK K
      refine hN12 _ _ _ ?_
      refine xc_two fun N13 hN13 => ?_
      refine xc_reg1 8 rfl fun K hK => ?_
      simp only [show (List.range 8).map (·, true) = [(0, true), (1, true), (2, true), (3, true), (4, true), (5, true), (6, true), (7, true)] from rfl, rslv_cons, rslv_nil, List.getElem?_toArray, List.getElem?_cons_zero, List.getElem?_cons_succ, gres]
      (refine seqX_hide2 fun R hR => ?_; simp [go_sem, hb1, hi, hii, h1, h1i, h2, h2i, g0, g3, g5]; refine hR _ _ _ ?_; clear hR R)
      refine seqX_hide2 fun R hR => ?_
      simp [go_sem, hb1, hi, hii, h1, h1i, h2, h2i, g0, g3, g5]
      refine call_ov hP (one11 D3 (seqN l) _ (hs2.le hD3)) ?_
      clear hP
      rintro v1 D4 ⟨hv1, hD4⟩ hP
      refine hR _ _ _ ?_; clear hR R
      refine seqX_hide2 fun R hR => ?_
      simp [go_sem, hb1, hi, hii, h1, h1i, h2, h2i, g0, g3, g5]
      refine call_ov hP (isAssoc14 D4 (G.le (View.le_trans hD (View.le_trans hD3 hD4))) (seqN l) 12 v1 true hv1 hpl (by omega) (by omega) htag) ?_
      clear hP
      rintro _ D5 ⟨rfl, hD5⟩ hP
      have hD5 := View.le_trans hD3 (View.le_trans hD4 hD5)
      refine hR _ _ _ ?_; clear hR R
      iterate 5 (refine seqX_hide2 fun R hR => ?_; simp [go_sem, hb1, hi, hii, h1, h1i, h2, h2i, g0, g3, g5]; refine hR _ _ _ ?_; clear hR R)
      rw [seqX_nil]
      refine hK _ _ _ ?_; clear hK K
      refine hN13 _ _ _ ?_
      refine xc_two fun N14 hN14 => ?_
      refine xc_reg1 8 rfl fun K hK => ?_
      simp only [show (List.range 8).map (·, true) = [(0, true), (1, true), (2, true), (3, true), (4, true), (5, true), (6, true), (7, true)] from rfl, rslv_cons, rslv_nil, List.getElem?_toArray, List.getElem?_cons_zero, List.getElem?_cons_succ, gres]
      (refine seqX_hide2 fun R hR => ?_; simp [go_sem, hb1, hi, hii, h1, h1i, h2, h2i, g0, g3, g5]; refine hR _ _ _ ?_; clear hR R)
      refine seqX_hide2 fun R hR => ?_
      simp [go_sem, hb1, hi, hii, h1, h1i, h2, h2i, g0, g3, g5]
      refine call_ov hP (one11 D5 (seqN l) _ (hs2.le hD5)) ?_
      clear hP
      rintro v2 D6 ⟨hv2, hD6⟩ hP
      refine hR _ _ _ ?_; clear hR R
      refine seqX_hide2 fun R hR => ?_
      simp [go_sem, hb1, hi, hii, h1, h1i, h2, h2i, g0, g3, g5]
      refine call_ov hP (isAssoc14 D6 (G.le (View.le_trans hD (View.le_trans hD5 hD6))) (seqN l) 12 v2 false hv2 hpl (by omega) (by omega) htag) ?_
      clear hP
      rintro _ D7 ⟨rfl, hD7⟩ hP
      have hD7 := View.le_trans hD5 (View.le_trans hD6 hD7)
      refine hR _ _ _ ?_; clear hR R
      iterate 5 (refine seqX_hide2 fun R hR => ?_; simp [go_sem, hb1, hi, hii, h1, h1i, h2, h2i, g0, g3, g5]; refine hR _ _ _ ?_; clear hR R)
      rw [seqX_nil]
      refine hK _ _ _ ?_; clear hK K
      refine hN14 _ _ _ ?_
      refine xc_two fun N15 hN15 => ?_
      refine xc_two fun N16 hN16 => ?_
      refine xc_reg1 12 rfl fun K hK => ?_
      simp only [show (List.range 12).map (·, true) = [(0, true), (1, true), (2, true), (3, true), (4, true), (5, true), (6, true), (7, true), (8, true), (9, true), (10, true), (11, true)] from rfl, rslv_cons, rslv_nil, List.getElem?_toArray, List.getElem?_cons_zero, List.getElem?_cons_succ, gres]
      refine seqX_hide2 fun R hR => ?_
      simp [go_sem, hb1, hi, hii, h1, h1i, h2, h2i, g0, g3, g5]
      intro q96 hq96
      replace hP := hP.cons hq96
      clear hq96
      have d963 : q96 ≠ q3 := (hP.ne q3 (by simp [addrs])).1
      have d396 : q3 ≠ q96 := (hP.ne q3 (by simp [addrs])).2
      refine hR _ _ _ ?_; clear hR R
      refine seqX_hide2 fun R hR => ?_
      simp [go_sem, hb1, hi, hii, h1, h1i, h2, h2i, g0, g3, g5, d963, d396]
      obtain ⟨eq96, hPn, nq96⟩ := sinkI (A := D7) (L := [(q96, .cells #[.string ⟨#[110, 97, 109, 101]⟩] 9 (0, 0)), (q3, .cells (trc 2 0 tSeq e0 e0 e0 e0 e0 0 0 (-1) (.slice vb l.length vc)) 33 (0, 0))]) 0 hP rfl
      rw [eq96]
      clear eq96 hP; have hP := hPn; clear hPn
      simp only [List.eraseIdx_cons_zero, List.eraseIdx_cons_succ, addrs_cons, addrs_nil] at hP ⊢
      have lq96 : D7 ≤ D7.set q96 (.cells #[.string ⟨#[110, 97, 109, 101]⟩] 9 (0, 0)) := le_set nq96
      have ht1 : Texts (D7.set q96 (.cells #[.string ⟨#[110, 97, 109, 101]⟩] 9 (0, 0))) (.slice (some ⟨q96, 0, none⟩) 1 1) [vName] := one_texts (set_at _ _ _)
      generalize D7.set q96 (.cells #[.string ⟨#[110, 97, 109, 101]⟩] 9 (0, 0)) = E0 at hP lq96 ht1 ⊢
      have hE0 := View.le_trans hD7 lq96
      refine call_ov hP (text16 E0 vX) ?_
      clear hP
      rintro _ E1 ⟨rfl, hE1⟩ hP
      refine hR _ _ _ ?_; clear hR R
      refine seqX_hide2 fun R hR => ?_
      simp [go_sem, hb1, hi, hii, h1, h1i, h2, h2i, g0, g3, g5, d963, d396]
      refine call_ov hP (one11 E1 (tn vX) _ (text_is E1 vX)) ?_
      clear hP
      rintro v3 E2 ⟨hv3, hE2⟩ hP
      have hE2 := View.le_trans hE1 hE2
      refine hR _ _ _ ?_; clear hR R
      refine seqX_hide2 fun R hR => ?_
      simp [go_sem, hb1, hi, hii, h1, h1i, h2, h2i, g0, g3, g5, d963, d396]
      refine call_ov hP (mapNode15 E2 [vName] [tn vX] _ v3 (ht1.le hE2) hv3 rfl (by decide)) ?_
      clear hP
      rintro _ E3 ⟨c3, rfl, hc3, hE3⟩ hP
      have hE3 := View.le_trans hE2 hE3
      have hcz := hc3.size
      have hco := hc3.ones
      refine hR _ _ _ ?_; clear hR R
      refine seqX_hide2 fun R hR => ?_
      simp [go_sem, hb1, hi, hii, h1, h1i, h2, h2i, g0, g3, g5, d963, d396, hcz, hco]
      refine call_ov hP (one11 E3 _ c3 hc3) ?_
      clear hP
      rintro v4 E4 ⟨hv4, hE4⟩ hP
      have hE4 := View.le_trans hE3 hE4
      obtain ⟨xb, xc, rfl⟩ := hv4.slice
      refine hR _ _ _ ?_; clear hR R
      (refine seqX_hide2 fun R hR => ?_; simp [go_sem, hb1, hi, hii, h1, h1i, h2, h2i, g0, g3, g5, d963, d396, hcz, hco]; refine hR _ _ _ ?_; clear hR R)
      refine seqX_hide2 fun R hR => ?_
      simp [go_sem, hb1, hi, hii, h1, h1i, h2, h2i, g0, g3, g5, d963, d396, hcz, hco]
      refine call_ov hP (assocKey13 E4 (G.le (View.le_trans hD (View.le_trans hE0 hE4))) (seqN [mapN [vName] [tn vX]]) 12 _ (seqN_is hv4) fixed_pl (by rw [fixed_nds]; omega) (by omega)) ?_
      clear hP
      rintro _ E5 ⟨rfl, hE5⟩ hP
      have hE5 := View.le_trans hE0 (View.le_trans hE4 hE5)
      have hfix : (keyOf (seqN [mapN [vName] [tn vX]]).kids).toList = [110, 97, 109, 101] := by rw [fixed_key]; kernel_rfl
      refine hR _ _ _ ?_; clear hR R
      iterate 5 (refine seqX_hide2 fun R hR => ?_; simp [go_sem, hb1, hi, hii, h1, h1i, h2, h2i, g0, g3, g5, d963, d396, hcz, hco, hfix]; refine hR _ _ _ ?_; clear hR R)
      rw [seqX_nil]
      refine hK _ _ _ ?_; clear hK K
      refine hN16 _ _ _ ?_
      refine xc_two fun N17 hN17 => ?_
      refine xc_reg1 2 rfl fun K hK => ?_
      simp only [show (List.range 2).map (·, true) = [(0, true), (1, true)] from rfl, rslv_cons, rslv_nil, List.getElem?_toArray, List.getElem?_cons_zero, List.getElem?_cons_succ, gres]
      iterate 2 (refine seqX_hide2 fun R hR => ?_; simp [go_sem, hb1, hi, hii, h1, h1i, h2, h2i, g0, g3, g5, d963, d396, hcz, hco, hfix]; refine hR _ _ _ ?_; clear hR R)
      rw [seqX_nil]
      refine hK _ _ _ ?_; clear hK K
      refine hN17 _ _ _ ?_
      refine xc_iffalse (by simp [go_sem, hb1, hi, hii, h1, h1i, h2, h2i, g0, g3, g5, d963, d396, hcz, hco, hfix]) ?_
      refine hN15 _ _ _ ?_
      refine xc_two fun N18 hN18 => ?_
      cases hall : allF vName l with
      | true =>
        have hk1 : (keyOf (seqN l).kids).toList = [110, 97, 109, 101] := by rw [keyOf, show (seqN l).kids = l from rfl, if_pos hall]; kernel_rfl
        have ha1 : allF vName (seqN l).kids = true := hall
        have hnc := allF_count vName l
        rw [hall, ← hn] at hnc
        obtain rfl : n = l.length := by have := beq_iff_eq.1 hnc; omega
        refine xc_reg1 40 rfl fun K hK => ?_
        simp only [show (List.range 40).map (·, true) = [(0, true), (1, true), (2, true), (3, true), (4, true), (5, true), (6, true), (7, true), (8, true), (9, true), (10, true), (11, true), (12, true), (13, true), (14, true), (15, true), (16, true), (17, true), (18, true), (19, true), (20, true), (21, true), (22, true), (23, true), (24, true), (25, true), (26, true), (27, true), (28, true), (29, true), (30, true), (31, true), (32, true), (33, true), (34, true), (35, true), (36, true), (37, true), (38, true), (39, true)] from rfl, rslv_cons, rslv_nil, List.getElem?_toArray, List.getElem?_cons_zero, List.getElem?_cons_succ, gres]
        iterate 40 (refine seqX_hide2 fun R hR => ?_; simp [go_sem, hb1, hi, hii, h1, h1i, h2, h2i, g0, g3, g5, d963, d396, hcz, hco, hfix, hk1, ha1]; refine hR _ _ _ ?_; clear hR R)
        rw [seqX_nil]
        refine hK _ _ _ ?_; clear hK K
        refine hN18 _ _ _ ?_
        simp [go_sem, hb1, hi, hii, h1, h1i, h2, h2i, g0, g3, g5, d963, d396, hcz, hco, hfix, hk1, ha1]
        exact View.le_trans hD (View.le_trans hE5 (le_ov hP))
      | false =>
        have hk1 : (keyOf (seqN l).kids).toList = [] := by rw [keyOf, show (seqN l).kids = l from rfl, if_neg (by rw [hall]; decide)]; kernel_rfl
        have ha1 : allF vName (seqN l).kids = false := hall
        have hnc := allF_count vName l
        rw [hall, ← hn] at hnc
        have hn1 : ¬ n = l.length := fun e => by rw [e] at hnc; simp at hnc
        have hn2 : ¬ (n : Int) = l.length := by omega
        refine xc_reg1 40 rfl fun K hK => ?_
        simp only [show (List.range 40).map (·, true) = [(0, true), (1, true), (2, true), (3, true), (4, true), (5, true), (6, true), (7, true), (8, true), (9, true), (10, true), (11, true), (12, true), (13, true), (14, true), (15, true), (16, true), (17, true), (18, true), (19, true), (20, true), (21, true), (22, true), (23, true), (24, true), (25, true), (26, true), (27, true), (28, true), (29, true), (30, true), (31, true), (32, true), (33, true), (34, true), (35, true), (36, true), (37, true), (38, true), (39, true)] from rfl, rslv_cons, rslv_nil, List.getElem?_toArray, List.getElem?_cons_zero, List.getElem?_cons_succ, gres]
        iterate 40 (refine seqX_hide2 fun R hR => ?_; simp [go_sem, hb1, hi, hii, h1, h1i, h2, h2i, g0, g3, g5, d963, d396, hcz, hco, hfix, hk1, ha1, hnc, hn1, hn2]; refine hR _ _ _ ?_; clear hR R)
        rw [seqX_nil]
        refine hK _ _ _ ?_; clear hK K
        refine hN18 _ _ _ ?_
        simp [go_sem, hb1, hi, hii, h1, h1i, h2, h2i, g0, g3, g5, d963, d396, hcz, hco, hfix, hk1, ha1, hnc, hn1, hn2]
        exact View.le_trans hD (View.le_trans hE5 (le_ov hP))
    by_cases h3 : 0 < tz
    · have h4 : ¬ tz < l.length := fun h => h34 ⟨h3, h⟩
      refine hR _ _ _ ?_; clear hR R
      iterate 12 (refine seqX_hide2 fun R hR => ?_; simp [go_sem, hb1, g0, g3, g4, g5, g22, g23, g24, hi, hii, h1, h1i, h2, h2i, h3, h4]; refine hR _ _ _ ?_; clear hR R)
      rw [seqX_nil]
      refine hK _ _ _ ?_; clear hK K
      refine hN11 _ _ _ ?_
      refine xc_iffalse (by simp [go_sem, hb1, g0, g3, g4, g5, g22, g23, g24, hi, hii, h1, h1i, h2, h2i, h3, h4]) ?_
      exact tl  _ hP (by simp [go_sem, hb1, g0, g3, g4, g5, g22, g23, g24, hi, hii, h1, h1i, h2, h2i, h3, h4]) (by simp [go_sem, hb1, g0, g3, g4, g5, g22, g23, g24, hi, hii, h1, h1i, h2, h2i, h3, h4]) (by simp [go_sem, hb1, g0, g3, g4, g5, g22, g23, g24, hi, hii, h1, h1i, h2, h2i, h3, h4])
    refine hR _ _ _ ?_; clear hR R
    iterate 12 (refine seqX_hide2 fun R hR => ?_; simp [go_sem, hb1, g0, g3, g4, g5, g22, g23, g24, hi, hii, h1, h1i, h2, h2i, h3]; refine hR _ _ _ ?_; clear hR R)
    rw [seqX_nil]
    refine hK _ _ _ ?_; clear hK K
    refine hN11 _ _ _ ?_
    refine xc_iffalse (by simp [go_sem, hb1, g0, g3, g4, g5, g22, g23, g24, hi, hii, h1, h1i, h2, h2i, h3]) ?_
    exact tl  _ hP (by simp [go_sem, hb1, g0, g3, g4, g5, g22, g23, g24, hi, hii, h1, h1i, h2, h2i, h3]) (by simp [go_sem, hb1, g0, g3, g4, g5, g22, g23, g24, hi, hii, h1, h1i, h2, h2i, h3]) (by simp [go_sem, hb1, g0, g3, g4, g5, g22, g23, g24, hi, hii, h1, h1i, h2, h2i, h3])
  obtain ⟨bs', cap', f1, hel⟩ := hv
  simp only [Value.slice.injEq, true_and] at f1
  obtain ⟨rfl, rfl⟩ := f1
  obtain ⟨a1, ci, rfl, u1, hci0⟩ := hel i hi
  have hii : (i : Int) < l.length := by omega
  have u1 := le_cells hAD _ _ _ u1
  have hci := hci0.le hAD
  have hkl := (hsb _ (List.getElem_mem hi)).len
  obtain ⟨k, st, tag, val, an, h, ln, f, row, col, al, kk, hkk⟩ := (l[i]).ex
  have htk : (l.take (i + 1)).countP (hasF vName) = (l.take i).countP (hasF vName) + if hasF vName l[i] then 1 else 0 := by
    rw [List.take_succ_eq_append_getElem hi, List.countP_append, List.countP_singleton]
  rw [hkk] at hci hkl htk
  replace hkl : kk.length ≤ 1125899906842624 := hkl
  have hci1 := hci
  obtain ⟨bb, bc0, rfl, hT⟩ := hci.open
  refine xc_two fun N8 hN8 => ?_
  refine xc_reg1 1 rfl fun K hK => ?_
  simp only [show (List.range 1).map (·, true) = [(0, true)] from rfl, rslv_cons, rslv_nil, List.getElem?_toArray, List.getElem?_cons_zero, List.getElem?_cons_succ, gres]
  (refine seqX_hide2 fun R hR => ?_; simp [go_sem, hb1, g0, g3, g4, g5, g22, g23, g24, hi, hii, hw1, bcs hP u1]; refine hR _ _ _ ?_; clear hR R)
  rw [seqX_nil]
  refine hK _ _ _ ?_; clear hK K
  refine hN8 _ _ _ ?_
  refine xc_two fun N9 hN9 => ?_
  refine xc_iftrue (by simp [go_sem, hb1, g0, g3, g4, g5, g22, g23, g24, hi, hii, hw1, bcs hP u1]) ?_
  refine hN9 _ _ _ ?_
  refine xc_two fun N10 hN10 => ?_
  rw [xc_block]
  refine xc_two fun N11 hN11 => ?_
  refine xc_reg1 4 rfl fun K hK => ?_
  simp only [show (List.range 4).map (·, true) = [(0, true), (1, true), (2, true), (3, true)] from rfl, rslv_cons, rslv_nil, List.getElem?_toArray, List.getElem?_cons_zero, List.getElem?_cons_succ, gres]
  iterate 2 (refine seqX_hide2 fun R hR => ?_; simp [go_sem, hb1, g0, g3, g4, g5, g22, g23, g24, hi, hii, hw1, bcs hP u1]; refine hR _ _ _ ?_; clear hR R)
  refine seqX_hide2 fun R hR => ?_
  simp [go_sem, hb1, g0, g3, g4, g5, g22, g23, g24, hi, hii, hw1, bcs hP u1]
  intro q7 hq7
  replace hP := hP.cons hq7
  clear hq7
  have d73 : q7 ≠ q3 := (hP.ne q3 (by simp [addrs])).1
  have d37 : q3 ≠ q7 := (hP.ne q3 (by simp [addrs])).2
  refine hR _ _ _ ?_; clear hR R
  refine seqX_hide2 fun R hR => ?_
  simp [go_sem, hb1, g0, g3, g4, g5, g22, g23, g24, hi, hii, hw1, bcs hP u1, d73, d37]
  refine hR _ _ _ ?_; clear hR R
  rw [seqX_nil]
  refine hK _ _ _ ?_; clear hK K
  refine hN11 _ _ _ ?_
  refine xc_two fun N12 hN12 => ?_
  refine xc_two fun N13 hN13 => ?_
  have jn : ∀ (tz2 : Int) (e : Env), Priv D [q7, q3] → e 0 = .slice (some a1) l.length vc → e 3 = .pointer (some ⟨q3, 0, none⟩) → e 4 = .int .i64 tz2 → e 5 = .int .i64 n → e 7 = .pointer (some ⟨q7, 0, none⟩) → e 22 = .slice (some a1) l.length vc → e 23 = .int .i64 l.length → e 24 = .int .i64 i → N12 e [] (ov D [(q7, .cells (trc k st tag val an h ln f row col al (.slice bb kk.length bc0)) 33 (0, 0)), (q3, .cells (trc 2 0 tSeq e0 e0 e0 e0 e0 0 0 (-1) (.slice (some a1) l.length vc)) 33 (0, 0))]) := by
    clear g0 g3 g4 g5 g22 g23 g24
    clear hP
    intro tz2 e hP g0 g3 g4 g5 g7 g22 g23 g24
    refine hN12 _ _ _ ?_
    refine xc_two fun N14 hN14 => ?_
    refine xc_reg1 4 rfl fun K hK => ?_
    simp only [show (List.range 4).map (·, true) = [(0, true), (1, true), (2, true), (3, true)] from rfl, rslv_cons, rslv_nil, List.getElem?_toArray, List.getElem?_cons_zero, List.getElem?_cons_succ, gres]
    (refine seqX_hide2 fun R hR => ?_; simp [go_sem, hb1, hi, hii, hw1, d73, d37, g0, g3, g4, g5, g7, g22, g23, g24]; refine hR _ _ _ ?_; clear hR R)
    refine seqX_hide2 fun R hR => ?_
    simp [go_sem, hb1, hi, hii, hw1, d73, d37, g0, g3, g4, g5, g7, g22, g23, g24]
    refine call_ov hP (one11 D _ _ hci1) ?_
    clear hP
    rintro r1 D1 ⟨hr1, hD1⟩ hP
    refine hR _ _ _ ?_; clear hR R
    refine seqX_hide2 fun R hR => ?_
    simp [go_sem, hb1, hi, hii, hw1, d73, d37, g0, g3, g4, g5, g7, g22, g23, g24]
    refine call_ov hP (field10 D1 _ r1 vName hr1 (by simp) (fun t ht => by rw [List.mem_singleton] at ht; subst ht; exact hkl)) ?_
    clear hP
    rintro r2 D2 ⟨hr2, hD2⟩ hP
    have hD2 := View.le_trans hD1 hD2
    rw [ffl_one] at hr2
    cases hfo : fldOf (.mk k st tag val an h ln f row col al kk) vName with
    | none =>
      rw [hfo] at hr2
      obtain ⟨wb, wc, rfl⟩ := hr2.slice
      rw [show hasF vName (.mk k st tag val an h ln f row col al kk) = false by rw [hasF, hfo]; rfl] at htk
      refine hR _ _ _ ?_; clear hR R
      (refine seqX_hide2 fun R hR => ?_; simp [go_sem, hb1, hi, hii, hw1, d73, d37, g0, g3, g4, g5, g7, g22, g23, g24]; refine hR _ _ _ ?_; clear hR R)
      rw [seqX_nil]
      refine hK _ _ _ ?_; clear hK K
      refine hN14 _ _ _ ?_
      refine xc_two fun N15 hN15 => ?_
      refine xc_reg1 3 rfl fun K hK => ?_
      simp only [show (List.range 3).map (·, true) = [(0, true), (1, true), (2, true)] from rfl, rslv_cons, rslv_nil, List.getElem?_toArray, List.getElem?_cons_zero, List.getElem?_cons_succ, gres]
      iterate 3 (refine seqX_hide2 fun R hR => ?_; simp [go_sem, hb1, hi, hii, hw1, d73, d37, g0, g3, g4, g5, g7, g22, g23, g24]; refine hR _ _ _ ?_; clear hR R)
      rw [seqX_nil]
      refine hK _ _ _ ?_; clear hK K
      refine hN15 _ _ _ ?_
      refine xc_iffalse (by simp [go_sem, hb1, hi, hii, hw1, d73, d37, g0, g3, g4, g5, g7, g22, g23, g24]) ?_
      refine hN10 _ _ _ ?_
      refine xc_reg1 2 rfl fun K hK => ?_
      simp only [show (List.range 2).map (·, true) = [(0, true), (1, true)] from rfl, rslv_cons, rslv_nil, List.getElem?_toArray, List.getElem?_cons_zero, List.getElem?_cons_succ, gres]
      iterate 2 (refine seqX_hide2 fun R hR => ?_; simp [go_sem, hb1, hi, hii, hw1, d73, d37, g0, g3, g4, g5, g7, g22, g23, g24]; refine hR _ _ _ ?_; clear hR R)
      rw [seqX_nil]
      refine hK _ _ _ ?_; clear hK K
      refine sink_goal 0 hP rfl fun hPn lq7 nq7 => ?_
      clear hP; have hP := hPn; clear hPn
      simp only [List.eraseIdx_cons_zero, List.eraseIdx_cons_succ, addrs_cons, addrs_nil] at hP ⊢
      refine hJ1 (l.length - (i + 1)) _ _ _ (by omega) ⟨i + 1, n, tz2, _, rfl, rfl, rfl, hP, by simp [go_sem, hb1, hi, hii, hw1, d73, d37, g0, g3, g4, g5, g7, g22, g23, g24], by simp [go_sem, hb1, hi, hii, hw1, d73, d37, g0, g3, g4, g5, g7, g22, g23, g24], by simp [go_sem, hb1, hi, hii, hw1, d73, d37, g0, g3, g4, g5, g7, g22, g23, g24], by simp [go_sem, hb1, hi, hii, hw1, d73, d37, g0, g3, g4, g5, g7, g22, g23, g24], by simp [go_sem, hb1, hi, hii, hw1, d73, d37, g0, g3, g4, g5, g7, g22, g23, g24], by simp [go_sem, hb1, hi, hii, hw1, d73, d37, g0, g3, g4, g5, g7, g22, g23, g24], by simp [go_sem, hb1, hi, hii, hw1, d73, d37, g0, g3, g4, g5, g7, g22, g23, g24], by omega, View.le_trans hAD (View.le_trans hD2 lq7), by rw [htk, ← hn]; rfl⟩
    | some x =>
      rw [hfo] at hr2
      obtain ⟨wb, wc, rfl⟩ := hr2.slice
      rw [show hasF vName (.mk k st tag val an h ln f row col al kk) = true by rw [hasF, hfo]; rfl] at htk
      obtain ⟨bs', cap', f1, hel2⟩ := hr2
      simp only [Value.slice.injEq, true_and] at f1
      obtain ⟨rfl, rfl⟩ := f1
      obtain ⟨a2, c2, rfl, w2, hc2⟩ := hel2 0 (by simp)
      rw [show a2.add (0 * 12) = a2 from if_pos rfl] at w2
      obtain ⟨-, z2, -⟩ := hc2.at2
      have vj := cell_in w2 (by decide) (by decide) z2
      refine hR _ _ _ ?_; clear hR R
      (refine seqX_hide2 fun R hR => ?_; simp [go_sem, hb1, hi, hii, hw1, d73, d37, g0, g3, g4, g5, g7, g22, g23, g24, bc hP vj]; refine hR _ _ _ ?_; clear hR R)
      rw [seqX_nil]
      refine hK _ _ _ ?_; clear hK K
      refine hN14 _ _ _ ?_
      refine xc_two fun N15 hN15 => ?_
      refine xc_reg1 3 rfl fun K hK => ?_
      simp only [show (List.range 3).map (·, true) = [(0, true), (1, true), (2, true)] from rfl, rslv_cons, rslv_nil, List.getElem?_toArray, List.getElem?_cons_zero, List.getElem?_cons_succ, gres]
      iterate 3 (refine seqX_hide2 fun R hR => ?_; simp [go_sem, hb1, hi, hii, hw1, d73, d37, g0, g3, g4, g5, g7, g22, g23, g24, bc hP vj]; refine hR _ _ _ ?_; clear hR R)
      rw [seqX_nil]
      refine hK _ _ _ ?_; clear hK K
      refine hN15 _ _ _ ?_
      by_cases htg : x.tag = tStr
      · have hti : x.tag.toList = [33, 33, 115, 116, 114] := by rw [htg]; kernel_rfl
        refine xc_iftrue (by simp [go_sem, hb1, hi, hii, hw1, d73, d37, g0, g3, g4, g5, g7, g22, g23, g24, bc hP vj, hti, hw2]) ?_
        refine xc_two fun N16 hN16 => ?_
        refine xc_two fun N17 hN17 => ?_
        refine xc_reg1 5 rfl fun K hK => ?_
        simp only [show (List.range 5).map (·, true) = [(0, true), (1, true), (2, true), (3, true), (4, true)] from rfl, rslv_cons, rslv_nil, List.getElem?_toArray, List.getElem?_cons_zero, List.getElem?_cons_succ, gres]
        iterate 5 (refine seqX_hide2 fun R hR => ?_; simp [go_sem, hb1, hi, hii, hw1, d73, d37, g0, g3, g4, g5, g7, g22, g23, g24, bc hP vj, hti, hw2]; refine hR _ _ _ ?_; clear hR R)
        rw [seqX_nil]
        refine hK _ _ _ ?_; clear hK K
        refine hN17 _ _ _ ?_
        refine xc_iffalse (by simp [go_sem, hb1, hi, hii, hw1, d73, d37, g0, g3, g4, g5, g7, g22, g23, g24, bc hP vj, hti, hw2]) ?_
        refine hN16 _ _ _ ?_
        refine xc_reg1 3 rfl fun K hK => ?_
        simp only [show (List.range 3).map (·, true) = [(0, true), (1, true), (2, true)] from rfl, rslv_cons, rslv_nil, List.getElem?_toArray, List.getElem?_cons_zero, List.getElem?_cons_succ, gres]
        iterate 3 (refine seqX_hide2 fun R hR => ?_; simp [go_sem, hb1, hi, hii, hw1, d73, d37, g0, g3, g4, g5, g7, g22, g23, g24, bc hP vj, hti, hw2]; refine hR _ _ _ ?_; clear hR R)
        rw [seqX_nil]
        refine hK _ _ _ ?_; clear hK K
        refine hN10 _ _ _ ?_
        refine xc_reg1 2 rfl fun K hK => ?_
        simp only [show (List.range 2).map (·, true) = [(0, true), (1, true)] from rfl, rslv_cons, rslv_nil, List.getElem?_toArray, List.getElem?_cons_zero, List.getElem?_cons_succ, gres]
        iterate 2 (refine seqX_hide2 fun R hR => ?_; simp [go_sem, hb1, hi, hii, hw1, d73, d37, g0, g3, g4, g5, g7, g22, g23, g24, bc hP vj, hti, hw2]; refine hR _ _ _ ?_; clear hR R)
        rw [seqX_nil]
        refine hK _ _ _ ?_; clear hK K
        refine sink_goal 0 hP rfl fun hPn lq7 nq7 => ?_
        clear hP; have hP := hPn; clear hPn
        simp only [List.eraseIdx_cons_zero, List.eraseIdx_cons_succ, addrs_cons, addrs_nil] at hP ⊢
        refine hJ1 (l.length - (i + 1)) _ _ _ (by omega) ⟨i + 1, n + 1, tz2, _, rfl, rfl, rfl, hP, by simp [go_sem, hb1, hi, hii, hw1, d73, d37, g0, g3, g4, g5, g7, g22, g23, g24, hti, hw2], by simp [go_sem, hb1, hi, hii, hw1, d73, d37, g0, g3, g4, g5, g7, g22, g23, g24, hti, hw2], by simp [go_sem, hb1, hi, hii, hw1, d73, d37, g0, g3, g4, g5, g7, g22, g23, g24, hti, hw2], by simp [go_sem, hb1, hi, hii, hw1, d73, d37, g0, g3, g4, g5, g7, g22, g23, g24, hti, hw2], by simp [go_sem, hb1, hi, hii, hw1, d73, d37, g0, g3, g4, g5, g7, g22, g23, g24, hti, hw2], by simp [go_sem, hb1, hi, hii, hw1, d73, d37, g0, g3, g4, g5, g7, g22, g23, g24, hti, hw2], by simp [go_sem, hb1, hi, hii, hw1, d73, d37, g0, g3, g4, g5, g7, g22, g23, g24, hti, hw2], by omega, View.le_trans hAD (View.le_trans hD2 lq7), by rw [htk, ← hn]; rfl⟩
      have hti : ¬ x.tag.toList = [33, 33, 115, 116, 114] := fun e => bytes_ne htg (e.trans (by kernel_rfl))
      refine xc_iftrue (by simp [go_sem, hb1, hi, hii, hw1, d73, d37, g0, g3, g4, g5, g7, g22, g23, g24, bc hP vj, hti]) ?_
      refine xc_two fun N16 hN16 => ?_
      refine xc_two fun N17 hN17 => ?_
      refine xc_reg1 5 rfl fun K hK => ?_
      simp only [show (List.range 5).map (·, true) = [(0, true), (1, true), (2, true), (3, true), (4, true)] from rfl, rslv_cons, rslv_nil, List.getElem?_toArray, List.getElem?_cons_zero, List.getElem?_cons_succ, gres]
      iterate 5 (refine seqX_hide2 fun R hR => ?_; simp [go_sem, hb1, hi, hii, hw1, d73, d37, g0, g3, g4, g5, g7, g22, g23, g24, bc hP vj, hti]; refine hR _ _ _ ?_; clear hR R)
      rw [seqX_nil]
      refine hK _ _ _ ?_; clear hK K
      refine hN17 _ _ _ ?_
      refine xc_iftrue (by simp [go_sem, hb1, hi, hii, hw1, d73, d37, g0, g3, g4, g5, g7, g22, g23, g24, bc hP vj, hti]) ?_
      refine xc_two fun N18 hN18 => ?_
      refine xc_reg1 1 rfl fun K hK => ?_
      simp only [show (List.range 1).map (·, true) = [(0, true)] from rfl, rslv_cons, rslv_nil, List.getElem?_toArray, List.getElem?_cons_zero, List.getElem?_cons_succ, gres]
      (refine seqX_hide2 fun R hR => ?_; simp [go_sem, hb1, hi, hii, hw1, d73, d37, g0, g3, g4, g5, g7, g22, g23, g24, bc hP vj, hti]; refine hR _ _ _ ?_; clear hR R)
      rw [seqX_nil]
      refine hK _ _ _ ?_; clear hK K
      refine hN18 _ _ _ ?_
      refine hX1 _ _ _ _ ?_
      simp [go_sem, hb1, hi, hii, hw1, d73, d37, g0, g3, g4, g5, g7, g22, g23, g24, bc hP vj, hti]
      exact View.le_trans hAD (View.le_trans hD2 (le_ov hP))
  by_cases hk8 : k = 8
  · subst hk8
    by_cases htg : tag = tStr
    · have hti : tag.toList = [33, 33, 115, 116, 114] := by rw [htg]; kernel_rfl
      refine xc_reg1 8 rfl fun K hK => ?_
      simp only [show (List.range 8).map (·, true) = [(0, true), (1, true), (2, true), (3, true), (4, true), (5, true), (6, true), (7, true)] from rfl, rslv_cons, rslv_nil, List.getElem?_toArray, List.getElem?_cons_zero, List.getElem?_cons_succ, gres]
      iterate 8 (refine seqX_hide2 fun R hR => ?_; simp [go_sem, hb1, g0, g3, g4, g5, g22, g23, g24, hi, hii, hw1, d73, d37, hti]; refine hR _ _ _ ?_; clear hR R)
      rw [seqX_nil]
      refine hK _ _ _ ?_; clear hK K
      refine hN13 _ _ _ ?_
      refine xc_iftrue (by simp [go_sem, hb1, g0, g3, g4, g5, g22, g23, g24, hi, hii, hw1, d73, d37, hti]) ?_
      refine xc_reg1 3 rfl fun K hK => ?_
      simp only [show (List.range 3).map (·, true) = [(0, true), (1, true), (2, true)] from rfl, rslv_cons, rslv_nil, List.getElem?_toArray, List.getElem?_cons_zero, List.getElem?_cons_succ, gres]
      iterate 3 (refine seqX_hide2 fun R hR => ?_; simp [go_sem, hb1, g0, g3, g4, g5, g22, g23, g24, hi, hii, hw1, d73, d37, hti]; refine hR _ _ _ ?_; clear hR R)
      rw [seqX_nil]
      refine hK _ _ _ ?_; clear hK K
      exact jn (IntKind.i64.wrap (tz + 1)) _ hP (by simp [go_sem, hb1, g0, g3, g4, g5, g22, g23, g24, hi, hii, hw1, d73, d37, hti]) (by simp [go_sem, hb1, g0, g3, g4, g5, g22, g23, g24, hi, hii, hw1, d73, d37, hti]) (by simp [go_sem, hb1, g0, g3, g4, g5, g22, g23, g24, hi, hii, hw1, d73, d37, hti]) (by simp [go_sem, hb1, g0, g3, g4, g5, g22, g23, g24, hi, hii, hw1, d73, d37, hti]) (by simp [go_sem, hb1, g0, g3, g4, g5, g22, g23, g24, hi, hii, hw1, d73, d37, hti]) (by simp [go_sem, hb1, g0, g3, g4, g5, g22, g23, g24, hi, hii, hw1, d73, d37, hti]) (by simp [go_sem, hb1, g0, g3, g4, g5, g22, g23, g24, hi, hii, hw1, d73, d37, hti]) (by simp [go_sem, hb1, g0, g3, g4, g5, g22, g23, g24, hi, hii, hw1, d73, d37, hti])
    have hti : ¬ tag.toList = [33, 33, 115, 116, 114] := fun e => bytes_ne htg (e.trans (by kernel_rfl))
    refine xc_reg1 8 rfl fun K hK => ?_
    simp only [show (List.range 8).map (·, true) = [(0, true), (1, true), (2, true), (3, true), (4, true), (5, true), (6, true), (7, true)] from rfl, rslv_cons, rslv_nil, List.getElem?_toArray, List.getElem?_cons_zero, List.getElem?_cons_succ, gres]
    iterate 8 (refine seqX_hide2 fun R hR => ?_; simp [go_sem, hb1, g0, g3, g4, g5, g22, g23, g24, hi, hii, hw1, d73, d37, hti]; refine hR _ _ _ ?_; clear hR R)
    rw [seqX_nil]
    refine hK _ _ _ ?_; clear hK K
    refine hN13 _ _ _ ?_
    refine xc_iffalse (by simp [go_sem, hb1, g0, g3, g4, g5, g22, g23, g24, hi, hii, hw1, d73, d37, hti]) ?_
    refine xc_two fun N14 hN14 => ?_
    refine xc_reg1 3 rfl fun K hK => ?_
    simp only [show (List.range 3).map (·, true) = [(0, true), (1, true), (2, true)] from rfl, rslv_cons, rslv_nil, List.getElem?_toArray, List.getElem?_cons_zero, List.getElem?_cons_succ, gres]
    iterate 3 (refine seqX_hide2 fun R hR => ?_; simp [go_sem, hb1, g0, g3, g4, g5, g22, g23, g24, hi, hii, hw1, d73, d37, hti]; refine hR _ _ _ ?_; clear hR R)
    rw [seqX_nil]
    refine hK _ _ _ ?_; clear hK K
    refine hN14 _ _ _ ?_
    refine xc_iftrue (by simp [go_sem, hb1, g0, g3, g4, g5, g22, g23, g24, hi, hii, hw1, d73, d37, hti]) ?_
    refine xc_two fun N15 hN15 => ?_
    refine xc_reg1 1 rfl fun K hK => ?_
    simp only [show (List.range 1).map (·, true) = [(0, true)] from rfl, rslv_cons, rslv_nil, List.getElem?_toArray, List.getElem?_cons_zero, List.getElem?_cons_succ, gres]
    (refine seqX_hide2 fun R hR => ?_; simp [go_sem, hb1, g0, g3, g4, g5, g22, g23, g24, hi, hii, hw1, d73, d37, hti]; refine hR _ _ _ ?_; clear hR R)
    rw [seqX_nil]
    refine hK _ _ _ ?_; clear hK K
    refine hN15 _ _ _ ?_
    refine hX1 _ _ _ _ ?_
    simp [go_sem, hb1, g0, g3, g4, g5, g22, g23, g24, hi, hii, hw1, d73, d37, hti]
    exact View.le_trans hAD (le_ov hP)
  have hkb8 : (k == 8) = false := beq_eq_false_iff_ne.2 hk8
  by_cases hk4 : k = 4
  · subst hk4
    refine xc_reg1 8 rfl fun K hK => ?_
    simp only [show (List.range 8).map (·, true) = [(0, true), (1, true), (2, true), (3, true), (4, true), (5, true), (6, true), (7, true)] from rfl, rslv_cons, rslv_nil, List.getElem?_toArray, List.getElem?_cons_zero, List.getElem?_cons_succ, gres]
    iterate 8 (refine seqX_hide2 fun R hR => ?_; simp [go_sem, hb1, g0, g3, g4, g5, g22, g23, g24, hi, hii, hw1, d73, d37, hk8, hkb8]; refine hR _ _ _ ?_; clear hR R)
    rw [seqX_nil]
    refine hK _ _ _ ?_; clear hK K
    refine hN13 _ _ _ ?_
    refine xc_iffalse (by simp [go_sem, hb1, g0, g3, g4, g5, g22, g23, g24, hi, hii, hw1, d73, d37, hk8, hkb8]) ?_
    refine xc_two fun N14 hN14 => ?_
    refine xc_reg1 3 rfl fun K hK => ?_
    simp only [show (List.range 3).map (·, true) = [(0, true), (1, true), (2, true)] from rfl, rslv_cons, rslv_nil, List.getElem?_toArray, List.getElem?_cons_zero, List.getElem?_cons_succ, gres]
    iterate 3 (refine seqX_hide2 fun R hR => ?_; simp [go_sem, hb1, g0, g3, g4, g5, g22, g23, g24, hi, hii, hw1, d73, d37, hk8, hkb8]; refine hR _ _ _ ?_; clear hR R)
    rw [seqX_nil]
    refine hK _ _ _ ?_; clear hK K
    refine hN14 _ _ _ ?_
    refine xc_iffalse (by simp [go_sem, hb1, g0, g3, g4, g5, g22, g23, g24, hi, hii, hw1, d73, d37, hk8, hkb8]) ?_
    exact jn (tz) _ hP (by simp [go_sem, hb1, g0, g3, g4, g5, g22, g23, g24, hi, hii, hw1, d73, d37, hk8, hkb8]) (by simp [go_sem, hb1, g0, g3, g4, g5, g22, g23, g24, hi, hii, hw1, d73, d37, hk8, hkb8]) (by simp [go_sem, hb1, g0, g3, g4, g5, g22, g23, g24, hi, hii, hw1, d73, d37, hk8, hkb8]) (by simp [go_sem, hb1, g0, g3, g4, g5, g22, g23, g24, hi, hii, hw1, d73, d37, hk8, hkb8]) (by simp [go_sem, hb1, g0, g3, g4, g5, g22, g23, g24, hi, hii, hw1, d73, d37, hk8, hkb8]) (by simp [go_sem, hb1, g0, g3, g4, g5, g22, g23, g24, hi, hii, hw1, d73, d37, hk8, hkb8]) (by simp [go_sem, hb1, g0, g3, g4, g5, g22, g23, g24, hi, hii, hw1, d73, d37, hk8, hkb8]) (by simp [go_sem, hb1, g0, g3, g4, g5, g22, g23, g24, hi, hii, hw1, d73, d37, hk8, hkb8])
  have hkb4 : (k == 4) = false := beq_eq_false_iff_ne.2 hk4
  refine xc_reg1 8 rfl fun K hK => ?_
  simp only [show (List.range 8).map (·, true) = [(0, true), (1, true), (2, true), (3, true), (4, true), (5, true), (6, true), (7, true)] from rfl, rslv_cons, rslv_nil, List.getElem?_toArray, List.getElem?_cons_zero, List.getElem?_cons_succ, gres]
  iterate 8 (refine seqX_hide2 fun R hR => ?_; simp [go_sem, hb1, g0, g3, g4, g5, g22, g23, g24, hi, hii, hw1, d73, d37, hk8, hkb8, hk4, hkb4]; refine hR _ _ _ ?_; clear hR R)
  rw [seqX_nil]
  refine hK _ _ _ ?_; clear hK K
  refine hN13 _ _ _ ?_
  refine xc_iffalse (by simp [go_sem, hb1, g0, g3, g4, g5, g22, g23, g24, hi, hii, hw1, d73, d37, hk8, hkb8, hk4, hkb4]) ?_
  refine xc_two fun N14 hN14 => ?_
  refine xc_reg1 3 rfl fun K hK => ?_
  simp only [show (List.range 3).map (·, true) = [(0, true), (1, true), (2, true)] from rfl, rslv_cons, rslv_nil, List.getElem?_toArray, List.getElem?_cons_zero, List.getElem?_cons_succ, gres]
  iterate 3 (refine seqX_hide2 fun R hR => ?_; simp [go_sem, hb1, g0, g3, g4, g5, g22, g23, g24, hi, hii, hw1, d73, d37, hk8, hkb8, hk4, hkb4]; refine hR _ _ _ ?_; clear hR R)
  rw [seqX_nil]
  refine hK _ _ _ ?_; clear hK K
  refine hN14 _ _ _ ?_
  refine xc_iftrue (by simp [go_sem, hb1, g0, g3, g4, g5, g22, g23, g24, hi, hii, hw1, d73, d37, hk8, hkb8, hk4, hkb4]) ?_
  refine xc_two fun N15 hN15 => ?_
  refine xc_reg1 1 rfl fun K hK => ?_
  simp only [show (List.range 1).map (·, true) = [(0, true)] from rfl, rslv_cons, rslv_nil, List.getElem?_toArray, List.getElem?_cons_zero, List.getElem?_cons_succ, gres]
  (refine seqX_hide2 fun R hR => ?_; simp [go_sem, hb1, g0, g3, g4, g5, g22, g23, g24, hi, hii, hw1, d73, d37, hk8, hkb8, hk4, hkb4]; refine hR _ _ _ ?_; clear hR R)
  rw [seqX_nil]
  refine hK _ _ _ ?_; clear hK K
  refine hN15 _ _ _ ?_
  refine hX1 _ _ _ _ ?_
  simp [go_sem, hb1, g0, g3, g4, g5, g22, g23, g24, hi, hii, hw1, d73, d37, hk8, hkb8, hk4, hkb4]
  exact View.le_trans hAD (le_ov hP)
end Go.Proofs.YthjbgpmcfcijgaaDoorV

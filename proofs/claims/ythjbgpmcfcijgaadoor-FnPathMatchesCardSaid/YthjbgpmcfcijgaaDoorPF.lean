/- Shell patterns: getEsc, zzIndex. -/
import Derived.Test.YthjbgpmcfcijgaaDoorPE
namespace Go.Proofs.YthjbgpmcfcijgaaDoorV
open Go.RowKit
open Pm (nb nb_len nb_get nb_drop nb_nil nb_cons nb_extract extract_size' chr1)
set_option linter.unusedSimpArgs false
set_option linter.unusedVariables false
/-- What getEsc tells. -/
def Esc (l : List Nat) (r : Value) : Prop := (chr1 l = none ∧ ∃ x t i y, r = .tuple #[x, .string t, .iface i y]) ∨ ∃ (c : Nat) (q : List Nat) (t : ByteArray), chr1 l = some (c, q) ∧ r = .tuple #[.int .i32 c, .string t, .nilIface] ∧ nb t = q
def chr0 (l : List Nat) : Option (Nat × List Nat) := match l with
  | c :: e :: r => some (c, e :: r)
  | _ => none
theorem chr1_lit {c : Nat} {r : List Nat} (h1 : c ≠ 45) (h2 : c ≠ 93) (h3 : c ≠ 92) : chr1 (c :: r) = chr0 (c :: r) := by
  unfold chr1
  simp only
  rw [if_neg (by rintro (h | h); exact h1 h; exact h2 h), if_neg h3]
  cases r <;> rfl
theorem chr1_esc {r : List Nat} : chr1 (92 :: r) = chr0 r := by
  cases r with
  | nil => simp [chr1, chr0]
  | cons c r => cases r <;> simp [chr1, chr0]
set_option maxRecDepth 20000 in
theorem getEsc54 (A : View) (s : ByteArray) (hs : s.size ≤ 2147483648) (ha : Asc s) : VCalls Tryd.prog 54 #[.string s] A fun r A' => Esc (nb s) r ∧ A ≤ A' := by
  refine xcalls Tryd.func54 rfl (by simp [Tryd.ntmps54]) ?_
  simp only [Tryd.f54]
  have hP : Priv A (addrs []) := Priv.nil A
  show xc _ _ _ _ _ _ (ov A [])
  by_cases h0 : 0 < s.size
  rotate_left
  · have hz : s.size = 0 := by omega
    have hz0 : ¬ (0 : Int) < s.size := by omega
    have hnb : nb s = [] := nb_nil.2 hz
    refine xc_two fun N1 hN1 => ?_
    refine xc_reg1 3 rfl fun K hK => ?_
    simp only [show (List.range 3).map (·, true) = [(0, true), (1, true), (2, true)] from rfl, rslv_cons, rslv_nil, List.getElem?_toArray, List.getElem?_cons_zero, List.getElem?_cons_succ, gres]
    iterate 3 (refine seqX_hide2 fun R hR => ?_; simp [go_sem, hz, h0, hz0]; refine hR _ _ _ ?_; clear hR R)
    rw [seqX_nil]
    refine hK _ _ _ ?_; clear hK K
    refine hN1 _ _ _ ?_
    refine xc_two fun N2 hN2 => ?_
    refine xc_two fun N3 hN3 => ?_
    refine xc_reg1 13 rfl fun K hK => ?_
    simp only [show (List.range 13).map (·, true) = [(0, true), (1, true), (2, true), (3, true), (4, true), (5, true), (6, true), (7, true), (8, true), (9, true), (10, true), (11, true), (12, true)] from rfl, rslv_cons, rslv_nil, List.getElem?_toArray, List.getElem?_cons_zero, List.getElem?_cons_succ, gres]
    iterate 13 (refine seqX_hide2 fun R hR => ?_; simp [go_sem, hz, h0, hz0]; refine hR _ _ _ ?_; clear hR R)
    rw [seqX_nil]
    refine hK _ _ _ ?_; clear hK K
    refine hN3 _ _ _ ?_
    refine xc_iftrue (by simp [go_sem, hz, h0, hz0]) ?_
    refine xc_two fun N4 hN4 => ?_
    refine xc_reg1 2 rfl fun K hK => ?_
    simp only [show (List.range 2).map (·, true) = [(0, true), (1, true)] from rfl, rslv_cons, rslv_nil, List.getElem?_toArray, List.getElem?_cons_zero, List.getElem?_cons_succ, gres]
    refine seqX_hide2 fun R hR => ?_
    simp [go_sem, hz, h0, hz0]
    refine call_ov hP (bad55 A) ?_
    clear hP
    rintro _ A1 ⟨⟨t, y, rfl⟩, hA1⟩ hP
    refine hR _ _ _ ?_; clear hR R
    (refine seqX_hide2 fun R hR => ?_; simp [go_sem, hz, h0, hz0]; refine hR _ _ _ ?_; clear hR R)
    rw [seqX_nil]
    refine hK _ _ _ ?_; clear hK K
    refine hN4 _ _ _ ?_
    simp [go_sem, hz, h0, hz0]
    exact ⟨.inl ⟨by rw [hnb]; rfl, _, _, _, _, rfl⟩, hA1⟩
  have hg : s[0]? = some s[0] := getElem?_pos s 0 h0
  have ha0 := ha.at' h0
  have hz : (s.size : Int) ≠ 0 := by omega
  have hzb : ((s.size : Int) == 0) = false := beq_eq_false_iff_ne.2 (by omega)
  have hz2 : s.size ≠ 0 := by omega
  have h1s : 1 ≤ s.size := by omega
  have h1i : (1 : Int) ≤ s.size := by omega
  have hcons := nb_cons h0
  by_cases hd : s[0].toNat = 45
  · have hb : ((s[0].toNat : Int) == 45) = true := by simp [hd]
    refine xc_two fun N1 hN1 => ?_
    refine xc_reg1 3 rfl fun K hK => ?_
    simp only [show (List.range 3).map (·, true) = [(0, true), (1, true), (2, true)] from rfl, rslv_cons, rslv_nil, List.getElem?_toArray, List.getElem?_cons_zero, List.getElem?_cons_succ, gres]
    iterate 3 (refine seqX_hide2 fun R hR => ?_; simp [go_sem, hg, hz, hzb, hz2, h1s, h1i, h0, xindex, xslice, hd, hb]; refine hR _ _ _ ?_; clear hR R)
    rw [seqX_nil]
    refine hK _ _ _ ?_; clear hK K
    refine hN1 _ _ _ ?_
    refine xc_two fun N2 hN2 => ?_
    refine xc_two fun N3 hN3 => ?_
    refine xc_reg1 13 rfl fun K hK => ?_
    simp only [show (List.range 13).map (·, true) = [(0, true), (1, true), (2, true), (3, true), (4, true), (5, true), (6, true), (7, true), (8, true), (9, true), (10, true), (11, true), (12, true)] from rfl, rslv_cons, rslv_nil, List.getElem?_toArray, List.getElem?_cons_zero, List.getElem?_cons_succ, gres]
    iterate 13 (refine seqX_hide2 fun R hR => ?_; simp [go_sem, hg, hz, hzb, hz2, h1s, h1i, h0, xindex, xslice, hd, hb]; refine hR _ _ _ ?_; clear hR R)
    rw [seqX_nil]
    refine hK _ _ _ ?_; clear hK K
    refine hN3 _ _ _ ?_
    refine xc_iftrue (by simp [go_sem, hg, hz, hzb, hz2, h1s, h1i, h0, xindex, xslice, hd, hb]) ?_
    refine xc_two fun N4 hN4 => ?_
    refine xc_reg1 2 rfl fun K hK => ?_
    simp only [show (List.range 2).map (·, true) = [(0, true), (1, true)] from rfl, rslv_cons, rslv_nil, List.getElem?_toArray, List.getElem?_cons_zero, List.getElem?_cons_succ, gres]
    refine seqX_hide2 fun R hR => ?_
    simp [go_sem, hg, hz, hzb, hz2, h1s, h1i, h0, xindex, xslice, hd, hb]
    refine call_ov hP (bad55 A) ?_
    clear hP
    rintro _ A1 ⟨⟨t, y, rfl⟩, hA1⟩ hP
    refine hR _ _ _ ?_; clear hR R
    (refine seqX_hide2 fun R hR => ?_; simp [go_sem, hg, hz, hzb, hz2, h1s, h1i, h0, xindex, xslice, hd, hb]; refine hR _ _ _ ?_; clear hR R)
    rw [seqX_nil]
    refine hK _ _ _ ?_; clear hK K
    refine hN4 _ _ _ ?_
    simp [go_sem, hg, hz, hzb, hz2, h1s, h1i, h0, xindex, xslice, hd, hb]
    exact ⟨.inl ⟨by rw [hcons, hd]; rfl, _, _, _, _, rfl⟩, hA1⟩
  have hb : ((s[0].toNat : Int) == 45) = false := beq_eq_false_iff_ne.2 (by omega)
  have hbn : ¬ (s[0].toNat : Int) = 45 := by omega
  by_cases hd3 : s[0].toNat = 93
  · have hb3 : ((s[0].toNat : Int) == 93) = true := by simp [hd3]
    refine xc_two fun N1 hN1 => ?_
    refine xc_reg1 3 rfl fun K hK => ?_
    simp only [show (List.range 3).map (·, true) = [(0, true), (1, true), (2, true)] from rfl, rslv_cons, rslv_nil, List.getElem?_toArray, List.getElem?_cons_zero, List.getElem?_cons_succ, gres]
    iterate 3 (refine seqX_hide2 fun R hR => ?_; simp [go_sem, hg, hz, hzb, hz2, h1s, h1i, h0, xindex, xslice, hd, hb, hbn, hd3, hb3]; refine hR _ _ _ ?_; clear hR R)
    rw [seqX_nil]
    refine hK _ _ _ ?_; clear hK K
    refine hN1 _ _ _ ?_
    refine xc_two fun N2 hN2 => ?_
    refine xc_two fun N3 hN3 => ?_
    refine xc_reg1 13 rfl fun K hK => ?_
    simp only [show (List.range 13).map (·, true) = [(0, true), (1, true), (2, true), (3, true), (4, true), (5, true), (6, true), (7, true), (8, true), (9, true), (10, true), (11, true), (12, true)] from rfl, rslv_cons, rslv_nil, List.getElem?_toArray, List.getElem?_cons_zero, List.getElem?_cons_succ, gres]
    iterate 13 (refine seqX_hide2 fun R hR => ?_; simp [go_sem, hg, hz, hzb, hz2, h1s, h1i, h0, xindex, xslice, hd, hb, hbn, hd3, hb3]; refine hR _ _ _ ?_; clear hR R)
    rw [seqX_nil]
    refine hK _ _ _ ?_; clear hK K
    refine hN3 _ _ _ ?_
    refine xc_iftrue (by simp [go_sem, hg, hz, hzb, hz2, h1s, h1i, h0, xindex, xslice, hd, hb, hbn, hd3, hb3]) ?_
    refine xc_two fun N4 hN4 => ?_
    refine xc_reg1 2 rfl fun K hK => ?_
    simp only [show (List.range 2).map (·, true) = [(0, true), (1, true)] from rfl, rslv_cons, rslv_nil, List.getElem?_toArray, List.getElem?_cons_zero, List.getElem?_cons_succ, gres]
    refine seqX_hide2 fun R hR => ?_
    simp [go_sem, hg, hz, hzb, hz2, h1s, h1i, h0, xindex, xslice, hd, hb, hbn, hd3, hb3]
    refine call_ov hP (bad55 A) ?_
    clear hP
    rintro _ A1 ⟨⟨t, y, rfl⟩, hA1⟩ hP
    refine hR _ _ _ ?_; clear hR R
    (refine seqX_hide2 fun R hR => ?_; simp [go_sem, hg, hz, hzb, hz2, h1s, h1i, h0, xindex, xslice, hd, hb, hbn, hd3, hb3]; refine hR _ _ _ ?_; clear hR R)
    rw [seqX_nil]
    refine hK _ _ _ ?_; clear hK K
    refine hN4 _ _ _ ?_
    simp [go_sem, hg, hz, hzb, hz2, h1s, h1i, h0, xindex, xslice, hd, hb, hbn, hd3, hb3]
    exact ⟨.inl ⟨by rw [hcons, hd3]; rfl, _, _, _, _, rfl⟩, hA1⟩
  have hb3 : ((s[0].toNat : Int) == 93) = false := beq_eq_false_iff_ne.2 (by omega)
  have hbn3 : ¬ (s[0].toNat : Int) = 93 := by omega
  refine xc_two fun N1 hN1 => ?_
  refine xc_reg1 3 rfl fun K hK => ?_
  simp only [show (List.range 3).map (·, true) = [(0, true), (1, true), (2, true)] from rfl, rslv_cons, rslv_nil, List.getElem?_toArray, List.getElem?_cons_zero, List.getElem?_cons_succ, gres]
  iterate 3 (refine seqX_hide2 fun R hR => ?_; simp [go_sem, hg, hz, hzb, hz2, h1s, h1i, h0, xindex, xslice, hd, hb, hbn, hd3, hb3, hbn3]; refine hR _ _ _ ?_; clear hR R)
  rw [seqX_nil]
  refine hK _ _ _ ?_; clear hK K
  refine hN1 _ _ _ ?_
  refine xc_two fun N2 hN2 => ?_
  refine xc_two fun N3 hN3 => ?_
  refine xc_reg1 13 rfl fun K hK => ?_
  simp only [show (List.range 13).map (·, true) = [(0, true), (1, true), (2, true), (3, true), (4, true), (5, true), (6, true), (7, true), (8, true), (9, true), (10, true), (11, true), (12, true)] from rfl, rslv_cons, rslv_nil, List.getElem?_toArray, List.getElem?_cons_zero, List.getElem?_cons_succ, gres]
  iterate 13 (refine seqX_hide2 fun R hR => ?_; simp [go_sem, hg, hz, hzb, hz2, h1s, h1i, h0, xindex, xslice, hd, hb, hbn, hd3, hb3, hbn3]; refine hR _ _ _ ?_; clear hR R)
  rw [seqX_nil]
  refine hK _ _ _ ?_; clear hK K
  refine hN3 _ _ _ ?_
  refine xc_iffalse (by simp [go_sem, hg, hz, hzb, hz2, h1s, h1i, h0, xindex, xslice, hd, hb, hbn, hd3, hb3, hbn3]) ?_
  refine hN2 _ _ _ ?_
  refine xc_two fun N4 hN4 => ?_
  refine xc_two fun N5 hN5 => ?_
  refine xc_reg1 3 rfl fun K hK => ?_
  simp only [show (List.range 3).map (·, true) = [(0, true), (1, true), (2, true)] from rfl, rslv_cons, rslv_nil, List.getElem?_toArray, List.getElem?_cons_zero, List.getElem?_cons_succ, gres]
  iterate 3 (refine seqX_hide2 fun R hR => ?_; simp [go_sem, hg, hz, hzb, hz2, h1s, h1i, h0, xindex, xslice, hd, hb, hbn, hd3, hb3, hbn3]; refine hR _ _ _ ?_; clear hR R)
  rw [seqX_nil]
  refine hK _ _ _ ?_; clear hK K
  refine hN5 _ _ _ ?_
  have tl : ∀ (s2 : ByteArray) (e : Env), Priv A [] → e 0 = .string s2 → e 2 = .int .i32 0 → e 3 = .string ⟨#[]⟩ → e 4 = .nilIface → (0 < s2.size) → (s2.size ≤ 2147483648) → (Asc s2) → (chr1 (nb s) = chr0 (nb s2)) → N4 e [] (ov A []) := by
    clear hP
    intro s2 e hP g0 g2 g3 g4 h2 h2s ha2 hc2
    refine hN4 _ _ _ ?_
    refine xc_two fun N6 hN6 => ?_
    refine xc_reg1 7 rfl fun K hK => ?_
    simp only [show (List.range 7).map (·, true) = [(0, true), (1, true), (2, true), (3, true), (4, true), (5, true), (6, true)] from rfl, rslv_cons, rslv_nil, List.getElem?_toArray, List.getElem?_cons_zero, List.getElem?_cons_succ, gres]
    (refine seqX_hide2 fun R hR => ?_; simp [go_sem, hg, hz, hzb, hz2, h1s, h1i, h0, xindex, xslice, hd, hb, hbn, hd3, hb3, hbn3, g0, g2, g3, g4]; refine hR _ _ _ ?_; clear hR R)
    refine seqX_hide2 fun R hR => ?_
    simp [go_sem, hg, hz, hzb, hz2, h1s, h1i, h0, xindex, xslice, hd, hb, hbn, hd3, hb3, hbn3, g0, g2, g3, g4]
    refine call_same hP (rune53 A s2 h2 (ha2.at' h2)) ?_
    rintro _ rfl
    have hr1 := ha2.at' h2
    have hq : ((s2[0].toNat : Int) == 65533) = false := beq_eq_false_iff_ne.2 (by omega)
    have hqn : ¬ (s2[0].toNat : Int) = 65533 := by omega
    have h12 : 1 ≤ s2.size := by omega
    have h12i : (1 : Int) ≤ s2.size := by omega
    have hcons2 := nb_cons h2
    have he2 := extract_size' s2 1 (by omega)
    refine hR _ _ _ ?_; clear hR R
    iterate 5 (refine seqX_hide2 fun R hR => ?_; simp [go_sem, hg, hz, hzb, hz2, h1s, h1i, h0, xindex, xslice, hd, hb, hbn, hd3, hb3, hbn3, g0, g2, g3, g4, hq, hqn, h12, h12i, he2]; refine hR _ _ _ ?_; clear hR R)
    rw [seqX_nil]
    refine hK _ _ _ ?_; clear hK K
    refine hN6 _ _ _ ?_
    refine xc_two fun N7 hN7 => ?_
    refine xc_two fun N8 hN8 => ?_
    refine xc_reg1 6 rfl fun K hK => ?_
    simp only [show (List.range 6).map (·, true) = [(0, true), (1, true), (2, true), (3, true), (4, true), (5, true)] from rfl, rslv_cons, rslv_nil, List.getElem?_toArray, List.getElem?_cons_zero, List.getElem?_cons_succ, gres]
    iterate 6 (refine seqX_hide2 fun R hR => ?_; simp [go_sem, hg, hz, hzb, hz2, h1s, h1i, h0, xindex, xslice, hd, hb, hbn, hd3, hb3, hbn3, g0, g2, g3, g4, hq, hqn, h12, h12i, he2]; refine hR _ _ _ ?_; clear hR R)
    rw [seqX_nil]
    refine hK _ _ _ ?_; clear hK K
    refine hN8 _ _ _ ?_
    refine xc_iffalse (by simp [go_sem, hg, hz, hzb, hz2, h1s, h1i, h0, xindex, xslice, hd, hb, hbn, hd3, hb3, hbn3, g0, g2, g3, g4, hq, hqn, h12, h12i, he2]) ?_
    refine hN7 _ _ _ ?_
    refine xc_two fun N9 hN9 => ?_
    refine xc_reg1 4 rfl fun K hK => ?_
    simp only [show (List.range 4).map (·, true) = [(0, true), (1, true), (2, true), (3, true)] from rfl, rslv_cons, rslv_nil, List.getElem?_toArray, List.getElem?_cons_zero, List.getElem?_cons_succ, gres]
    iterate 4 (refine seqX_hide2 fun R hR => ?_; simp [go_sem, hg, hz, hzb, hz2, h1s, h1i, h0, xindex, xslice, hd, hb, hbn, hd3, hb3, hbn3, g0, g2, g3, g4, hq, hqn, h12, h12i, he2]; refine hR _ _ _ ?_; clear hR R)
    rw [seqX_nil]
    refine hK _ _ _ ?_; clear hK K
    refine hN9 _ _ _ ?_
    refine xc_two fun N10 hN10 => ?_
    refine xc_two fun N11 hN11 => ?_
    refine xc_reg1 3 rfl fun K hK => ?_
    simp only [show (List.range 3).map (·, true) = [(0, true), (1, true), (2, true)] from rfl, rslv_cons, rslv_nil, List.getElem?_toArray, List.getElem?_cons_zero, List.getElem?_cons_succ, gres]
    iterate 3 (refine seqX_hide2 fun R hR => ?_; simp [go_sem, hg, hz, hzb, hz2, h1s, h1i, h0, xindex, xslice, hd, hb, hbn, hd3, hb3, hbn3, g0, g2, g3, g4, hq, hqn, h12, h12i, he2]; refine hR _ _ _ ?_; clear hR R)
    rw [seqX_nil]
    refine hK _ _ _ ?_; clear hK K
    refine hN11 _ _ _ ?_
    by_cases hl : s2.size = 1
    · have e1 : s2.size - 1 = 0 := by omega
      refine xc_iftrue (by simp [go_sem, hg, hz, hzb, hz2, h1s, h1i, h0, xindex, xslice, hd, hb, hbn, hd3, hb3, hbn3, g0, g2, g3, g4, hq, hqn, h12, h12i, he2, hl, e1]) ?_
      refine xc_reg1 2 rfl fun K hK => ?_
      simp only [show (List.range 2).map (·, true) = [(0, true), (1, true)] from rfl, rslv_cons, rslv_nil, List.getElem?_toArray, List.getElem?_cons_zero, List.getElem?_cons_succ, gres]
      refine seqX_hide2 fun R hR => ?_
      simp [go_sem, hg, hz, hzb, hz2, h1s, h1i, h0, xindex, xslice, hd, hb, hbn, hd3, hb3, hbn3, g0, g2, g3, g4, hq, hqn, h12, h12i, he2, hl, e1]
      refine call_ov hP (bad55 A) ?_
      clear hP
      rintro _ A1 ⟨⟨t, y, rfl⟩, hA1⟩ hP
      refine hR _ _ _ ?_; clear hR R
      (refine seqX_hide2 fun R hR => ?_; simp [go_sem, hg, hz, hzb, hz2, h1s, h1i, h0, xindex, xslice, hd, hb, hbn, hd3, hb3, hbn3, g0, g2, g3, g4, hq, hqn, h12, h12i, he2, hl, e1]; refine hR _ _ _ ?_; clear hR R)
      rw [seqX_nil]
      refine hK _ _ _ ?_; clear hK K
      refine hN10 _ _ _ ?_
      simp [go_sem, hg, hz, hzb, hz2, h1s, h1i, h0, xindex, xslice, hd, hb, hbn, hd3, hb3, hbn3, g0, g2, g3, g4, hq, hqn, h12, h12i, he2, hl, e1]
      have hn : nb (s2.extract 1 s2.size) = [] := nb_nil.2 (by omega)
      refine ⟨.inl ⟨by rw [hc2, hcons2, hn]; rfl, _, _, _, _, rfl⟩, hA1⟩
    · have e1 : ¬ s2.size - 1 = 0 := by omega
      have e2 : ¬ (s2.size - 1 : Int) = 0 := by omega
      refine xc_iffalse (by simp [go_sem, hg, hz, hzb, hz2, h1s, h1i, h0, xindex, xslice, hd, hb, hbn, hd3, hb3, hbn3, g0, g2, g3, g4, hq, hqn, h12, h12i, he2, hl, e1, e2]) ?_
      refine hN10 _ _ _ ?_
      simp [go_sem, hg, hz, hzb, hz2, h1s, h1i, h0, xindex, xslice, hd, hb, hbn, hd3, hb3, hbn3, g0, g2, g3, g4, hq, hqn, h12, h12i, he2, hl, e1, e2]
      refine ⟨.inr ⟨s2[0].toNat, _, _, ?_, rfl, rfl⟩, View.le_refl _⟩
      have h3 := nb_cons (s := s2.extract 1 s2.size) (by omega)
      rw [hc2, hcons2, h3]
      rfl
  by_cases hd9 : s[0].toNat = 92
  · have hb9 : ((s[0].toNat : Int) == 92) = true := by simp [hd9]
    have he1 := extract_size' s 1 (by omega)
    by_cases hl : s.size = 1
    · have e1 : s.size - 1 = 0 := by omega
      refine xc_iftrue (by simp [go_sem, hg, hz, hzb, hz2, h1s, h1i, h0, xindex, xslice, hd, hb, hbn, hd3, hb3, hbn3, hd9, hb9, he1, hl, e1]) ?_
      refine xc_two fun N6 hN6 => ?_
      refine xc_reg1 3 rfl fun K hK => ?_
      simp only [show (List.range 3).map (·, true) = [(0, true), (1, true), (2, true)] from rfl, rslv_cons, rslv_nil, List.getElem?_toArray, List.getElem?_cons_zero, List.getElem?_cons_succ, gres]
      iterate 3 (refine seqX_hide2 fun R hR => ?_; simp [go_sem, hg, hz, hzb, hz2, h1s, h1i, h0, xindex, xslice, hd, hb, hbn, hd3, hb3, hbn3, hd9, hb9, he1, hl, e1]; refine hR _ _ _ ?_; clear hR R)
      rw [seqX_nil]
      refine hK _ _ _ ?_; clear hK K
      refine hN6 _ _ _ ?_
      refine xc_two fun N7 hN7 => ?_
      refine xc_reg1 3 rfl fun K hK => ?_
      simp only [show (List.range 3).map (·, true) = [(0, true), (1, true), (2, true)] from rfl, rslv_cons, rslv_nil, List.getElem?_toArray, List.getElem?_cons_zero, List.getElem?_cons_succ, gres]
      iterate 3 (refine seqX_hide2 fun R hR => ?_; simp [go_sem, hg, hz, hzb, hz2, h1s, h1i, h0, xindex, xslice, hd, hb, hbn, hd3, hb3, hbn3, hd9, hb9, he1, hl, e1]; refine hR _ _ _ ?_; clear hR R)
      rw [seqX_nil]
      refine hK _ _ _ ?_; clear hK K
      refine hN7 _ _ _ ?_
      refine xc_iftrue (by simp [go_sem, hg, hz, hzb, hz2, h1s, h1i, h0, xindex, xslice, hd, hb, hbn, hd3, hb3, hbn3, hd9, hb9, he1, hl, e1]) ?_
      refine xc_two fun N8 hN8 => ?_
      refine xc_reg1 2 rfl fun K hK => ?_
      simp only [show (List.range 2).map (·, true) = [(0, true), (1, true)] from rfl, rslv_cons, rslv_nil, List.getElem?_toArray, List.getElem?_cons_zero, List.getElem?_cons_succ, gres]
      refine seqX_hide2 fun R hR => ?_
      simp [go_sem, hg, hz, hzb, hz2, h1s, h1i, h0, xindex, xslice, hd, hb, hbn, hd3, hb3, hbn3, hd9, hb9, he1, hl, e1]
      refine call_ov hP (bad55 A) ?_
      clear hP
      rintro _ A1 ⟨⟨t, y, rfl⟩, hA1⟩ hP
      refine hR _ _ _ ?_; clear hR R
      (refine seqX_hide2 fun R hR => ?_; simp [go_sem, hg, hz, hzb, hz2, h1s, h1i, h0, xindex, xslice, hd, hb, hbn, hd3, hb3, hbn3, hd9, hb9, he1, hl, e1]; refine hR _ _ _ ?_; clear hR R)
      rw [seqX_nil]
      refine hK _ _ _ ?_; clear hK K
      refine hN8 _ _ _ ?_
      simp [go_sem, hg, hz, hzb, hz2, h1s, h1i, h0, xindex, xslice, hd, hb, hbn, hd3, hb3, hbn3, hd9, hb9, he1, hl, e1]
      have hn : nb (s.extract 1 s.size) = [] := nb_nil.2 (by omega)
      exact ⟨.inl ⟨by rw [hcons, hd9, hn, chr1_esc]; rfl, _, _, _, _, rfl⟩, hA1⟩
    · have e1 : ¬ s.size - 1 = 0 := by omega
      have e2 : ¬ (s.size - 1 : Int) = 0 := by omega
      refine xc_iftrue (by simp [go_sem, hg, hz, hzb, hz2, h1s, h1i, h0, xindex, xslice, hd, hb, hbn, hd3, hb3, hbn3, hd9, hb9, he1, hl, e1, e2]) ?_
      refine xc_two fun N6 hN6 => ?_
      refine xc_reg1 3 rfl fun K hK => ?_
      simp only [show (List.range 3).map (·, true) = [(0, true), (1, true), (2, true)] from rfl, rslv_cons, rslv_nil, List.getElem?_toArray, List.getElem?_cons_zero, List.getElem?_cons_succ, gres]
      iterate 3 (refine seqX_hide2 fun R hR => ?_; simp [go_sem, hg, hz, hzb, hz2, h1s, h1i, h0, xindex, xslice, hd, hb, hbn, hd3, hb3, hbn3, hd9, hb9, he1, hl, e1, e2]; refine hR _ _ _ ?_; clear hR R)
      rw [seqX_nil]
      refine hK _ _ _ ?_; clear hK K
      refine hN6 _ _ _ ?_
      refine xc_two fun N7 hN7 => ?_
      refine xc_reg1 3 rfl fun K hK => ?_
      simp only [show (List.range 3).map (·, true) = [(0, true), (1, true), (2, true)] from rfl, rslv_cons, rslv_nil, List.getElem?_toArray, List.getElem?_cons_zero, List.getElem?_cons_succ, gres]
      iterate 3 (refine seqX_hide2 fun R hR => ?_; simp [go_sem, hg, hz, hzb, hz2, h1s, h1i, h0, xindex, xslice, hd, hb, hbn, hd3, hb3, hbn3, hd9, hb9, he1, hl, e1, e2]; refine hR _ _ _ ?_; clear hR R)
      rw [seqX_nil]
      refine hK _ _ _ ?_; clear hK K
      refine hN7 _ _ _ ?_
      refine xc_iffalse (by simp [go_sem, hg, hz, hzb, hz2, h1s, h1i, h0, xindex, xslice, hd, hb, hbn, hd3, hb3, hbn3, hd9, hb9, he1, hl, e1, e2]) ?_
      exact tl (s.extract 1 s.size) _ hP (by simp [go_sem, hg, hz, hzb, hz2, h1s, h1i, h0, xindex, xslice, hd, hb, hbn, hd3, hb3, hbn3, hd9, hb9, he1, hl, e1, e2]) (by simp [go_sem, hg, hz, hzb, hz2, h1s, h1i, h0, xindex, xslice, hd, hb, hbn, hd3, hb3, hbn3, hd9, hb9, he1, hl, e1, e2]) (by simp [go_sem, hg, hz, hzb, hz2, h1s, h1i, h0, xindex, xslice, hd, hb, hbn, hd3, hb3, hbn3, hd9, hb9, he1, hl, e1, e2]) (by simp [go_sem, hg, hz, hzb, hz2, h1s, h1i, h0, xindex, xslice, hd, hb, hbn, hd3, hb3, hbn3, hd9, hb9, he1, hl, e1, e2]) (by omega) (by omega) (ha.drop 1) (by rw [hcons, hd9, chr1_esc])
  · have hb9 : ((s[0].toNat : Int) == 92) = false := beq_eq_false_iff_ne.2 (by omega)
    have hbn9 : ¬ (s[0].toNat : Int) = 92 := by omega
    refine xc_iffalse (by simp [go_sem, hg, hz, hzb, hz2, h1s, h1i, h0, xindex, xslice, hd, hb, hbn, hd3, hb3, hbn3, hd9, hb9, hbn9]) ?_
    exact tl (s) _ hP (by simp [go_sem, hg, hz, hzb, hz2, h1s, h1i, h0, xindex, xslice, hd, hb, hbn, hd3, hb3, hbn3, hd9, hb9, hbn9]) (by simp [go_sem, hg, hz, hzb, hz2, h1s, h1i, h0, xindex, xslice, hd, hb, hbn, hd3, hb3, hbn3, hd9, hb9, hbn9]) (by simp [go_sem, hg, hz, hzb, hz2, h1s, h1i, h0, xindex, xslice, hd, hb, hbn, hd3, hb3, hbn3, hd9, hb9, hbn9]) (by simp [go_sem, hg, hz, hzb, hz2, h1s, h1i, h0, xindex, xslice, hd, hb, hbn, hd3, hb3, hbn3, hd9, hb9, hbn9]) (h0) (hs) (ha) (by rw [hcons, chr1_lit hd hd3 hd9])
end Go.Proofs.YthjbgpmcfcijgaaDoorV

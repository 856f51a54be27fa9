/- Shell patterns: scanChunk. -/
import Derived.Test.YthjbgpmcfcijgaaDoorPF
namespace Go.Proofs.YthjbgpmcfcijgaaDoorV
open Go.RowKit
open Pm (nb nb_len nb_get nb_drop nb_nil nb_cons nb_extract extract_size' scan scan_nil scan_cons Pc pre)
set_option linter.unusedSimpArgs false
set_option linter.unusedVariables false
theorem nb_at {s : ByteArray} {i : Nat} (h : i < s.size) : (nb s).drop i = s[i].toNat :: (nb s).drop (i + 1) := by
  have h1 : i < (nb s).length := by rw [nb_len]; exact h
  rw [List.drop_eq_getElem_cons h1]
  have := nb_get h
  rw [List.getElem?_eq_getElem h1] at this
  rw [Option.some.inj this]
theorem nb_take (s : ByteArray) (i : Nat) : nb (s.extract 0 i) = (nb s).take i := by
  rw [nb_extract]; rfl
theorem nb_take1 {s : ByteArray} {i : Nat} (h : i < s.size) : (nb s).take (i + 1) = (nb s).take i ++ [s[i].toNat] := by
  have h1 : i < (nb s).length := by rw [nb_len]; exact h
  rw [List.take_succ_eq_append_getElem h1]
  have := nb_get h
  rw [List.getElem?_eq_getElem h1] at this
  rw [Option.some.inj this]
theorem nb_empty : nb ⟨#[]⟩ = [] := rfl
/-- How far scan has come. -/
def Sc (l : List Nat) (i : Nat) (f : Bool) : Prop := scan false l = (l.take i ++ (scan f (l.drop i)).1, (scan f (l.drop i)).2)
theorem Sc.one {s : ByteArray} {i : Nat} {f g : Bool} (h : Sc (nb s) i f) (hi : i < s.size) (e : ∀ r, scan f (s[i].toNat :: r) = (s[i].toNat :: (scan g r).1, (scan g r).2)) : Sc (nb s) (i + 1) g := by
  unfold Sc at h ⊢
  rw [nb_at hi, e] at h
  rw [h, nb_take1 hi]
  simp
theorem Sc.two {s : ByteArray} {i : Nat} {f : Bool} (h : Sc (nb s) i f) (hi : i + 1 < s.size) (e : s[i].toNat = 92) : Sc (nb s) (i + 2) f := by
  unfold Sc at h ⊢
  rw [nb_at (by omega : i < s.size), nb_at hi, e, scan_cons, if_pos rfl] at h
  rw [h, nb_take1 hi, nb_take1 (by omega : i < s.size), e]
  simp
structure Scanned (p : ByteArray) (r : Value) : Prop where
  e : ∃ (n : Nat) (c q : ByteArray), r = .tuple #[.bool (decide (0 < n)), .string c, .string q] ∧ Pc (nb p) n (nb c) (nb q) ∧ c.size ≤ p.size ∧ q.size ≤ p.size ∧ (0 < n ∨ 0 < c.size ∨ p.size = 0) ∧ (c.size + q.size + n ≤ p.size) ∧ (0 < n → c.size = 0 → q.size = 0)
set_option maxRecDepth 20000 in
set_option maxHeartbeats 4000000 in
theorem scan41 (A : View) (p : ByteArray) (hs : p.size ≤ 2147483648) : VCalls Tryd.prog 41 #[.string p] A fun r A' => Scanned p r ∧ A' = A := by
  refine xcalls Tryd.func41 rfl (by simp [Tryd.ntmps41]) ?_
  simp only [Tryd.f41]
  have hP : Priv A (addrs []) := Priv.nil A
  show xc _ _ _ _ _ _ (ov A [])
  refine xc_two fun N1 hN1 => ?_
  refine xc_reg1 3 rfl fun K hK => ?_
  simp only [show (List.range 3).map (·, true) = [(0, true), (1, true), (2, true)] from rfl, rslv_cons, rslv_nil, List.getElem?_toArray, List.getElem?_cons_zero, List.getElem?_cons_succ, gres]
  iterate 3 (refine seqX_hide2 fun R hR => ?_; simp [go_sem]; refine hR _ _ _ ?_; clear hR R)
  rw [seqX_nil]
  refine hK _ _ _ ?_; clear hK K
  refine hN1 _ _ _ ?_
  refine xc_two fun N2 hN2 => ?_
  rw [xc_block]
  rw [xc_loop]
  refine vloopK (fun k' e ds A' => ∃ (n : Nat) (s : ByteArray), k' = s.size ∧ ds = [] ∧ A' = ov A [] ∧ Priv A [] ∧ e 0 = .string s ∧ e 2 = .bool (decide (0 < n)) ∧ e 3 = .string ⟨#[]⟩ ∧ e 4 = .string ⟨#[]⟩ ∧ (s.size + n = p.size) ∧ (nb p = List.replicate n 42 ++ nb s)) _ ⟨0, p, rfl, rfl, rfl, hP, by simp [go_sem], by simp [go_sem], by simp [go_sem], by simp [go_sem], rfl, rfl⟩ ?_
  clear hP
  rintro k' e ds A' ⟨n, s, rfl, rfl, hV, hP, g0, g2, g3, g4, hsz, hnb⟩ J1 X1 hJ1 hX1
  refine xc_sound _ ?_
  replace hV := Eq.symm hV; subst hV; replace hP : Priv A (addrs []) := hP
  by_cases hst : ∃ h : 0 < s.size, s[0].toNat = 42
  · obtain ⟨h0, hd⟩ := hst
    have hg : s[0]? = some s[0] := getElem?_pos s 0 h0
    have hz0 : (0 : Int) < s.size := by omega
    have h1s : 1 ≤ s.size := by omega
    have h1i : (1 : Int) ≤ s.size := by omega
    have hcons := nb_cons h0
    have he := extract_size' s 1 (by omega)
    refine xc_two fun N3 hN3 => ?_
    refine xc_two fun N4 hN4 => ?_
    refine xc_reg1 8 rfl fun K hK => ?_
    simp only [show (List.range 8).map (·, true) = [(0, true), (1, true), (2, true), (3, true), (4, true), (5, true), (6, true), (7, true)] from rfl, rslv_cons, rslv_nil, List.getElem?_toArray, List.getElem?_cons_zero, List.getElem?_cons_succ, gres]
    iterate 8 (refine seqX_hide2 fun R hR => ?_; simp [go_sem, g0, g2, g3, g4, hg, hz0, h0, h1s, h1i, hd, xindex, xslice]; refine hR _ _ _ ?_; clear hR R)
    rw [seqX_nil]
    refine hK _ _ _ ?_; clear hK K
    refine hN4 _ _ _ ?_
    refine xc_iftrue (by simp [go_sem, g0, g2, g3, g4, hg, hz0, h0, h1s, h1i, hd, xindex, xslice]) ?_
    refine hN3 _ _ _ ?_
    rw [xc_block]
    refine xc_two fun N5 hN5 => ?_
    refine xc_reg1 3 rfl fun K hK => ?_
    simp only [show (List.range 3).map (·, true) = [(0, true), (1, true), (2, true)] from rfl, rslv_cons, rslv_nil, List.getElem?_toArray, List.getElem?_cons_zero, List.getElem?_cons_succ, gres]
    iterate 3 (refine seqX_hide2 fun R hR => ?_; simp [go_sem, g0, g2, g3, g4, hg, hz0, h0, h1s, h1i, hd, xindex, xslice]; refine hR _ _ _ ?_; clear hR R)
    rw [seqX_nil]
    refine hK _ _ _ ?_; clear hK K
    refine hN5 _ _ _ ?_
    refine xc_reg1 1 rfl fun K hK => ?_
    simp only [show (List.range 1).map (·, true) = [(0, true)] from rfl, rslv_cons, rslv_nil, List.getElem?_toArray, List.getElem?_cons_zero, List.getElem?_cons_succ, gres]
    (refine seqX_hide2 fun R hR => ?_; simp [go_sem, g0, g2, g3, g4, hg, hz0, h0, h1s, h1i, hd, xindex, xslice]; refine hR _ _ _ ?_; clear hR R)
    rw [seqX_nil]
    refine hK _ _ _ ?_; clear hK K
    refine hJ1 ((s.extract 1 s.size).size) _ _ _ (by rw [he]; omega) ⟨n + 1, s.extract 1 s.size, rfl, rfl, rfl, hP, by simp [go_sem, g0, g2, g3, g4, hg, hz0, h0, h1s, h1i, hd, xindex, xslice], by simp [go_sem, g0, g2, g3, g4, hg, hz0, h0, h1s, h1i, hd, xindex, xslice], by simp [go_sem, g0, g2, g3, g4, hg, hz0, h0, h1s, h1i, hd, xindex, xslice], by simp [go_sem, g0, g2, g3, g4, hg, hz0, h0, h1s, h1i, hd, xindex, xslice], by omega, by rw [hnb, hcons, hd, List.replicate_succ', List.append_assoc]; rfl⟩
  · have hnot : s.size = 0 ∨ ∃ h : 0 < s.size, s[0].toNat ≠ 42 := by
      by_cases h : 0 < s.size
      · exact .inr ⟨h, fun hx => hst ⟨h, hx⟩⟩
      · exact .inl (by omega)
    rcases hnot with hz | ⟨h0, hd⟩
    · have hz0 : ¬ (0 : Int) < s.size := by omega
      have hz1 : ¬ 0 < s.size := by omega
      refine xc_two fun N3 hN3 => ?_
      refine xc_two fun N4 hN4 => ?_
      refine xc_reg1 8 rfl fun K hK => ?_
      simp only [show (List.range 8).map (·, true) = [(0, true), (1, true), (2, true), (3, true), (4, true), (5, true), (6, true), (7, true)] from rfl, rslv_cons, rslv_nil, List.getElem?_toArray, List.getElem?_cons_zero, List.getElem?_cons_succ, gres]
      iterate 8 (refine seqX_hide2 fun R hR => ?_; simp [go_sem, g0, g2, g3, g4, hz, hz0, hz1]; refine hR _ _ _ ?_; clear hR R)
      rw [seqX_nil]
      refine hK _ _ _ ?_; clear hK K
      refine hN4 _ _ _ ?_
      refine xc_iffalse (by simp [go_sem, g0, g2, g3, g4, hz, hz0, hz1]) ?_
      refine hX1 _ _ _ _ ?_
      refine hN2 _ _ _ ?_
      refine xc_two fun N5 hN5 => ?_
      refine xc_reg1 1 rfl fun K hK => ?_
      simp only [show (List.range 1).map (·, true) = [(0, true)] from rfl, rslv_cons, rslv_nil, List.getElem?_toArray, List.getElem?_cons_zero, List.getElem?_cons_succ, gres]
      (refine seqX_hide2 fun R hR => ?_; simp [go_sem, g0, g2, g3, g4, hz, hz0, hz1]; refine hR _ _ _ ?_; clear hR R)
      rw [seqX_nil]
      refine hK _ _ _ ?_; clear hK K
      refine hN5 _ _ _ ?_
      refine xc_two fun N6 hN6 => ?_
      refine xc_two fun N7 hN7 => ?_
      refine xc_reg1 1 rfl fun K hK => ?_
      simp only [show (List.range 1).map (·, true) = [(0, true)] from rfl, rslv_cons, rslv_nil, List.getElem?_toArray, List.getElem?_cons_zero, List.getElem?_cons_succ, gres]
      (refine seqX_hide2 fun R hR => ?_; simp [go_sem, g0, g2, g3, g4, hz, hz0, hz1]; refine hR _ _ _ ?_; clear hR R)
      rw [seqX_nil]
      refine hK _ _ _ ?_; clear hK K
      refine hN7 _ _ _ ?_
      rw [xc_block]
      rw [xc_loop]
      refine vloopK (fun k' e ds A' => k' = 0 ∧ ds = [] ∧ A' = ov A [] ∧ Priv A [] ∧ e 0 = .string s ∧ e 2 = .bool (decide (0 < n)) ∧ e 6 = .int .i64 0) _ ⟨rfl, rfl, rfl, hP, by simp [go_sem, g0, g2, g3, g4, hz, hz0, hz1], by simp [go_sem, g0, g2, g3, g4, hz, hz0, hz1], by simp [go_sem, g0, g2, g3, g4, hz, hz0, hz1]⟩ ?_
      clear g0 g2 g3 g4
      clear hP
      rintro k' e ds A' ⟨rfl, rfl, hV, hP, g0, g2, g6⟩ J1 X1 hJ1 hX1
      refine xc_sound _ ?_
      replace hV := Eq.symm hV; subst hV; replace hP : Priv A (addrs []) := hP
      refine xc_two fun N8 hN8 => ?_
      refine xc_two fun N9 hN9 => ?_
      refine xc_reg1 4 rfl fun K hK => ?_
      simp only [show (List.range 4).map (·, true) = [(0, true), (1, true), (2, true), (3, true)] from rfl, rslv_cons, rslv_nil, List.getElem?_toArray, List.getElem?_cons_zero, List.getElem?_cons_succ, gres]
      iterate 4 (refine seqX_hide2 fun R hR => ?_; simp [go_sem, hz, hz0, hz1, g0, g2, g6]; refine hR _ _ _ ?_; clear hR R)
      rw [seqX_nil]
      refine hK _ _ _ ?_; clear hK K
      refine hN9 _ _ _ ?_
      refine xc_iffalse (by simp [go_sem, hz, hz0, hz1, g0, g2, g6]) ?_
      refine hX1 _ _ _ _ ?_
      refine hN6 _ _ _ ?_
      refine xc_two fun N10 hN10 => ?_
      refine xc_reg1 5 rfl fun K hK => ?_
      simp only [show (List.range 5).map (·, true) = [(0, true), (1, true), (2, true), (3, true), (4, true)] from rfl, rslv_cons, rslv_nil, List.getElem?_toArray, List.getElem?_cons_zero, List.getElem?_cons_succ, gres]
      iterate 5 (refine seqX_hide2 fun R hR => ?_; simp [go_sem, hz, hz0, hz1, g0, g2, g6]; refine hR _ _ _ ?_; clear hR R)
      rw [seqX_nil]
      refine hK _ _ _ ?_; clear hK K
      refine hN10 _ _ _ ?_
      simp [go_sem, hz, hz0, hz1, g0, g2, g6]
      have hn0 : nb s = [] := nb_nil.2 hz
      refine ⟨⟨n, s, ⟨#[]⟩, rfl, ⟨[], by rw [hnb, hn0], by rw [scan_nil, hn0]; rfl⟩, by omega, Nat.zero_le _, ?_, ?_, fun _ _ => rfl⟩, rfl⟩
      · omega
      · have : (⟨#[]⟩ : ByteArray).size = 0 := rfl
        omega
    · have hg : s[0]? = some s[0] := getElem?_pos s 0 h0
      have hz0 : (0 : Int) < s.size := by omega
      have hb : ((s[0].toNat : Int) == 42) = false := beq_eq_false_iff_ne.2 (by omega)
      have hbn : ¬ (s[0].toNat : Int) = 42 := by omega
      refine xc_two fun N3 hN3 => ?_
      refine xc_two fun N4 hN4 => ?_
      refine xc_reg1 8 rfl fun K hK => ?_
      simp only [show (List.range 8).map (·, true) = [(0, true), (1, true), (2, true), (3, true), (4, true), (5, true), (6, true), (7, true)] from rfl, rslv_cons, rslv_nil, List.getElem?_toArray, List.getElem?_cons_zero, List.getElem?_cons_succ, gres]
      iterate 8 (refine seqX_hide2 fun R hR => ?_; simp [go_sem, g0, g2, g3, g4, hg, hz0, h0, hd, hb, hbn, xindex, xslice]; refine hR _ _ _ ?_; clear hR R)
      rw [seqX_nil]
      refine hK _ _ _ ?_; clear hK K
      refine hN4 _ _ _ ?_
      refine xc_iffalse (by simp [go_sem, g0, g2, g3, g4, hg, hz0, h0, hd, hb, hbn, xindex, xslice]) ?_
      refine hX1 _ _ _ _ ?_
      refine hN2 _ _ _ ?_
      refine xc_two fun N5 hN5 => ?_
      refine xc_reg1 1 rfl fun K hK => ?_
      simp only [show (List.range 1).map (·, true) = [(0, true)] from rfl, rslv_cons, rslv_nil, List.getElem?_toArray, List.getElem?_cons_zero, List.getElem?_cons_succ, gres]
      (refine seqX_hide2 fun R hR => ?_; simp [go_sem, g0, g2, g3, g4, hg, hz0, h0, hd, hb, hbn, xindex, xslice]; refine hR _ _ _ ?_; clear hR R)
      rw [seqX_nil]
      refine hK _ _ _ ?_; clear hK K
      refine hN5 _ _ _ ?_
      refine xc_two fun N6 hN6 => ?_
      refine xc_two fun N7 hN7 => ?_
      refine xc_reg1 1 rfl fun K hK => ?_
      simp only [show (List.range 1).map (·, true) = [(0, true)] from rfl, rslv_cons, rslv_nil, List.getElem?_toArray, List.getElem?_cons_zero, List.getElem?_cons_succ, gres]
      (refine seqX_hide2 fun R hR => ?_; simp [go_sem, g0, g2, g3, g4, hg, hz0, h0, hd, hb, hbn, xindex, xslice]; refine hR _ _ _ ?_; clear hR R)
      rw [seqX_nil]
      refine hK _ _ _ ?_; clear hK K
      refine hN7 _ _ _ ?_
      rw [xc_block]
      rw [xc_loop]
      refine vloopK (fun k' e ds A' => ∃ (i : Nat) (f : Bool), k' = s.size - i ∧ ds = [] ∧ A' = ov A [] ∧ Priv A [] ∧ e 0 = .string s ∧ e 2 = .bool (decide (0 < n)) ∧ e 5 = .bool f ∧ e 6 = .int .i64 i ∧ (i ≤ s.size) ∧ (Sc (nb s) i f) ∧ (i = 0 → f = false)) _ ⟨0, false, rfl, rfl, rfl, hP, by simp [go_sem, g0, g2, g3, g4, xindex, xslice], by simp [go_sem, g0, g2, g3, g4, xindex, xslice], by simp [go_sem, g0, g2, g3, g4, xindex, xslice], by simp [go_sem, g0, g2, g3, g4, xindex, xslice], by omega, by unfold Sc; simp, fun _ => rfl⟩ ?_
      clear g0 g2 g3 g4
      clear hP
      rintro k' e ds A' ⟨i, f, rfl, rfl, hV, hP, g0, g2, g5, g6, hil, hsc, hi0⟩ J1 X1 hJ1 hX1
      refine xc_sound _ ?_
      replace hV := Eq.symm hV; subst hV; replace hP : Priv A (addrs []) := hP
      have hw1 := wrap_nat (i := i) (by omega)
      by_cases hi : i < s.size
      · have hg : s[i]? = some s[i] := getElem?_pos s i hi
        by_cases k1 : s[i].toNat = 92
        · skip
          by_cases hi2 : i + 1 < s.size
          · have hi2i : (i : Int) + 1 < s.size := by omega
            have hw2 : IntKind.i64.wrap ((i : Int) + 1 + 1) = (i : Int) + 2 := by rw [wrap_in (by omega) (by omega)]; omega
            refine xc_two fun N8 hN8 => ?_
            refine xc_two fun N9 hN9 => ?_
            refine xc_reg1 4 rfl fun K hK => ?_
            simp only [show (List.range 4).map (·, true) = [(0, true), (1, true), (2, true), (3, true)] from rfl, rslv_cons, rslv_nil, List.getElem?_toArray, List.getElem?_cons_zero, List.getElem?_cons_succ, gres]
            iterate 4 (refine seqX_hide2 fun R hR => ?_; simp [go_sem, xindex, xslice, g0, g2, g5, g6, hi, hg, hw1, k1, hi2, hi2i, hw2]; refine hR _ _ _ ?_; clear hR R)
            rw [seqX_nil]
            refine hK _ _ _ ?_; clear hK K
            refine hN9 _ _ _ ?_
            refine xc_iftrue (by simp [go_sem, xindex, xslice, g0, g2, g5, g6, hi, hg, hw1, k1, hi2, hi2i, hw2]) ?_
            refine hN8 _ _ _ ?_
            refine xc_two fun N10 hN10 => ?_
            rw [xc_block]
            refine xc_two fun N11 hN11 => ?_
            refine xc_reg1 3 rfl fun K hK => ?_
            simp only [show (List.range 3).map (·, true) = [(0, true), (1, true), (2, true)] from rfl, rslv_cons, rslv_nil, List.getElem?_toArray, List.getElem?_cons_zero, List.getElem?_cons_succ, gres]
            iterate 3 (refine seqX_hide2 fun R hR => ?_; simp [go_sem, xindex, xslice, g0, g2, g5, g6, hi, hg, hw1, k1, hi2, hi2i, hw2]; refine hR _ _ _ ?_; clear hR R)
            rw [seqX_nil]
            refine hK _ _ _ ?_; clear hK K
            refine hN11 _ _ _ ?_
            rw [xc_block]
            refine xc_two fun N12 hN12 => ?_
            refine xc_reg1 2 rfl fun K hK => ?_
            simp only [show (List.range 2).map (·, true) = [(0, true), (1, true)] from rfl, rslv_cons, rslv_nil, List.getElem?_toArray, List.getElem?_cons_zero, List.getElem?_cons_succ, gres]
            iterate 2 (refine seqX_hide2 fun R hR => ?_; simp [go_sem, xindex, xslice, g0, g2, g5, g6, hi, hg, hw1, k1, hi2, hi2i, hw2]; refine hR _ _ _ ?_; clear hR R)
            rw [seqX_nil]
            refine hK _ _ _ ?_; clear hK K
            refine hN12 _ _ _ ?_
            refine xc_iftrue (by simp [go_sem, xindex, xslice, g0, g2, g5, g6, hi, hg, hw1, k1, hi2, hi2i, hw2]) ?_
            refine xc_two fun N13 hN13 => ?_
            refine xc_reg1 5 rfl fun K hK => ?_
            simp only [show (List.range 5).map (·, true) = [(0, true), (1, true), (2, true), (3, true), (4, true)] from rfl, rslv_cons, rslv_nil, List.getElem?_toArray, List.getElem?_cons_zero, List.getElem?_cons_succ, gres]
            iterate 5 (refine seqX_hide2 fun R hR => ?_; simp [go_sem, xindex, xslice, g0, g2, g5, g6, hi, hg, hw1, k1, hi2, hi2i, hw2]; refine hR _ _ _ ?_; clear hR R)
            rw [seqX_nil]
            refine hK _ _ _ ?_; clear hK K
            refine hN13 _ _ _ ?_
            refine xc_iftrue (by simp [go_sem, xindex, xslice, g0, g2, g5, g6, hi, hg, hw1, k1, hi2, hi2i, hw2]) ?_
            refine xc_reg1 3 rfl fun K hK => ?_
            simp only [show (List.range 3).map (·, true) = [(0, true), (1, true), (2, true)] from rfl, rslv_cons, rslv_nil, List.getElem?_toArray, List.getElem?_cons_zero, List.getElem?_cons_succ, gres]
            iterate 3 (refine seqX_hide2 fun R hR => ?_; simp [go_sem, xindex, xslice, g0, g2, g5, g6, hi, hg, hw1, k1, hi2, hi2i, hw2]; refine hR _ _ _ ?_; clear hR R)
            rw [seqX_nil]
            refine hK _ _ _ ?_; clear hK K
            refine hN10 _ _ _ ?_
            refine xc_reg1 3 rfl fun K hK => ?_
            simp only [show (List.range 3).map (·, true) = [(0, true), (1, true), (2, true)] from rfl, rslv_cons, rslv_nil, List.getElem?_toArray, List.getElem?_cons_zero, List.getElem?_cons_succ, gres]
            iterate 3 (refine seqX_hide2 fun R hR => ?_; simp [go_sem, xindex, xslice, g0, g2, g5, g6, hi, hg, hw1, k1, hi2, hi2i, hw2]; refine hR _ _ _ ?_; clear hR R)
            rw [seqX_nil]
            refine hK _ _ _ ?_; clear hK K
            refine hJ1 (s.size - (i + 2)) _ _ _ (by omega) ⟨i + 2, f, rfl, rfl, rfl, hP, by simp [go_sem, xindex, xslice, g0, g2, g5, g6, hi, hg, hw1, k1, hi2, hi2i, hw2], by simp [go_sem, xindex, xslice, g0, g2, g5, g6, hi, hg, hw1, k1, hi2, hi2i, hw2], by simp [go_sem, xindex, xslice, g0, g2, g5, g6, hi, hg, hw1, k1, hi2, hi2i, hw2], by simp [go_sem, xindex, xslice, g0, g2, g5, g6, hi, hg, hw1, k1, hi2, hi2i, hw2], by omega, hsc.two hi2 k1, fun h => by omega⟩
          · have hi2i : ¬ (i : Int) + 1 < s.size := by omega
            refine xc_two fun N8 hN8 => ?_
            refine xc_two fun N9 hN9 => ?_
            refine xc_reg1 4 rfl fun K hK => ?_
            simp only [show (List.range 4).map (·, true) = [(0, true), (1, true), (2, true), (3, true)] from rfl, rslv_cons, rslv_nil, List.getElem?_toArray, List.getElem?_cons_zero, List.getElem?_cons_succ, gres]
            iterate 4 (refine seqX_hide2 fun R hR => ?_; simp [go_sem, xindex, xslice, g0, g2, g5, g6, hi, hg, hw1, k1, hi2, hi2i]; refine hR _ _ _ ?_; clear hR R)
            rw [seqX_nil]
            refine hK _ _ _ ?_; clear hK K
            refine hN9 _ _ _ ?_
            refine xc_iftrue (by simp [go_sem, xindex, xslice, g0, g2, g5, g6, hi, hg, hw1, k1, hi2, hi2i]) ?_
            refine hN8 _ _ _ ?_
            refine xc_two fun N10 hN10 => ?_
            rw [xc_block]
            refine xc_two fun N11 hN11 => ?_
            refine xc_reg1 3 rfl fun K hK => ?_
            simp only [show (List.range 3).map (·, true) = [(0, true), (1, true), (2, true)] from rfl, rslv_cons, rslv_nil, List.getElem?_toArray, List.getElem?_cons_zero, List.getElem?_cons_succ, gres]
            iterate 3 (refine seqX_hide2 fun R hR => ?_; simp [go_sem, xindex, xslice, g0, g2, g5, g6, hi, hg, hw1, k1, hi2, hi2i]; refine hR _ _ _ ?_; clear hR R)
            rw [seqX_nil]
            refine hK _ _ _ ?_; clear hK K
            refine hN11 _ _ _ ?_
            rw [xc_block]
            refine xc_two fun N12 hN12 => ?_
            refine xc_reg1 2 rfl fun K hK => ?_
            simp only [show (List.range 2).map (·, true) = [(0, true), (1, true)] from rfl, rslv_cons, rslv_nil, List.getElem?_toArray, List.getElem?_cons_zero, List.getElem?_cons_succ, gres]
            iterate 2 (refine seqX_hide2 fun R hR => ?_; simp [go_sem, xindex, xslice, g0, g2, g5, g6, hi, hg, hw1, k1, hi2, hi2i]; refine hR _ _ _ ?_; clear hR R)
            rw [seqX_nil]
            refine hK _ _ _ ?_; clear hK K
            refine hN12 _ _ _ ?_
            refine xc_iftrue (by simp [go_sem, xindex, xslice, g0, g2, g5, g6, hi, hg, hw1, k1, hi2, hi2i]) ?_
            refine xc_two fun N13 hN13 => ?_
            refine xc_reg1 5 rfl fun K hK => ?_
            simp only [show (List.range 5).map (·, true) = [(0, true), (1, true), (2, true), (3, true), (4, true)] from rfl, rslv_cons, rslv_nil, List.getElem?_toArray, List.getElem?_cons_zero, List.getElem?_cons_succ, gres]
            iterate 5 (refine seqX_hide2 fun R hR => ?_; simp [go_sem, xindex, xslice, g0, g2, g5, g6, hi, hg, hw1, k1, hi2, hi2i]; refine hR _ _ _ ?_; clear hR R)
            rw [seqX_nil]
            refine hK _ _ _ ?_; clear hK K
            refine hN13 _ _ _ ?_
            refine xc_iffalse (by simp [go_sem, xindex, xslice, g0, g2, g5, g6, hi, hg, hw1, k1, hi2, hi2i]) ?_
            refine hN10 _ _ _ ?_
            refine xc_reg1 3 rfl fun K hK => ?_
            simp only [show (List.range 3).map (·, true) = [(0, true), (1, true), (2, true)] from rfl, rslv_cons, rslv_nil, List.getElem?_toArray, List.getElem?_cons_zero, List.getElem?_cons_succ, gres]
            iterate 3 (refine seqX_hide2 fun R hR => ?_; simp [go_sem, xindex, xslice, g0, g2, g5, g6, hi, hg, hw1, k1, hi2, hi2i]; refine hR _ _ _ ?_; clear hR R)
            rw [seqX_nil]
            refine hK _ _ _ ?_; clear hK K
            refine hJ1 (s.size - (i + 1)) _ _ _ (by omega) ⟨i + 1, f, rfl, rfl, rfl, hP, by simp [go_sem, xindex, xslice, g0, g2, g5, g6, hi, hg, hw1, k1, hi2, hi2i], by simp [go_sem, xindex, xslice, g0, g2, g5, g6, hi, hg, hw1, k1, hi2, hi2i], by simp [go_sem, xindex, xslice, g0, g2, g5, g6, hi, hg, hw1, k1, hi2, hi2i], by simp [go_sem, xindex, xslice, g0, g2, g5, g6, hi, hg, hw1, k1, hi2, hi2i], by omega, ?_, fun h => by omega⟩
            have hi3 : i + 1 = s.size := by omega
            unfold Sc at hsc ⊢
            have hd2 : (nb s).drop (i + 1) = [] := List.drop_of_length_le (by rw [nb_len]; omega)
            rw [nb_at hi, k1, hd2, scan_cons, if_pos rfl] at hsc
            rw [hsc, hd2, scan_nil, nb_take1 hi, k1]
            simp
        have k1b : ((s[i].toNat : Int) == 92) = false := beq_eq_false_iff_ne.2 (by omega)
        have k1n : ¬ (s[i].toNat : Int) = 92 := by omega
        by_cases k2 : s[i].toNat = 91
        · skip
          refine xc_two fun N8 hN8 => ?_
          refine xc_two fun N9 hN9 => ?_
          refine xc_reg1 4 rfl fun K hK => ?_
          simp only [show (List.range 4).map (·, true) = [(0, true), (1, true), (2, true), (3, true)] from rfl, rslv_cons, rslv_nil, List.getElem?_toArray, List.getElem?_cons_zero, List.getElem?_cons_succ, gres]
          iterate 4 (refine seqX_hide2 fun R hR => ?_; simp [go_sem, xindex, xslice, g0, g2, g5, g6, hi, hg, hw1, k1, k1b, k1n, k2]; refine hR _ _ _ ?_; clear hR R)
          rw [seqX_nil]
          refine hK _ _ _ ?_; clear hK K
          refine hN9 _ _ _ ?_
          refine xc_iftrue (by simp [go_sem, xindex, xslice, g0, g2, g5, g6, hi, hg, hw1, k1, k1b, k1n, k2]) ?_
          refine hN8 _ _ _ ?_
          refine xc_two fun N10 hN10 => ?_
          rw [xc_block]
          refine xc_two fun N11 hN11 => ?_
          refine xc_reg1 3 rfl fun K hK => ?_
          simp only [show (List.range 3).map (·, true) = [(0, true), (1, true), (2, true)] from rfl, rslv_cons, rslv_nil, List.getElem?_toArray, List.getElem?_cons_zero, List.getElem?_cons_succ, gres]
          iterate 3 (refine seqX_hide2 fun R hR => ?_; simp [go_sem, xindex, xslice, g0, g2, g5, g6, hi, hg, hw1, k1, k1b, k1n, k2]; refine hR _ _ _ ?_; clear hR R)
          rw [seqX_nil]
          refine hK _ _ _ ?_; clear hK K
          refine hN11 _ _ _ ?_
          rw [xc_block]
          refine xc_two fun N12 hN12 => ?_
          refine xc_reg1 2 rfl fun K hK => ?_
          simp only [show (List.range 2).map (·, true) = [(0, true), (1, true)] from rfl, rslv_cons, rslv_nil, List.getElem?_toArray, List.getElem?_cons_zero, List.getElem?_cons_succ, gres]
          iterate 2 (refine seqX_hide2 fun R hR => ?_; simp [go_sem, xindex, xslice, g0, g2, g5, g6, hi, hg, hw1, k1, k1b, k1n, k2]; refine hR _ _ _ ?_; clear hR R)
          rw [seqX_nil]
          refine hK _ _ _ ?_; clear hK K
          refine hN12 _ _ _ ?_
          refine xc_iffalse (by simp [go_sem, xindex, xslice, g0, g2, g5, g6, hi, hg, hw1, k1, k1b, k1n, k2]) ?_
          refine xc_two fun N13 hN13 => ?_
          refine xc_reg1 2 rfl fun K hK => ?_
          simp only [show (List.range 2).map (·, true) = [(0, true), (1, true)] from rfl, rslv_cons, rslv_nil, List.getElem?_toArray, List.getElem?_cons_zero, List.getElem?_cons_succ, gres]
          iterate 2 (refine seqX_hide2 fun R hR => ?_; simp [go_sem, xindex, xslice, g0, g2, g5, g6, hi, hg, hw1, k1, k1b, k1n, k2]; refine hR _ _ _ ?_; clear hR R)
          rw [seqX_nil]
          refine hK _ _ _ ?_; clear hK K
          refine hN13 _ _ _ ?_
          refine xc_iftrue (by simp [go_sem, xindex, xslice, g0, g2, g5, g6, hi, hg, hw1, k1, k1b, k1n, k2]) ?_
          refine xc_reg1 1 rfl fun K hK => ?_
          simp only [show (List.range 1).map (·, true) = [(0, true)] from rfl, rslv_cons, rslv_nil, List.getElem?_toArray, List.getElem?_cons_zero, List.getElem?_cons_succ, gres]
          (refine seqX_hide2 fun R hR => ?_; simp [go_sem, xindex, xslice, g0, g2, g5, g6, hi, hg, hw1, k1, k1b, k1n, k2]; refine hR _ _ _ ?_; clear hR R)
          rw [seqX_nil]
          refine hK _ _ _ ?_; clear hK K
          refine hN10 _ _ _ ?_
          refine xc_reg1 3 rfl fun K hK => ?_
          simp only [show (List.range 3).map (·, true) = [(0, true), (1, true), (2, true)] from rfl, rslv_cons, rslv_nil, List.getElem?_toArray, List.getElem?_cons_zero, List.getElem?_cons_succ, gres]
          iterate 3 (refine seqX_hide2 fun R hR => ?_; simp [go_sem, xindex, xslice, g0, g2, g5, g6, hi, hg, hw1, k1, k1b, k1n, k2]; refine hR _ _ _ ?_; clear hR R)
          rw [seqX_nil]
          refine hK _ _ _ ?_; clear hK K
          refine hJ1 (s.size - (i + 1)) _ _ _ (by omega) ⟨i + 1, true, rfl, rfl, rfl, hP, by simp [go_sem, xindex, xslice, g0, g2, g5, g6, hi, hg, hw1, k1, k1b, k1n, k2], by simp [go_sem, xindex, xslice, g0, g2, g5, g6, hi, hg, hw1, k1, k1b, k1n, k2], by simp [go_sem, xindex, xslice, g0, g2, g5, g6, hi, hg, hw1, k1, k1b, k1n, k2], by simp [go_sem, xindex, xslice, g0, g2, g5, g6, hi, hg, hw1, k1, k1b, k1n, k2], by omega, hsc.one hi fun r => by rw [scan_cons, if_neg k1, if_pos k2], fun h => by omega⟩
        have k2b : ((s[i].toNat : Int) == 91) = false := beq_eq_false_iff_ne.2 (by omega)
        have k2n : ¬ (s[i].toNat : Int) = 91 := by omega
        by_cases k3 : s[i].toNat = 93
        · skip
          refine xc_two fun N8 hN8 => ?_
          refine xc_two fun N9 hN9 => ?_
          refine xc_reg1 4 rfl fun K hK => ?_
          simp only [show (List.range 4).map (·, true) = [(0, true), (1, true), (2, true), (3, true)] from rfl, rslv_cons, rslv_nil, List.getElem?_toArray, List.getElem?_cons_zero, List.getElem?_cons_succ, gres]
          iterate 4 (refine seqX_hide2 fun R hR => ?_; simp [go_sem, xindex, xslice, g0, g2, g5, g6, hi, hg, hw1, k1, k1b, k1n, k2, k2b, k2n, k3]; refine hR _ _ _ ?_; clear hR R)
          rw [seqX_nil]
          refine hK _ _ _ ?_; clear hK K
          refine hN9 _ _ _ ?_
          refine xc_iftrue (by simp [go_sem, xindex, xslice, g0, g2, g5, g6, hi, hg, hw1, k1, k1b, k1n, k2, k2b, k2n, k3]) ?_
          refine hN8 _ _ _ ?_
          refine xc_two fun N10 hN10 => ?_
          rw [xc_block]
          refine xc_two fun N11 hN11 => ?_
          refine xc_reg1 3 rfl fun K hK => ?_
          simp only [show (List.range 3).map (·, true) = [(0, true), (1, true), (2, true)] from rfl, rslv_cons, rslv_nil, List.getElem?_toArray, List.getElem?_cons_zero, List.getElem?_cons_succ, gres]
          iterate 3 (refine seqX_hide2 fun R hR => ?_; simp [go_sem, xindex, xslice, g0, g2, g5, g6, hi, hg, hw1, k1, k1b, k1n, k2, k2b, k2n, k3]; refine hR _ _ _ ?_; clear hR R)
          rw [seqX_nil]
          refine hK _ _ _ ?_; clear hK K
          refine hN11 _ _ _ ?_
          rw [xc_block]
          refine xc_two fun N12 hN12 => ?_
          refine xc_reg1 2 rfl fun K hK => ?_
          simp only [show (List.range 2).map (·, true) = [(0, true), (1, true)] from rfl, rslv_cons, rslv_nil, List.getElem?_toArray, List.getElem?_cons_zero, List.getElem?_cons_succ, gres]
          iterate 2 (refine seqX_hide2 fun R hR => ?_; simp [go_sem, xindex, xslice, g0, g2, g5, g6, hi, hg, hw1, k1, k1b, k1n, k2, k2b, k2n, k3]; refine hR _ _ _ ?_; clear hR R)
          rw [seqX_nil]
          refine hK _ _ _ ?_; clear hK K
          refine hN12 _ _ _ ?_
          refine xc_iffalse (by simp [go_sem, xindex, xslice, g0, g2, g5, g6, hi, hg, hw1, k1, k1b, k1n, k2, k2b, k2n, k3]) ?_
          refine xc_two fun N13 hN13 => ?_
          refine xc_reg1 2 rfl fun K hK => ?_
          simp only [show (List.range 2).map (·, true) = [(0, true), (1, true)] from rfl, rslv_cons, rslv_nil, List.getElem?_toArray, List.getElem?_cons_zero, List.getElem?_cons_succ, gres]
          iterate 2 (refine seqX_hide2 fun R hR => ?_; simp [go_sem, xindex, xslice, g0, g2, g5, g6, hi, hg, hw1, k1, k1b, k1n, k2, k2b, k2n, k3]; refine hR _ _ _ ?_; clear hR R)
          rw [seqX_nil]
          refine hK _ _ _ ?_; clear hK K
          refine hN13 _ _ _ ?_
          refine xc_iffalse (by simp [go_sem, xindex, xslice, g0, g2, g5, g6, hi, hg, hw1, k1, k1b, k1n, k2, k2b, k2n, k3]) ?_
          refine xc_two fun N14 hN14 => ?_
          refine xc_reg1 2 rfl fun K hK => ?_
          simp only [show (List.range 2).map (·, true) = [(0, true), (1, true)] from rfl, rslv_cons, rslv_nil, List.getElem?_toArray, List.getElem?_cons_zero, List.getElem?_cons_succ, gres]
          iterate 2 (refine seqX_hide2 fun R hR => ?_; simp [go_sem, xindex, xslice, g0, g2, g5, g6, hi, hg, hw1, k1, k1b, k1n, k2, k2b, k2n, k3]; refine hR _ _ _ ?_; clear hR R)
          rw [seqX_nil]
          refine hK _ _ _ ?_; clear hK K
          refine hN14 _ _ _ ?_
          refine xc_iftrue (by simp [go_sem, xindex, xslice, g0, g2, g5, g6, hi, hg, hw1, k1, k1b, k1n, k2, k2b, k2n, k3]) ?_
          refine xc_reg1 1 rfl fun K hK => ?_
          simp only [show (List.range 1).map (·, true) = [(0, true)] from rfl, rslv_cons, rslv_nil, List.getElem?_toArray, List.getElem?_cons_zero, List.getElem?_cons_succ, gres]
          (refine seqX_hide2 fun R hR => ?_; simp [go_sem, xindex, xslice, g0, g2, g5, g6, hi, hg, hw1, k1, k1b, k1n, k2, k2b, k2n, k3]; refine hR _ _ _ ?_; clear hR R)
          rw [seqX_nil]
          refine hK _ _ _ ?_; clear hK K
          refine hN10 _ _ _ ?_
          refine xc_reg1 3 rfl fun K hK => ?_
          simp only [show (List.range 3).map (·, true) = [(0, true), (1, true), (2, true)] from rfl, rslv_cons, rslv_nil, List.getElem?_toArray, List.getElem?_cons_zero, List.getElem?_cons_succ, gres]
          iterate 3 (refine seqX_hide2 fun R hR => ?_; simp [go_sem, xindex, xslice, g0, g2, g5, g6, hi, hg, hw1, k1, k1b, k1n, k2, k2b, k2n, k3]; refine hR _ _ _ ?_; clear hR R)
          rw [seqX_nil]
          refine hK _ _ _ ?_; clear hK K
          refine hJ1 (s.size - (i + 1)) _ _ _ (by omega) ⟨i + 1, false, rfl, rfl, rfl, hP, by simp [go_sem, xindex, xslice, g0, g2, g5, g6, hi, hg, hw1, k1, k1b, k1n, k2, k2b, k2n, k3], by simp [go_sem, xindex, xslice, g0, g2, g5, g6, hi, hg, hw1, k1, k1b, k1n, k2, k2b, k2n, k3], by simp [go_sem, xindex, xslice, g0, g2, g5, g6, hi, hg, hw1, k1, k1b, k1n, k2, k2b, k2n, k3], by simp [go_sem, xindex, xslice, g0, g2, g5, g6, hi, hg, hw1, k1, k1b, k1n, k2, k2b, k2n, k3], by omega, hsc.one hi fun r => by rw [scan_cons, if_neg k1, if_neg k2, if_pos k3], fun h => by omega⟩
        have k3b : ((s[i].toNat : Int) == 93) = false := beq_eq_false_iff_ne.2 (by omega)
        have k3n : ¬ (s[i].toNat : Int) = 93 := by omega
        by_cases k4 : s[i].toNat = 42
        · have hii : (i : Int) ≤ s.size := by omega
          have hil' : i ≤ s.size := hil
          cases f with
          | true =>
            refine xc_two fun N8 hN8 => ?_
            refine xc_two fun N9 hN9 => ?_
            refine xc_reg1 4 rfl fun K hK => ?_
            simp only [show (List.range 4).map (·, true) = [(0, true), (1, true), (2, true), (3, true)] from rfl, rslv_cons, rslv_nil, List.getElem?_toArray, List.getElem?_cons_zero, List.getElem?_cons_succ, gres]
            iterate 4 (refine seqX_hide2 fun R hR => ?_; simp [go_sem, xindex, xslice, g0, g2, g5, g6, hi, hg, hw1, k1, k1b, k1n, k2, k2b, k2n, k3, k3b, k3n, k4, hii, hil']; refine hR _ _ _ ?_; clear hR R)
            rw [seqX_nil]
            refine hK _ _ _ ?_; clear hK K
            refine hN9 _ _ _ ?_
            refine xc_iftrue (by simp [go_sem, xindex, xslice, g0, g2, g5, g6, hi, hg, hw1, k1, k1b, k1n, k2, k2b, k2n, k3, k3b, k3n, k4, hii, hil']) ?_
            refine hN8 _ _ _ ?_
            refine xc_two fun N10 hN10 => ?_
            rw [xc_block]
            refine xc_two fun N11 hN11 => ?_
            refine xc_reg1 3 rfl fun K hK => ?_
            simp only [show (List.range 3).map (·, true) = [(0, true), (1, true), (2, true)] from rfl, rslv_cons, rslv_nil, List.getElem?_toArray, List.getElem?_cons_zero, List.getElem?_cons_succ, gres]
            iterate 3 (refine seqX_hide2 fun R hR => ?_; simp [go_sem, xindex, xslice, g0, g2, g5, g6, hi, hg, hw1, k1, k1b, k1n, k2, k2b, k2n, k3, k3b, k3n, k4, hii, hil']; refine hR _ _ _ ?_; clear hR R)
            rw [seqX_nil]
            refine hK _ _ _ ?_; clear hK K
            refine hN11 _ _ _ ?_
            rw [xc_block]
            refine xc_two fun N12 hN12 => ?_
            refine xc_reg1 2 rfl fun K hK => ?_
            simp only [show (List.range 2).map (·, true) = [(0, true), (1, true)] from rfl, rslv_cons, rslv_nil, List.getElem?_toArray, List.getElem?_cons_zero, List.getElem?_cons_succ, gres]
            iterate 2 (refine seqX_hide2 fun R hR => ?_; simp [go_sem, xindex, xslice, g0, g2, g5, g6, hi, hg, hw1, k1, k1b, k1n, k2, k2b, k2n, k3, k3b, k3n, k4, hii, hil']; refine hR _ _ _ ?_; clear hR R)
            rw [seqX_nil]
            refine hK _ _ _ ?_; clear hK K
            refine hN12 _ _ _ ?_
            refine xc_iffalse (by simp [go_sem, xindex, xslice, g0, g2, g5, g6, hi, hg, hw1, k1, k1b, k1n, k2, k2b, k2n, k3, k3b, k3n, k4, hii, hil']) ?_
            refine xc_two fun N13 hN13 => ?_
            refine xc_reg1 2 rfl fun K hK => ?_
            simp only [show (List.range 2).map (·, true) = [(0, true), (1, true)] from rfl, rslv_cons, rslv_nil, List.getElem?_toArray, List.getElem?_cons_zero, List.getElem?_cons_succ, gres]
            iterate 2 (refine seqX_hide2 fun R hR => ?_; simp [go_sem, xindex, xslice, g0, g2, g5, g6, hi, hg, hw1, k1, k1b, k1n, k2, k2b, k2n, k3, k3b, k3n, k4, hii, hil']; refine hR _ _ _ ?_; clear hR R)
            rw [seqX_nil]
            refine hK _ _ _ ?_; clear hK K
            refine hN13 _ _ _ ?_
            refine xc_iffalse (by simp [go_sem, xindex, xslice, g0, g2, g5, g6, hi, hg, hw1, k1, k1b, k1n, k2, k2b, k2n, k3, k3b, k3n, k4, hii, hil']) ?_
            refine xc_two fun N14 hN14 => ?_
            refine xc_reg1 2 rfl fun K hK => ?_
            simp only [show (List.range 2).map (·, true) = [(0, true), (1, true)] from rfl, rslv_cons, rslv_nil, List.getElem?_toArray, List.getElem?_cons_zero, List.getElem?_cons_succ, gres]
            iterate 2 (refine seqX_hide2 fun R hR => ?_; simp [go_sem, xindex, xslice, g0, g2, g5, g6, hi, hg, hw1, k1, k1b, k1n, k2, k2b, k2n, k3, k3b, k3n, k4, hii, hil']; refine hR _ _ _ ?_; clear hR R)
            rw [seqX_nil]
            refine hK _ _ _ ?_; clear hK K
            refine hN14 _ _ _ ?_
            refine xc_iffalse (by simp [go_sem, xindex, xslice, g0, g2, g5, g6, hi, hg, hw1, k1, k1b, k1n, k2, k2b, k2n, k3, k3b, k3n, k4, hii, hil']) ?_
            refine xc_two fun N15 hN15 => ?_
            refine xc_reg1 2 rfl fun K hK => ?_
            simp only [show (List.range 2).map (·, true) = [(0, true), (1, true)] from rfl, rslv_cons, rslv_nil, List.getElem?_toArray, List.getElem?_cons_zero, List.getElem?_cons_succ, gres]
            iterate 2 (refine seqX_hide2 fun R hR => ?_; simp [go_sem, xindex, xslice, g0, g2, g5, g6, hi, hg, hw1, k1, k1b, k1n, k2, k2b, k2n, k3, k3b, k3n, k4, hii, hil']; refine hR _ _ _ ?_; clear hR R)
            rw [seqX_nil]
            refine hK _ _ _ ?_; clear hK K
            refine hN15 _ _ _ ?_
            refine xc_iftrue (by simp [go_sem, xindex, xslice, g0, g2, g5, g6, hi, hg, hw1, k1, k1b, k1n, k2, k2b, k2n, k3, k3b, k3n, k4, hii, hil']) ?_
            refine xc_two fun N16 hN16 => ?_
            refine xc_reg1 2 rfl fun K hK => ?_
            simp only [show (List.range 2).map (·, true) = [(0, true), (1, true)] from rfl, rslv_cons, rslv_nil, List.getElem?_toArray, List.getElem?_cons_zero, List.getElem?_cons_succ, gres]
            iterate 2 (refine seqX_hide2 fun R hR => ?_; simp [go_sem, xindex, xslice, g0, g2, g5, g6, hi, hg, hw1, k1, k1b, k1n, k2, k2b, k2n, k3, k3b, k3n, k4, hii, hil']; refine hR _ _ _ ?_; clear hR R)
            rw [seqX_nil]
            refine hK _ _ _ ?_; clear hK K
            refine hN16 _ _ _ ?_
            refine xc_iffalse (by simp [go_sem, xindex, xslice, g0, g2, g5, g6, hi, hg, hw1, k1, k1b, k1n, k2, k2b, k2n, k3, k3b, k3n, k4, hii, hil']) ?_
            refine hN10 _ _ _ ?_
            refine xc_reg1 3 rfl fun K hK => ?_
            simp only [show (List.range 3).map (·, true) = [(0, true), (1, true), (2, true)] from rfl, rslv_cons, rslv_nil, List.getElem?_toArray, List.getElem?_cons_zero, List.getElem?_cons_succ, gres]
            iterate 3 (refine seqX_hide2 fun R hR => ?_; simp [go_sem, xindex, xslice, g0, g2, g5, g6, hi, hg, hw1, k1, k1b, k1n, k2, k2b, k2n, k3, k3b, k3n, k4, hii, hil']; refine hR _ _ _ ?_; clear hR R)
            rw [seqX_nil]
            refine hK _ _ _ ?_; clear hK K
            refine hJ1 (s.size - (i + 1)) _ _ _ (by omega) ⟨i + 1, true, rfl, rfl, rfl, hP, by simp [go_sem, xindex, xslice, g0, g2, g5, g6, hi, hg, hw1, k1, k1b, k1n, k2, k2b, k2n, k3, k3b, k3n, k4, hii, hil'], by simp [go_sem, xindex, xslice, g0, g2, g5, g6, hi, hg, hw1, k1, k1b, k1n, k2, k2b, k2n, k3, k3b, k3n, k4, hii, hil'], by simp [go_sem, xindex, xslice, g0, g2, g5, g6, hi, hg, hw1, k1, k1b, k1n, k2, k2b, k2n, k3, k3b, k3n, k4, hii, hil'], by simp [go_sem, xindex, xslice, g0, g2, g5, g6, hi, hg, hw1, k1, k1b, k1n, k2, k2b, k2n, k3, k3b, k3n, k4, hii, hil'], by omega, hsc.one hi fun r => by rw [scan_cons, if_neg k1, if_neg k2, if_neg k3, if_neg (fun h => by cases h.2)], fun h => by omega⟩
          | false =>
            refine xc_two fun N8 hN8 => ?_
            refine xc_two fun N9 hN9 => ?_
            refine xc_reg1 4 rfl fun K hK => ?_
            simp only [show (List.range 4).map (·, true) = [(0, true), (1, true), (2, true), (3, true)] from rfl, rslv_cons, rslv_nil, List.getElem?_toArray, List.getElem?_cons_zero, List.getElem?_cons_succ, gres]
            iterate 4 (refine seqX_hide2 fun R hR => ?_; simp [go_sem, xindex, xslice, g0, g2, g5, g6, hi, hg, hw1, k1, k1b, k1n, k2, k2b, k2n, k3, k3b, k3n, k4, hii, hil']; refine hR _ _ _ ?_; clear hR R)
            rw [seqX_nil]
            refine hK _ _ _ ?_; clear hK K
            refine hN9 _ _ _ ?_
            refine xc_iftrue (by simp [go_sem, xindex, xslice, g0, g2, g5, g6, hi, hg, hw1, k1, k1b, k1n, k2, k2b, k2n, k3, k3b, k3n, k4, hii, hil']) ?_
            refine hN8 _ _ _ ?_
            refine xc_two fun N10 hN10 => ?_
            rw [xc_block]
            refine xc_two fun N11 hN11 => ?_
            refine xc_reg1 3 rfl fun K hK => ?_
            simp only [show (List.range 3).map (·, true) = [(0, true), (1, true), (2, true)] from rfl, rslv_cons, rslv_nil, List.getElem?_toArray, List.getElem?_cons_zero, List.getElem?_cons_succ, gres]
            iterate 3 (refine seqX_hide2 fun R hR => ?_; simp [go_sem, xindex, xslice, g0, g2, g5, g6, hi, hg, hw1, k1, k1b, k1n, k2, k2b, k2n, k3, k3b, k3n, k4, hii, hil']; refine hR _ _ _ ?_; clear hR R)
            rw [seqX_nil]
            refine hK _ _ _ ?_; clear hK K
            refine hN11 _ _ _ ?_
            rw [xc_block]
            refine xc_two fun N12 hN12 => ?_
            refine xc_reg1 2 rfl fun K hK => ?_
            simp only [show (List.range 2).map (·, true) = [(0, true), (1, true)] from rfl, rslv_cons, rslv_nil, List.getElem?_toArray, List.getElem?_cons_zero, List.getElem?_cons_succ, gres]
            iterate 2 (refine seqX_hide2 fun R hR => ?_; simp [go_sem, xindex, xslice, g0, g2, g5, g6, hi, hg, hw1, k1, k1b, k1n, k2, k2b, k2n, k3, k3b, k3n, k4, hii, hil']; refine hR _ _ _ ?_; clear hR R)
            rw [seqX_nil]
            refine hK _ _ _ ?_; clear hK K
            refine hN12 _ _ _ ?_
            refine xc_iffalse (by simp [go_sem, xindex, xslice, g0, g2, g5, g6, hi, hg, hw1, k1, k1b, k1n, k2, k2b, k2n, k3, k3b, k3n, k4, hii, hil']) ?_
            refine xc_two fun N13 hN13 => ?_
            refine xc_reg1 2 rfl fun K hK => ?_
            simp only [show (List.range 2).map (·, true) = [(0, true), (1, true)] from rfl, rslv_cons, rslv_nil, List.getElem?_toArray, List.getElem?_cons_zero, List.getElem?_cons_succ, gres]
            iterate 2 (refine seqX_hide2 fun R hR => ?_; simp [go_sem, xindex, xslice, g0, g2, g5, g6, hi, hg, hw1, k1, k1b, k1n, k2, k2b, k2n, k3, k3b, k3n, k4, hii, hil']; refine hR _ _ _ ?_; clear hR R)
            rw [seqX_nil]
            refine hK _ _ _ ?_; clear hK K
            refine hN13 _ _ _ ?_
            refine xc_iffalse (by simp [go_sem, xindex, xslice, g0, g2, g5, g6, hi, hg, hw1, k1, k1b, k1n, k2, k2b, k2n, k3, k3b, k3n, k4, hii, hil']) ?_
            refine xc_two fun N14 hN14 => ?_
            refine xc_reg1 2 rfl fun K hK => ?_
            simp only [show (List.range 2).map (·, true) = [(0, true), (1, true)] from rfl, rslv_cons, rslv_nil, List.getElem?_toArray, List.getElem?_cons_zero, List.getElem?_cons_succ, gres]
            iterate 2 (refine seqX_hide2 fun R hR => ?_; simp [go_sem, xindex, xslice, g0, g2, g5, g6, hi, hg, hw1, k1, k1b, k1n, k2, k2b, k2n, k3, k3b, k3n, k4, hii, hil']; refine hR _ _ _ ?_; clear hR R)
            rw [seqX_nil]
            refine hK _ _ _ ?_; clear hK K
            refine hN14 _ _ _ ?_
            refine xc_iffalse (by simp [go_sem, xindex, xslice, g0, g2, g5, g6, hi, hg, hw1, k1, k1b, k1n, k2, k2b, k2n, k3, k3b, k3n, k4, hii, hil']) ?_
            refine xc_two fun N15 hN15 => ?_
            refine xc_reg1 2 rfl fun K hK => ?_
            simp only [show (List.range 2).map (·, true) = [(0, true), (1, true)] from rfl, rslv_cons, rslv_nil, List.getElem?_toArray, List.getElem?_cons_zero, List.getElem?_cons_succ, gres]
            iterate 2 (refine seqX_hide2 fun R hR => ?_; simp [go_sem, xindex, xslice, g0, g2, g5, g6, hi, hg, hw1, k1, k1b, k1n, k2, k2b, k2n, k3, k3b, k3n, k4, hii, hil']; refine hR _ _ _ ?_; clear hR R)
            rw [seqX_nil]
            refine hK _ _ _ ?_; clear hK K
            refine hN15 _ _ _ ?_
            refine xc_iftrue (by simp [go_sem, xindex, xslice, g0, g2, g5, g6, hi, hg, hw1, k1, k1b, k1n, k2, k2b, k2n, k3, k3b, k3n, k4, hii, hil']) ?_
            refine xc_two fun N16 hN16 => ?_
            refine xc_reg1 2 rfl fun K hK => ?_
            simp only [show (List.range 2).map (·, true) = [(0, true), (1, true)] from rfl, rslv_cons, rslv_nil, List.getElem?_toArray, List.getElem?_cons_zero, List.getElem?_cons_succ, gres]
            iterate 2 (refine seqX_hide2 fun R hR => ?_; simp [go_sem, xindex, xslice, g0, g2, g5, g6, hi, hg, hw1, k1, k1b, k1n, k2, k2b, k2n, k3, k3b, k3n, k4, hii, hil']; refine hR _ _ _ ?_; clear hR R)
            rw [seqX_nil]
            refine hK _ _ _ ?_; clear hK K
            refine hN16 _ _ _ ?_
            refine xc_iftrue (by simp [go_sem, xindex, xslice, g0, g2, g5, g6, hi, hg, hw1, k1, k1b, k1n, k2, k2b, k2n, k3, k3b, k3n, k4, hii, hil']) ?_
            refine xc_two fun N17 hN17 => ?_
            rw [xc_draws]
            refine vdrawK [(0, true), (1, true), (2, true), (3, true), (4, true), (5, true), (6, true), (7, true), (8, true), (9, true)] (ov A []) mixed (by kernel_rfl) (View.le_refl _) fun K hK => ?_
            simp only [rslv_cons, rslv_nil, List.getElem?_toArray, List.getElem?_cons_zero, List.getElem?_cons_succ, gres]
            iterate 10 (refine seqR_hide fun R hR => ?_; simp [go_sem, xindex, xslice, g0, g2, g5, g6, hi, hg, hw1, k1, k1b, k1n, k2, k2b, k2n, k3, k3b, k3n, k4, hii, hil']; refine hR _ _ _ ?_; clear hR R)
            rw [seqR_nil]
            refine hK _ _ _ ?_; clear hK K
            refine hN17 _ _ _ ?_
            refine hX1 _ _ _ _ ?_
            simp [go_sem, xindex, xslice, g0, g2, g5, g6, hi, hg, hw1, k1, k1b, k1n, k2, k2b, k2n, k3, k3b, k3n, k4, hii, hil']
            have hip : 0 < i := by
              rcases Nat.eq_zero_or_pos i with h | h
              · subst h; exact absurd k4 hd
              · exact h
            have hc1 : (s.extract 0 i).size = i := by
              have h1 := nb_len (s.extract 0 i)
              rw [nb_take, List.length_take, nb_len] at h1
              omega
            have hc2 := extract_size' s i hil
            refine ⟨⟨n, s.extract 0 i, s.extract i s.size, rfl, ⟨nb s, hnb, ?_⟩, by omega, by omega, by omega, by omega, fun _ h => by omega⟩, rfl⟩
            unfold Sc at hsc
            rw [hsc, nb_at hi, k4, scan_cons, nb_take, nb_drop, nb_at hi, k4]
            simp
        have k4b : ((s[i].toNat : Int) == 42) = false := beq_eq_false_iff_ne.2 (by omega)
        have k4n : ¬ (s[i].toNat : Int) = 42 := by omega
        refine xc_two fun N8 hN8 => ?_
        refine xc_two fun N9 hN9 => ?_
        refine xc_reg1 4 rfl fun K hK => ?_
        simp only [show (List.range 4).map (·, true) = [(0, true), (1, true), (2, true), (3, true)] from rfl, rslv_cons, rslv_nil, List.getElem?_toArray, List.getElem?_cons_zero, List.getElem?_cons_succ, gres]
        iterate 4 (refine seqX_hide2 fun R hR => ?_; simp [go_sem, xindex, xslice, g0, g2, g5, g6, hi, hg, hw1, k1, k1b, k1n, k2, k2b, k2n, k3, k3b, k3n, k4, k4b, k4n]; refine hR _ _ _ ?_; clear hR R)
        rw [seqX_nil]
        refine hK _ _ _ ?_; clear hK K
        refine hN9 _ _ _ ?_
        refine xc_iftrue (by simp [go_sem, xindex, xslice, g0, g2, g5, g6, hi, hg, hw1, k1, k1b, k1n, k2, k2b, k2n, k3, k3b, k3n, k4, k4b, k4n]) ?_
        refine hN8 _ _ _ ?_
        refine xc_two fun N10 hN10 => ?_
        rw [xc_block]
        refine xc_two fun N11 hN11 => ?_
        refine xc_reg1 3 rfl fun K hK => ?_
        simp only [show (List.range 3).map (·, true) = [(0, true), (1, true), (2, true)] from rfl, rslv_cons, rslv_nil, List.getElem?_toArray, List.getElem?_cons_zero, List.getElem?_cons_succ, gres]
        iterate 3 (refine seqX_hide2 fun R hR => ?_; simp [go_sem, xindex, xslice, g0, g2, g5, g6, hi, hg, hw1, k1, k1b, k1n, k2, k2b, k2n, k3, k3b, k3n, k4, k4b, k4n]; refine hR _ _ _ ?_; clear hR R)
        rw [seqX_nil]
        refine hK _ _ _ ?_; clear hK K
        refine hN11 _ _ _ ?_
        rw [xc_block]
        refine xc_two fun N12 hN12 => ?_
        refine xc_reg1 2 rfl fun K hK => ?_
        simp only [show (List.range 2).map (·, true) = [(0, true), (1, true)] from rfl, rslv_cons, rslv_nil, List.getElem?_toArray, List.getElem?_cons_zero, List.getElem?_cons_succ, gres]
        iterate 2 (refine seqX_hide2 fun R hR => ?_; simp [go_sem, xindex, xslice, g0, g2, g5, g6, hi, hg, hw1, k1, k1b, k1n, k2, k2b, k2n, k3, k3b, k3n, k4, k4b, k4n]; refine hR _ _ _ ?_; clear hR R)
        rw [seqX_nil]
        refine hK _ _ _ ?_; clear hK K
        refine hN12 _ _ _ ?_
        refine xc_iffalse (by simp [go_sem, xindex, xslice, g0, g2, g5, g6, hi, hg, hw1, k1, k1b, k1n, k2, k2b, k2n, k3, k3b, k3n, k4, k4b, k4n]) ?_
        refine xc_two fun N13 hN13 => ?_
        refine xc_reg1 2 rfl fun K hK => ?_
        simp only [show (List.range 2).map (·, true) = [(0, true), (1, true)] from rfl, rslv_cons, rslv_nil, List.getElem?_toArray, List.getElem?_cons_zero, List.getElem?_cons_succ, gres]
        iterate 2 (refine seqX_hide2 fun R hR => ?_; simp [go_sem, xindex, xslice, g0, g2, g5, g6, hi, hg, hw1, k1, k1b, k1n, k2, k2b, k2n, k3, k3b, k3n, k4, k4b, k4n]; refine hR _ _ _ ?_; clear hR R)
        rw [seqX_nil]
        refine hK _ _ _ ?_; clear hK K
        refine hN13 _ _ _ ?_
        refine xc_iffalse (by simp [go_sem, xindex, xslice, g0, g2, g5, g6, hi, hg, hw1, k1, k1b, k1n, k2, k2b, k2n, k3, k3b, k3n, k4, k4b, k4n]) ?_
        refine xc_two fun N14 hN14 => ?_
        refine xc_reg1 2 rfl fun K hK => ?_
        simp only [show (List.range 2).map (·, true) = [(0, true), (1, true)] from rfl, rslv_cons, rslv_nil, List.getElem?_toArray, List.getElem?_cons_zero, List.getElem?_cons_succ, gres]
        iterate 2 (refine seqX_hide2 fun R hR => ?_; simp [go_sem, xindex, xslice, g0, g2, g5, g6, hi, hg, hw1, k1, k1b, k1n, k2, k2b, k2n, k3, k3b, k3n, k4, k4b, k4n]; refine hR _ _ _ ?_; clear hR R)
        rw [seqX_nil]
        refine hK _ _ _ ?_; clear hK K
        refine hN14 _ _ _ ?_
        refine xc_iffalse (by simp [go_sem, xindex, xslice, g0, g2, g5, g6, hi, hg, hw1, k1, k1b, k1n, k2, k2b, k2n, k3, k3b, k3n, k4, k4b, k4n]) ?_
        refine xc_two fun N15 hN15 => ?_
        refine xc_reg1 2 rfl fun K hK => ?_
        simp only [show (List.range 2).map (·, true) = [(0, true), (1, true)] from rfl, rslv_cons, rslv_nil, List.getElem?_toArray, List.getElem?_cons_zero, List.getElem?_cons_succ, gres]
        iterate 2 (refine seqX_hide2 fun R hR => ?_; simp [go_sem, xindex, xslice, g0, g2, g5, g6, hi, hg, hw1, k1, k1b, k1n, k2, k2b, k2n, k3, k3b, k3n, k4, k4b, k4n]; refine hR _ _ _ ?_; clear hR R)
        rw [seqX_nil]
        refine hK _ _ _ ?_; clear hK K
        refine hN15 _ _ _ ?_
        refine xc_iffalse (by simp [go_sem, xindex, xslice, g0, g2, g5, g6, hi, hg, hw1, k1, k1b, k1n, k2, k2b, k2n, k3, k3b, k3n, k4, k4b, k4n]) ?_
        refine hN10 _ _ _ ?_
        refine xc_reg1 3 rfl fun K hK => ?_
        simp only [show (List.range 3).map (·, true) = [(0, true), (1, true), (2, true)] from rfl, rslv_cons, rslv_nil, List.getElem?_toArray, List.getElem?_cons_zero, List.getElem?_cons_succ, gres]
        iterate 3 (refine seqX_hide2 fun R hR => ?_; simp [go_sem, xindex, xslice, g0, g2, g5, g6, hi, hg, hw1, k1, k1b, k1n, k2, k2b, k2n, k3, k3b, k3n, k4, k4b, k4n]; refine hR _ _ _ ?_; clear hR R)
        rw [seqX_nil]
        refine hK _ _ _ ?_; clear hK K
        refine hJ1 (s.size - (i + 1)) _ _ _ (by omega) ⟨i + 1, f, rfl, rfl, rfl, hP, by simp [go_sem, xindex, xslice, g0, g2, g5, g6, hi, hg, hw1, k1, k1b, k1n, k2, k2b, k2n, k3, k3b, k3n, k4, k4b, k4n], by simp [go_sem, xindex, xslice, g0, g2, g5, g6, hi, hg, hw1, k1, k1b, k1n, k2, k2b, k2n, k3, k3b, k3n, k4, k4b, k4n], by simp [go_sem, xindex, xslice, g0, g2, g5, g6, hi, hg, hw1, k1, k1b, k1n, k2, k2b, k2n, k3, k3b, k3n, k4, k4b, k4n], by simp [go_sem, xindex, xslice, g0, g2, g5, g6, hi, hg, hw1, k1, k1b, k1n, k2, k2b, k2n, k3, k3b, k3n, k4, k4b, k4n], by omega, hsc.one hi fun r => by rw [scan_cons, if_neg k1, if_neg k2, if_neg k3, if_neg (fun h => k4 h.1)], fun h => by omega⟩
      · skip
        refine xc_two fun N8 hN8 => ?_
        refine xc_two fun N9 hN9 => ?_
        refine xc_reg1 4 rfl fun K hK => ?_
        simp only [show (List.range 4).map (·, true) = [(0, true), (1, true), (2, true), (3, true)] from rfl, rslv_cons, rslv_nil, List.getElem?_toArray, List.getElem?_cons_zero, List.getElem?_cons_succ, gres]
        iterate 4 (refine seqX_hide2 fun R hR => ?_; simp [go_sem, xindex, xslice, g0, g2, g5, g6, hi]; refine hR _ _ _ ?_; clear hR R)
        rw [seqX_nil]
        refine hK _ _ _ ?_; clear hK K
        refine hN9 _ _ _ ?_
        refine xc_iffalse (by simp [go_sem, xindex, xslice, g0, g2, g5, g6, hi]) ?_
        refine hX1 _ _ _ _ ?_
        refine hN6 _ _ _ ?_
        refine xc_two fun N10 hN10 => ?_
        refine xc_reg1 5 rfl fun K hK => ?_
        simp only [show (List.range 5).map (·, true) = [(0, true), (1, true), (2, true), (3, true), (4, true)] from rfl, rslv_cons, rslv_nil, List.getElem?_toArray, List.getElem?_cons_zero, List.getElem?_cons_succ, gres]
        iterate 5 (refine seqX_hide2 fun R hR => ?_; simp [go_sem, xindex, xslice, g0, g2, g5, g6, hi]; refine hR _ _ _ ?_; clear hR R)
        rw [seqX_nil]
        refine hK _ _ _ ?_; clear hK K
        refine hN10 _ _ _ ?_
        simp [go_sem, xindex, xslice, g0, g2, g5, g6, hi]
        have hi3 : i = s.size := by omega
        refine ⟨⟨n, s, ⟨#[]⟩, rfl, ⟨nb s, hnb, ?_⟩, by omega, Nat.zero_le _, by omega, ?_, fun _ _ => rfl⟩, rfl⟩
        · unfold Sc at hsc
          have hd2 : (nb s).drop i = [] := List.drop_of_length_le (by rw [nb_len]; omega)
          rw [hsc, hd2, scan_nil, List.take_of_length_le (by rw [nb_len]; omega), nb_empty]
          simp
        · have : (⟨#[]⟩ : ByteArray).size = 0 := rfl
          omega
end Go.Proofs.YthjbgpmcfcijgaaDoorV

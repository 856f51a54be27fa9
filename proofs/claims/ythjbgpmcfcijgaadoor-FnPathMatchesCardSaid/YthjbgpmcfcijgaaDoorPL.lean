/- Shell patterns: the reference's heChar and takes. -/
import Derived.Test.YthjbgpmcfcijgaaDoorPK
namespace Go.Proofs.YthjbgpmcfcijgaaDoorV
open Go.RowKit
open Pm (nb nb_len nb_get nb_drop nb_nil nb_cons nb_extract extract_size' It takes chr1)
set_option linter.unusedSimpArgs false
set_option linter.unusedVariables false
/-- What heChar tells. -/
def HcR (v0 : Value) (l : List Nat) (r : Value) : Prop := match chr1 l with
  | none => r = .tuple #[.int .i32 0, .slice none 0 0, .bool false]
  | some (c, q) => ∃ v, r = .tuple #[.int .i32 (c : Nat), v, .bool true] ∧ ∀ B, Rn B v0 l → Rn B v q
theorem chr0_one (c : Nat) : chr0 [c] = none := rfl
set_option maxRecDepth 20000 in
theorem char29 (A : View) (v : Value) (l : List Nat) (h : Rn A v l) (hl : l.length ≤ 1000000) : VCalls Tryd.prog 29 #[v] A fun r A' => HcR v l r ∧ A' = A := by
  obtain ⟨b, o, cap, rfl, hcap, hel⟩ := h
  have hRn : Rn A (.slice (some ⟨b, o, none⟩) l.length cap) l := ⟨b, o, cap, rfl, hcap, hel⟩
  refine xcalls Tryd.func29 rfl (by simp [Tryd.ntmps29]) ?_
  simp only [Tryd.f29]
  have hP : Priv A (addrs []) := Priv.nil A
  show xc _ _ _ _ _ _ (ov A [])
  cases l with
  | nil =>
    refine xc_two fun N1 hN1 => ?_
    refine xc_reg1 3 rfl fun K hK => ?_
    simp only [show (List.range 3).map (·, true) = [(0, true), (1, true), (2, true)] from rfl, rslv_cons, rslv_nil, List.getElem?_toArray, List.getElem?_cons_zero, List.getElem?_cons_succ, gres]
    iterate 3 (refine seqX_hide2 fun R hR => ?_; simp [go_sem, List.length_nil]; refine hR _ _ _ ?_; clear hR R)
    rw [seqX_nil]
    refine hK _ _ _ ?_; clear hK K
    refine hN1 _ _ _ ?_
    refine xc_two fun N2 hN2 => ?_
    refine xc_two fun N3 hN3 => ?_
    refine xc_reg1 15 rfl fun K hK => ?_
    simp only [show (List.range 15).map (·, true) = [(0, true), (1, true), (2, true), (3, true), (4, true), (5, true), (6, true), (7, true), (8, true), (9, true), (10, true), (11, true), (12, true), (13, true), (14, true)] from rfl, rslv_cons, rslv_nil, List.getElem?_toArray, List.getElem?_cons_zero, List.getElem?_cons_succ, gres]
    iterate 15 (refine seqX_hide2 fun R hR => ?_; simp [go_sem, List.length_nil]; refine hR _ _ _ ?_; clear hR R)
    rw [seqX_nil]
    refine hK _ _ _ ?_; clear hK K
    refine hN3 _ _ _ ?_
    refine xc_iftrue (by simp [go_sem, List.length_nil]) ?_
    refine xc_two fun N4 hN4 => ?_
    refine xc_reg1 3 rfl fun K hK => ?_
    simp only [show (List.range 3).map (·, true) = [(0, true), (1, true), (2, true)] from rfl, rslv_cons, rslv_nil, List.getElem?_toArray, List.getElem?_cons_zero, List.getElem?_cons_succ, gres]
    iterate 3 (refine seqX_hide2 fun R hR => ?_; simp [go_sem, List.length_nil]; refine hR _ _ _ ?_; clear hR R)
    rw [seqX_nil]
    refine hK _ _ _ ?_; clear hK K
    refine hN4 _ _ _ ?_
    simp [go_sem, List.length_nil]
    exact ⟨by unfold HcR; rfl, rfl⟩
  | cons c r =>
    have u0 := hel 0 (by simp)
    simp only [List.getElem_cons_zero, Nat.add_zero] at u0
    have hn0 : ((r.length + 1 : Nat) : Int) ≠ 0 := by omega
    have hn0b : (((r.length : Int) + 1) == 0) = false := beq_eq_false_iff_ne.2 (by omega)
    have hn1 : ¬ ((r.length : Int) + 1) = 0 := by omega
    have hlen : (c :: r).length = r.length + 1 := rfl
    have hp1 : (0 : Int) < (r.length : Int) + 1 := by omega
    rw [hlen] at hRn hl hcap ⊢
    by_cases k1 : c = 45
    · subst k1
      refine xc_two fun N1 hN1 => ?_
      refine xc_reg1 3 rfl fun K hK => ?_
      simp only [show (List.range 3).map (·, true) = [(0, true), (1, true), (2, true)] from rfl, rslv_cons, rslv_nil, List.getElem?_toArray, List.getElem?_cons_zero, List.getElem?_cons_succ, gres]
      iterate 3 (refine seqX_hide2 fun R hR => ?_; simp [go_sem, hn0, hn0b, hn1, hp1, bc hP u0, xindexAt, vload]; refine hR _ _ _ ?_; clear hR R)
      rw [seqX_nil]
      refine hK _ _ _ ?_; clear hK K
      refine hN1 _ _ _ ?_
      refine xc_two fun N2 hN2 => ?_
      refine xc_two fun N3 hN3 => ?_
      refine xc_reg1 15 rfl fun K hK => ?_
      simp only [show (List.range 15).map (·, true) = [(0, true), (1, true), (2, true), (3, true), (4, true), (5, true), (6, true), (7, true), (8, true), (9, true), (10, true), (11, true), (12, true), (13, true), (14, true)] from rfl, rslv_cons, rslv_nil, List.getElem?_toArray, List.getElem?_cons_zero, List.getElem?_cons_succ, gres]
      iterate 15 (refine seqX_hide2 fun R hR => ?_; simp [go_sem, hn0, hn0b, hn1, hp1, bc hP u0, xindexAt, vload]; refine hR _ _ _ ?_; clear hR R)
      rw [seqX_nil]
      refine hK _ _ _ ?_; clear hK K
      refine hN3 _ _ _ ?_
      refine xc_iftrue (by simp [go_sem, hn0, hn0b, hn1, hp1, bc hP u0, xindexAt, vload]) ?_
      refine xc_two fun N4 hN4 => ?_
      refine xc_reg1 3 rfl fun K hK => ?_
      simp only [show (List.range 3).map (·, true) = [(0, true), (1, true), (2, true)] from rfl, rslv_cons, rslv_nil, List.getElem?_toArray, List.getElem?_cons_zero, List.getElem?_cons_succ, gres]
      iterate 3 (refine seqX_hide2 fun R hR => ?_; simp [go_sem, hn0, hn0b, hn1, hp1, bc hP u0, xindexAt, vload]; refine hR _ _ _ ?_; clear hR R)
      rw [seqX_nil]
      refine hK _ _ _ ?_; clear hK K
      refine hN4 _ _ _ ?_
      simp [go_sem, hn0, hn0b, hn1, hp1, bc hP u0, xindexAt, vload]
      exact ⟨by unfold HcR; rw [show chr1 (45 :: r) = none by simp [chr1]], rfl⟩
    have k1b : ((c : Int) == 45) = false := beq_eq_false_iff_ne.2 (by omega)
    have k1n : ¬ (c : Int) = 45 := by omega
    by_cases k2 : c = 93
    · subst k2
      refine xc_two fun N1 hN1 => ?_
      refine xc_reg1 3 rfl fun K hK => ?_
      simp only [show (List.range 3).map (·, true) = [(0, true), (1, true), (2, true)] from rfl, rslv_cons, rslv_nil, List.getElem?_toArray, List.getElem?_cons_zero, List.getElem?_cons_succ, gres]
      iterate 3 (refine seqX_hide2 fun R hR => ?_; simp [go_sem, hn0, hn0b, hn1, hp1, bc hP u0, xindexAt, vload, k1, k1b, k1n]; refine hR _ _ _ ?_; clear hR R)
      rw [seqX_nil]
      refine hK _ _ _ ?_; clear hK K
      refine hN1 _ _ _ ?_
      refine xc_two fun N2 hN2 => ?_
      refine xc_two fun N3 hN3 => ?_
      refine xc_reg1 15 rfl fun K hK => ?_
      simp only [show (List.range 15).map (·, true) = [(0, true), (1, true), (2, true), (3, true), (4, true), (5, true), (6, true), (7, true), (8, true), (9, true), (10, true), (11, true), (12, true), (13, true), (14, true)] from rfl, rslv_cons, rslv_nil, List.getElem?_toArray, List.getElem?_cons_zero, List.getElem?_cons_succ, gres]
      iterate 15 (refine seqX_hide2 fun R hR => ?_; simp [go_sem, hn0, hn0b, hn1, hp1, bc hP u0, xindexAt, vload, k1, k1b, k1n]; refine hR _ _ _ ?_; clear hR R)
      rw [seqX_nil]
      refine hK _ _ _ ?_; clear hK K
      refine hN3 _ _ _ ?_
      refine xc_iftrue (by simp [go_sem, hn0, hn0b, hn1, hp1, bc hP u0, xindexAt, vload, k1, k1b, k1n]) ?_
      refine xc_two fun N4 hN4 => ?_
      refine xc_reg1 3 rfl fun K hK => ?_
      simp only [show (List.range 3).map (·, true) = [(0, true), (1, true), (2, true)] from rfl, rslv_cons, rslv_nil, List.getElem?_toArray, List.getElem?_cons_zero, List.getElem?_cons_succ, gres]
      iterate 3 (refine seqX_hide2 fun R hR => ?_; simp [go_sem, hn0, hn0b, hn1, hp1, bc hP u0, xindexAt, vload, k1, k1b, k1n]; refine hR _ _ _ ?_; clear hR R)
      rw [seqX_nil]
      refine hK _ _ _ ?_; clear hK K
      refine hN4 _ _ _ ?_
      simp [go_sem, hn0, hn0b, hn1, hp1, bc hP u0, xindexAt, vload, k1, k1b, k1n]
      exact ⟨by unfold HcR; rw [show chr1 (93 :: r) = none by simp [chr1]], rfl⟩
    have k2b : ((c : Int) == 93) = false := beq_eq_false_iff_ne.2 (by omega)
    have k2n : ¬ (c : Int) = 93 := by omega
    refine xc_two fun N1 hN1 => ?_
    refine xc_reg1 3 rfl fun K hK => ?_
    simp only [show (List.range 3).map (·, true) = [(0, true), (1, true), (2, true)] from rfl, rslv_cons, rslv_nil, List.getElem?_toArray, List.getElem?_cons_zero, List.getElem?_cons_succ, gres]
    iterate 3 (refine seqX_hide2 fun R hR => ?_; simp [go_sem, hn0, hn0b, hn1, hp1, bc hP u0, xindexAt, vload, k1, k1b, k1n, k2, k2b, k2n]; refine hR _ _ _ ?_; clear hR R)
    rw [seqX_nil]
    refine hK _ _ _ ?_; clear hK K
    refine hN1 _ _ _ ?_
    refine xc_two fun N2 hN2 => ?_
    refine xc_two fun N3 hN3 => ?_
    refine xc_reg1 15 rfl fun K hK => ?_
    simp only [show (List.range 15).map (·, true) = [(0, true), (1, true), (2, true), (3, true), (4, true), (5, true), (6, true), (7, true), (8, true), (9, true), (10, true), (11, true), (12, true), (13, true), (14, true)] from rfl, rslv_cons, rslv_nil, List.getElem?_toArray, List.getElem?_cons_zero, List.getElem?_cons_succ, gres]
    iterate 15 (refine seqX_hide2 fun R hR => ?_; simp [go_sem, hn0, hn0b, hn1, hp1, bc hP u0, xindexAt, vload, k1, k1b, k1n, k2, k2b, k2n]; refine hR _ _ _ ?_; clear hR R)
    rw [seqX_nil]
    refine hK _ _ _ ?_; clear hK K
    refine hN3 _ _ _ ?_
    refine xc_iffalse (by simp [go_sem, hn0, hn0b, hn1, hp1, bc hP u0, xindexAt, vload, k1, k1b, k1n, k2, k2b, k2n]) ?_
    refine hN2 _ _ _ ?_
    refine xc_two fun N4 hN4 => ?_
    refine xc_two fun N5 hN5 => ?_
    refine xc_reg1 4 rfl fun K hK => ?_
    simp only [show (List.range 4).map (·, true) = [(0, true), (1, true), (2, true), (3, true)] from rfl, rslv_cons, rslv_nil, List.getElem?_toArray, List.getElem?_cons_zero, List.getElem?_cons_succ, gres]
    iterate 4 (refine seqX_hide2 fun R hR => ?_; simp [go_sem, hn0, hn0b, hn1, hp1, bc hP u0, xindexAt, vload, k1, k1b, k1n, k2, k2b, k2n]; refine hR _ _ _ ?_; clear hR R)
    rw [seqX_nil]
    refine hK _ _ _ ?_; clear hK K
    refine hN5 _ _ _ ?_
    have tl : ∀ (v2 : Value) (l2 : List Nat) (e : Env), Priv A [] → e 0 = v2 → (Rn A v2 l2) → (∀ B, Rn B (.slice (some ⟨b, o, none⟩) (r.length + 1) cap) (c :: r) → Rn B v2 l2) → (chr1 (c :: r) = chr0 l2) → (l2.length ≤ 1000000) → N4 e [] (ov A []) := by
      clear hP
      intro v2 l2 e hP g0 hR2 hB2 hc2 hl2
      refine hN4 _ _ _ ?_
      obtain ⟨b2, o2, cap2, rfl, hcap2, hel2⟩ := hR2
      match l2, hcap2, hel2, hc2, hl2, hB2 with
      | [], hcap2, hel2, hc2, hl2, hB2 =>
        refine xc_two fun N6 hN6 => ?_
        refine xc_two fun N7 hN7 => ?_
        refine xc_reg1 3 rfl fun K hK => ?_
        simp only [show (List.range 3).map (·, true) = [(0, true), (1, true), (2, true)] from rfl, rslv_cons, rslv_nil, List.getElem?_toArray, List.getElem?_cons_zero, List.getElem?_cons_succ, gres]
        iterate 3 (refine seqX_hide2 fun R hR => ?_; simp [go_sem, hn0, hn0b, hn1, hp1, bc hP u0, xindexAt, vload, k1, k1b, k1n, k2, k2b, k2n, g0, List.length_nil]; refine hR _ _ _ ?_; clear hR R)
        rw [seqX_nil]
        refine hK _ _ _ ?_; clear hK K
        refine hN7 _ _ _ ?_
        refine xc_iftrue (by simp [go_sem, hn0, hn0b, hn1, hp1, bc hP u0, xindexAt, vload, k1, k1b, k1n, k2, k2b, k2n, g0, List.length_nil]) ?_
        refine xc_two fun N8 hN8 => ?_
        refine xc_reg1 3 rfl fun K hK => ?_
        simp only [show (List.range 3).map (·, true) = [(0, true), (1, true), (2, true)] from rfl, rslv_cons, rslv_nil, List.getElem?_toArray, List.getElem?_cons_zero, List.getElem?_cons_succ, gres]
        iterate 3 (refine seqX_hide2 fun R hR => ?_; simp [go_sem, hn0, hn0b, hn1, hp1, bc hP u0, xindexAt, vload, k1, k1b, k1n, k2, k2b, k2n, g0, List.length_nil]; refine hR _ _ _ ?_; clear hR R)
        rw [seqX_nil]
        refine hK _ _ _ ?_; clear hK K
        refine hN8 _ _ _ ?_
        simp [go_sem, hn0, hn0b, hn1, hp1, bc hP u0, xindexAt, vload, k1, k1b, k1n, k2, k2b, k2n, g0, List.length_nil]
        exact ⟨by unfold HcR; rw [hc2]; rfl, rfl⟩
      | [x], hcap2, hel2, hc2, hl2, hB2 =>
        refine xc_two fun N6 hN6 => ?_
        refine xc_two fun N7 hN7 => ?_
        refine xc_reg1 3 rfl fun K hK => ?_
        simp only [show (List.range 3).map (·, true) = [(0, true), (1, true), (2, true)] from rfl, rslv_cons, rslv_nil, List.getElem?_toArray, List.getElem?_cons_zero, List.getElem?_cons_succ, gres]
        iterate 3 (refine seqX_hide2 fun R hR => ?_; simp [go_sem, hn0, hn0b, hn1, hp1, bc hP u0, xindexAt, vload, k1, k1b, k1n, k2, k2b, k2n, g0, List.length_singleton]; refine hR _ _ _ ?_; clear hR R)
        rw [seqX_nil]
        refine hK _ _ _ ?_; clear hK K
        refine hN7 _ _ _ ?_
        refine xc_iftrue (by simp [go_sem, hn0, hn0b, hn1, hp1, bc hP u0, xindexAt, vload, k1, k1b, k1n, k2, k2b, k2n, g0, List.length_singleton]) ?_
        refine xc_two fun N8 hN8 => ?_
        refine xc_reg1 3 rfl fun K hK => ?_
        simp only [show (List.range 3).map (·, true) = [(0, true), (1, true), (2, true)] from rfl, rslv_cons, rslv_nil, List.getElem?_toArray, List.getElem?_cons_zero, List.getElem?_cons_succ, gres]
        iterate 3 (refine seqX_hide2 fun R hR => ?_; simp [go_sem, hn0, hn0b, hn1, hp1, bc hP u0, xindexAt, vload, k1, k1b, k1n, k2, k2b, k2n, g0, List.length_singleton]; refine hR _ _ _ ?_; clear hR R)
        rw [seqX_nil]
        refine hK _ _ _ ?_; clear hK K
        refine hN8 _ _ _ ?_
        simp [go_sem, hn0, hn0b, hn1, hp1, bc hP u0, xindexAt, vload, k1, k1b, k1n, k2, k2b, k2n, g0, List.length_singleton]
        exact ⟨by unfold HcR; rw [hc2]; rfl, rfl⟩
      | x :: y :: l3, hcap2, hel2, hc2, hl2, hB2 =>
        have hlen2 : (x :: y :: l3).length = l3.length + 2 := rfl
        have u2 := hel2 0 (by simp)
        simp only [List.getElem_cons_zero, Nat.add_zero] at u2
        have q1 : ¬ ((l3.length : Int) + 2) < 2 := by omega
        have q2 : ¬ l3.length + 2 < 2 := by omega
        have q3 : (1 : Int) ≤ (l3.length : Int) + 2 := by omega
        have q4 : (0 : Int) < (l3.length : Int) + 2 := by omega
        have q5 : l3.length + 2 ≤ cap2 := hcap2
        rw [hlen2] at g0
        refine xc_two fun N6 hN6 => ?_
        refine xc_two fun N7 hN7 => ?_
        refine xc_reg1 3 rfl fun K hK => ?_
        simp only [show (List.range 3).map (·, true) = [(0, true), (1, true), (2, true)] from rfl, rslv_cons, rslv_nil, List.getElem?_toArray, List.getElem?_cons_zero, List.getElem?_cons_succ, gres]
        iterate 3 (refine seqX_hide2 fun R hR => ?_; simp [go_sem, hn0, hn0b, hn1, hp1, bc hP u0, xindexAt, vload, k1, k1b, k1n, k2, k2b, k2n, g0, q1, q2, q3, q4, q5, bc hP u2, xslice]; refine hR _ _ _ ?_; clear hR R)
        rw [seqX_nil]
        refine hK _ _ _ ?_; clear hK K
        refine hN7 _ _ _ ?_
        refine xc_iffalse (by simp [go_sem, hn0, hn0b, hn1, hp1, bc hP u0, xindexAt, vload, k1, k1b, k1n, k2, k2b, k2n, g0, q1, q2, q3, q4, q5, bc hP u2, xslice]) ?_
        refine hN6 _ _ _ ?_
        refine xc_two fun N8 hN8 => ?_
        rw [xc_draws]
        refine vdrawK [(0, true), (1, true), (2, true), (3, true), (4, true), (5, true), (6, true), (7, true)] (ov A []) mixed (by kernel_rfl) (View.le_refl _) fun K hK => ?_
        simp only [rslv_cons, rslv_nil, List.getElem?_toArray, List.getElem?_cons_zero, List.getElem?_cons_succ, gres]
        iterate 8 (refine seqR_hide fun R hR => ?_; simp [go_sem, hn0, hn0b, hn1, hp1, bc hP u0, xindexAt, vload, k1, k1b, k1n, k2, k2b, k2n, g0, q1, q2, q3, q4, q5, bc hP u2, xslice]; refine hR _ _ _ ?_; clear hR R)
        rw [seqR_nil]
        refine hK _ _ _ ?_; clear hK K
        refine hN8 _ _ _ ?_
        simp [go_sem, hn0, hn0b, hn1, hp1, bc hP u0, xindexAt, vload, k1, k1b, k1n, k2, k2b, k2n, g0, q1, q2, q3, q4, q5, bc hP u2, xslice]
        unfold HcR
        rw [hc2]
        exact ⟨⟨_, rfl, fun B hB => (hB2 B hB).tail⟩, rfl⟩
    have q3 : (1 : Int) ≤ (r.length : Int) + 1 := by omega
    have q5 : r.length + 1 ≤ cap := hcap
    by_cases k3 : c = 92
    · subst k3
      refine xc_iftrue (by simp [go_sem, hn0, hn0b, hn1, hp1, bc hP u0, xindexAt, vload, k1, k1b, k1n, k2, k2b, k2n, q3, q5, xslice]) ?_
      refine xc_reg1 3 rfl fun K hK => ?_
      simp only [show (List.range 3).map (·, true) = [(0, true), (1, true), (2, true)] from rfl, rslv_cons, rslv_nil, List.getElem?_toArray, List.getElem?_cons_zero, List.getElem?_cons_succ, gres]
      iterate 3 (refine seqX_hide2 fun R hR => ?_; simp [go_sem, hn0, hn0b, hn1, hp1, bc hP u0, xindexAt, vload, k1, k1b, k1n, k2, k2b, k2n, q3, q5, xslice]; refine hR _ _ _ ?_; clear hR R)
      rw [seqX_nil]
      refine hK _ _ _ ?_; clear hK K
      exact tl (.slice (if cap = 1 then some ⟨b, o, none⟩ else some ⟨b, o + 1, none⟩) r.length (cap - 1)) (r) _ hP (by simp [go_sem, hn0, hn0b, hn1, hp1, bc hP u0, xindexAt, vload, k1, k1b, k1n, k2, k2b, k2n, q3, q5, xslice]) (hRn.tail) (fun B hB => hB.tail) (chr1_esc) (by omega)
    have k3b : ((c : Int) == 92) = false := beq_eq_false_iff_ne.2 (by omega)
    have k3n : ¬ (c : Int) = 92 := by omega
    refine xc_iffalse (by simp [go_sem, hn0, hn0b, hn1, hp1, bc hP u0, xindexAt, vload, k1, k1b, k1n, k2, k2b, k2n, k3, k3b, k3n]) ?_
    exact tl (.slice (some ⟨b, o, none⟩) (r.length + 1) cap) (c :: r) _ hP (by simp [go_sem, hn0, hn0b, hn1, hp1, bc hP u0, xindexAt, vload, k1, k1b, k1n, k2, k2b, k2n, k3, k3b, k3n]) (hRn) (fun B hB => hB) (chr1_lit k1 k2 k3) (hl)
end Go.Proofs.YthjbgpmcfcijgaaDoorV

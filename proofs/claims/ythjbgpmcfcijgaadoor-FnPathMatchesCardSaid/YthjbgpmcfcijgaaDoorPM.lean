/- Shell patterns: the reference's takes. -/
import Derived.Test.YthjbgpmcfcijgaaDoorPL
namespace Go.Proofs.YthjbgpmcfcijgaaDoorV
open Go.RowKit
open Pm (nb nb_len nb_get nb_drop nb_nil nb_cons nb_extract extract_size' It takes chr1)
set_option linter.unusedSimpArgs false
set_option linter.unusedVariables false
theorem inR_take {r : Nat} {rs : List (Nat × Nat)} {i : Nat} (h : i < rs.length) : inR r (rs.take (i + 1)) = (inR r (rs.take i) || (decide (rs[i].1 ≤ r) && decide (r ≤ rs[i].2))) := by
  rw [List.take_succ_eq_append_getElem h]
  obtain ⟨lo, hi⟩ := rs[i]
  exact inR_push _ _ _ _
set_option maxRecDepth 20000 in
set_option maxHeartbeats 4000000 in
theorem takes20 (A : View) (x : It) (c : Array Value) (r : Nat) (h : IsIt A x c) (hx : x ≠ .star) (hl : ∀ n rs, x = .cls n rs → rs.length ≤ 1000000) : VCalls Tryd.prog 20 #[.agg c, .int .i32 r] A fun v A' => v = .bool (takes x r) ∧ A ≤ A' := by
  cases x with
  | star => exact absurd rfl hx
  | any =>
    obtain rfl : c = _ := h
    refine xcalls Tryd.func20 rfl (by simp [Tryd.ntmps20]) ?_
    simp only [Tryd.f20]
    have hP : Priv A (addrs []) := Priv.nil A
    show xc _ _ _ _ _ _ (ov A [])
    by_cases k : r = 47
    · subst k
      refine xc_two fun N1 hN1 => ?_
      refine xc_reg1 2 rfl fun K hK => ?_
      simp only [show (List.range 2).map (·, true) = [(0, true), (1, true)] from rfl, rslv_cons, rslv_nil, List.getElem?_toArray, List.getElem?_cons_zero, List.getElem?_cons_succ, gres]
      refine seqX_hide2 fun R hR => ?_
      simp [go_sem]
      intro q2 hq2
      replace hP := hP.cons hq2
      clear hq2
      refine hR _ _ _ ?_; clear hR R
      (refine seqX_hide2 fun R hR => ?_; simp [go_sem]; refine hR _ _ _ ?_; clear hR R)
      rw [seqX_nil]
      refine hK _ _ _ ?_; clear hK K
      refine hN1 _ _ _ ?_
      refine xc_two fun N2 hN2 => ?_
      refine xc_two fun N3 hN3 => ?_
      refine xc_reg1 2 rfl fun K hK => ?_
      simp only [show (List.range 2).map (·, true) = [(0, true), (1, true)] from rfl, rslv_cons, rslv_nil, List.getElem?_toArray, List.getElem?_cons_zero, List.getElem?_cons_succ, gres]
      iterate 2 (refine seqX_hide2 fun R hR => ?_; simp [go_sem]; refine hR _ _ _ ?_; clear hR R)
      rw [seqX_nil]
      refine hK _ _ _ ?_; clear hK K
      refine hN3 _ _ _ ?_
      rw [xc_block]
      refine xc_two fun N4 hN4 => ?_
      refine xc_reg1 2 rfl fun K hK => ?_
      simp only [show (List.range 2).map (·, true) = [(0, true), (1, true)] from rfl, rslv_cons, rslv_nil, List.getElem?_toArray, List.getElem?_cons_zero, List.getElem?_cons_succ, gres]
      iterate 2 (refine seqX_hide2 fun R hR => ?_; simp [go_sem]; refine hR _ _ _ ?_; clear hR R)
      rw [seqX_nil]
      refine hK _ _ _ ?_; clear hK K
      refine hN4 _ _ _ ?_
      refine xc_iftrue (by simp [go_sem]) ?_
      refine xc_two fun N5 hN5 => ?_
      refine xc_reg1 3 rfl fun K hK => ?_
      simp only [show (List.range 3).map (·, true) = [(0, true), (1, true), (2, true)] from rfl, rslv_cons, rslv_nil, List.getElem?_toArray, List.getElem?_cons_zero, List.getElem?_cons_succ, gres]
      iterate 3 (refine seqX_hide2 fun R hR => ?_; simp [go_sem]; refine hR _ _ _ ?_; clear hR R)
      rw [seqX_nil]
      refine hK _ _ _ ?_; clear hK K
      refine hN5 _ _ _ ?_
      simp [go_sem]
      rw [show takes .any 47 = false from rfl]
      refine ⟨by decide, ?_⟩
      exact le_ov hP
    · have hb : ((r : Int) == 47) = false := beq_eq_false_iff_ne.2 (by omega)
      have ht : takes .any r = true := by show (r != 47) = true; simp [k]
      refine xc_two fun N1 hN1 => ?_
      refine xc_reg1 2 rfl fun K hK => ?_
      simp only [show (List.range 2).map (·, true) = [(0, true), (1, true)] from rfl, rslv_cons, rslv_nil, List.getElem?_toArray, List.getElem?_cons_zero, List.getElem?_cons_succ, gres]
      refine seqX_hide2 fun R hR => ?_
      simp [go_sem, hb]
      intro q2 hq2
      replace hP := hP.cons hq2
      clear hq2
      refine hR _ _ _ ?_; clear hR R
      (refine seqX_hide2 fun R hR => ?_; simp [go_sem, hb]; refine hR _ _ _ ?_; clear hR R)
      rw [seqX_nil]
      refine hK _ _ _ ?_; clear hK K
      refine hN1 _ _ _ ?_
      refine xc_two fun N2 hN2 => ?_
      refine xc_two fun N3 hN3 => ?_
      refine xc_reg1 2 rfl fun K hK => ?_
      simp only [show (List.range 2).map (·, true) = [(0, true), (1, true)] from rfl, rslv_cons, rslv_nil, List.getElem?_toArray, List.getElem?_cons_zero, List.getElem?_cons_succ, gres]
      iterate 2 (refine seqX_hide2 fun R hR => ?_; simp [go_sem, hb]; refine hR _ _ _ ?_; clear hR R)
      rw [seqX_nil]
      refine hK _ _ _ ?_; clear hK K
      refine hN3 _ _ _ ?_
      rw [xc_block]
      refine xc_two fun N4 hN4 => ?_
      refine xc_reg1 2 rfl fun K hK => ?_
      simp only [show (List.range 2).map (·, true) = [(0, true), (1, true)] from rfl, rslv_cons, rslv_nil, List.getElem?_toArray, List.getElem?_cons_zero, List.getElem?_cons_succ, gres]
      iterate 2 (refine seqX_hide2 fun R hR => ?_; simp [go_sem, hb]; refine hR _ _ _ ?_; clear hR R)
      rw [seqX_nil]
      refine hK _ _ _ ?_; clear hK K
      refine hN4 _ _ _ ?_
      refine xc_iftrue (by simp [go_sem, hb]) ?_
      refine xc_two fun N5 hN5 => ?_
      refine xc_reg1 3 rfl fun K hK => ?_
      simp only [show (List.range 3).map (·, true) = [(0, true), (1, true), (2, true)] from rfl, rslv_cons, rslv_nil, List.getElem?_toArray, List.getElem?_cons_zero, List.getElem?_cons_succ, gres]
      iterate 3 (refine seqX_hide2 fun R hR => ?_; simp [go_sem, hb]; refine hR _ _ _ ?_; clear hR R)
      rw [seqX_nil]
      refine hK _ _ _ ?_; clear hK K
      refine hN5 _ _ _ ?_
      simp [go_sem, hb]
      rw [ht]
      refine ⟨by rw [bne_iff_ne]; omega, ?_⟩
      exact le_ov hP
  | chr k =>
    obtain rfl : c = _ := h
    refine xcalls Tryd.func20 rfl (by simp [Tryd.ntmps20]) ?_
    simp only [Tryd.f20]
    have hP : Priv A (addrs []) := Priv.nil A
    show xc _ _ _ _ _ _ (ov A [])
    have ht : takes (.chr k) r = (r == k) := rfl
    by_cases hk : r = k
    · subst hk
      refine xc_two fun N1 hN1 => ?_
      refine xc_reg1 2 rfl fun K hK => ?_
      simp only [show (List.range 2).map (·, true) = [(0, true), (1, true)] from rfl, rslv_cons, rslv_nil, List.getElem?_toArray, List.getElem?_cons_zero, List.getElem?_cons_succ, gres]
      refine seqX_hide2 fun R hR => ?_
      simp [go_sem]
      intro q2 hq2
      replace hP := hP.cons hq2
      clear hq2
      refine hR _ _ _ ?_; clear hR R
      (refine seqX_hide2 fun R hR => ?_; simp [go_sem]; refine hR _ _ _ ?_; clear hR R)
      rw [seqX_nil]
      refine hK _ _ _ ?_; clear hK K
      refine hN1 _ _ _ ?_
      refine xc_two fun N2 hN2 => ?_
      refine xc_two fun N3 hN3 => ?_
      refine xc_reg1 2 rfl fun K hK => ?_
      simp only [show (List.range 2).map (·, true) = [(0, true), (1, true)] from rfl, rslv_cons, rslv_nil, List.getElem?_toArray, List.getElem?_cons_zero, List.getElem?_cons_succ, gres]
      iterate 2 (refine seqX_hide2 fun R hR => ?_; simp [go_sem]; refine hR _ _ _ ?_; clear hR R)
      rw [seqX_nil]
      refine hK _ _ _ ?_; clear hK K
      refine hN3 _ _ _ ?_
      rw [xc_block]
      refine xc_two fun N4 hN4 => ?_
      refine xc_reg1 2 rfl fun K hK => ?_
      simp only [show (List.range 2).map (·, true) = [(0, true), (1, true)] from rfl, rslv_cons, rslv_nil, List.getElem?_toArray, List.getElem?_cons_zero, List.getElem?_cons_succ, gres]
      iterate 2 (refine seqX_hide2 fun R hR => ?_; simp [go_sem]; refine hR _ _ _ ?_; clear hR R)
      rw [seqX_nil]
      refine hK _ _ _ ?_; clear hK K
      refine hN4 _ _ _ ?_
      refine xc_iffalse (by simp [go_sem]) ?_
      refine xc_two fun N5 hN5 => ?_
      refine xc_reg1 2 rfl fun K hK => ?_
      simp only [show (List.range 2).map (·, true) = [(0, true), (1, true)] from rfl, rslv_cons, rslv_nil, List.getElem?_toArray, List.getElem?_cons_zero, List.getElem?_cons_succ, gres]
      iterate 2 (refine seqX_hide2 fun R hR => ?_; simp [go_sem]; refine hR _ _ _ ?_; clear hR R)
      rw [seqX_nil]
      refine hK _ _ _ ?_; clear hK K
      refine hN5 _ _ _ ?_
      refine xc_iftrue (by simp [go_sem]) ?_
      refine xc_two fun N6 hN6 => ?_
      refine xc_reg1 5 rfl fun K hK => ?_
      simp only [show (List.range 5).map (·, true) = [(0, true), (1, true), (2, true), (3, true), (4, true)] from rfl, rslv_cons, rslv_nil, List.getElem?_toArray, List.getElem?_cons_zero, List.getElem?_cons_succ, gres]
      iterate 5 (refine seqX_hide2 fun R hR => ?_; simp [go_sem]; refine hR _ _ _ ?_; clear hR R)
      rw [seqX_nil]
      refine hK _ _ _ ?_; clear hK K
      refine hN6 _ _ _ ?_
      simp [go_sem]
      rw [ht]
      refine ⟨by simp, ?_⟩
      exact le_ov hP
    · have hb : ((r : Int) == (k : Int)) = false := beq_eq_false_iff_ne.2 (by omega)
      have hb2 : (r == k) = false := beq_eq_false_iff_ne.2 hk
      refine xc_two fun N1 hN1 => ?_
      refine xc_reg1 2 rfl fun K hK => ?_
      simp only [show (List.range 2).map (·, true) = [(0, true), (1, true)] from rfl, rslv_cons, rslv_nil, List.getElem?_toArray, List.getElem?_cons_zero, List.getElem?_cons_succ, gres]
      refine seqX_hide2 fun R hR => ?_
      simp [go_sem, hb]
      intro q2 hq2
      replace hP := hP.cons hq2
      clear hq2
      refine hR _ _ _ ?_; clear hR R
      (refine seqX_hide2 fun R hR => ?_; simp [go_sem, hb]; refine hR _ _ _ ?_; clear hR R)
      rw [seqX_nil]
      refine hK _ _ _ ?_; clear hK K
      refine hN1 _ _ _ ?_
      refine xc_two fun N2 hN2 => ?_
      refine xc_two fun N3 hN3 => ?_
      refine xc_reg1 2 rfl fun K hK => ?_
      simp only [show (List.range 2).map (·, true) = [(0, true), (1, true)] from rfl, rslv_cons, rslv_nil, List.getElem?_toArray, List.getElem?_cons_zero, List.getElem?_cons_succ, gres]
      iterate 2 (refine seqX_hide2 fun R hR => ?_; simp [go_sem, hb]; refine hR _ _ _ ?_; clear hR R)
      rw [seqX_nil]
      refine hK _ _ _ ?_; clear hK K
      refine hN3 _ _ _ ?_
      rw [xc_block]
      refine xc_two fun N4 hN4 => ?_
      refine xc_reg1 2 rfl fun K hK => ?_
      simp only [show (List.range 2).map (·, true) = [(0, true), (1, true)] from rfl, rslv_cons, rslv_nil, List.getElem?_toArray, List.getElem?_cons_zero, List.getElem?_cons_succ, gres]
      iterate 2 (refine seqX_hide2 fun R hR => ?_; simp [go_sem, hb]; refine hR _ _ _ ?_; clear hR R)
      rw [seqX_nil]
      refine hK _ _ _ ?_; clear hK K
      refine hN4 _ _ _ ?_
      refine xc_iffalse (by simp [go_sem, hb]) ?_
      refine xc_two fun N5 hN5 => ?_
      refine xc_reg1 2 rfl fun K hK => ?_
      simp only [show (List.range 2).map (·, true) = [(0, true), (1, true)] from rfl, rslv_cons, rslv_nil, List.getElem?_toArray, List.getElem?_cons_zero, List.getElem?_cons_succ, gres]
      iterate 2 (refine seqX_hide2 fun R hR => ?_; simp [go_sem, hb]; refine hR _ _ _ ?_; clear hR R)
      rw [seqX_nil]
      refine hK _ _ _ ?_; clear hK K
      refine hN5 _ _ _ ?_
      refine xc_iftrue (by simp [go_sem, hb]) ?_
      refine xc_two fun N6 hN6 => ?_
      refine xc_reg1 5 rfl fun K hK => ?_
      simp only [show (List.range 5).map (·, true) = [(0, true), (1, true), (2, true), (3, true), (4, true)] from rfl, rslv_cons, rslv_nil, List.getElem?_toArray, List.getElem?_cons_zero, List.getElem?_cons_succ, gres]
      iterate 5 (refine seqX_hide2 fun R hR => ?_; simp [go_sem, hb]; refine hR _ _ _ ?_; clear hR R)
      rw [seqX_nil]
      refine hK _ _ _ ?_; clear hK K
      refine hN6 _ _ _ ?_
      simp [go_sem, hb]
      rw [ht, hb2]
      refine ⟨rfl, ?_⟩
      exact le_ov hP
  | cls n rs =>
    obtain ⟨rv, rfl, hr⟩ := h
    have hl := hl n rs rfl
    obtain ⟨bs, cp, rfl, hel⟩ := hr
    refine xcalls Tryd.func20 rfl (by simp [Tryd.ntmps20]) ?_
    simp only [Tryd.f20]
    have hP : Priv A (addrs []) := Priv.nil A
    show xc _ _ _ _ _ _ (ov A [])
    refine xc_two fun N1 hN1 => ?_
    refine xc_reg1 2 rfl fun K hK => ?_
    simp only [show (List.range 2).map (·, true) = [(0, true), (1, true)] from rfl, rslv_cons, rslv_nil, List.getElem?_toArray, List.getElem?_cons_zero, List.getElem?_cons_succ, gres]
    refine seqX_hide2 fun R hR => ?_
    simp [go_sem]
    intro q2 hq2
    replace hP := hP.cons hq2
    clear hq2
    refine hR _ _ _ ?_; clear hR R
    (refine seqX_hide2 fun R hR => ?_; simp [go_sem]; refine hR _ _ _ ?_; clear hR R)
    rw [seqX_nil]
    refine hK _ _ _ ?_; clear hK K
    refine hN1 _ _ _ ?_
    refine xc_two fun N2 hN2 => ?_
    refine xc_two fun N3 hN3 => ?_
    refine xc_reg1 2 rfl fun K hK => ?_
    simp only [show (List.range 2).map (·, true) = [(0, true), (1, true)] from rfl, rslv_cons, rslv_nil, List.getElem?_toArray, List.getElem?_cons_zero, List.getElem?_cons_succ, gres]
    iterate 2 (refine seqX_hide2 fun R hR => ?_; simp [go_sem]; refine hR _ _ _ ?_; clear hR R)
    rw [seqX_nil]
    refine hK _ _ _ ?_; clear hK K
    refine hN3 _ _ _ ?_
    rw [xc_block]
    refine xc_two fun N4 hN4 => ?_
    refine xc_reg1 2 rfl fun K hK => ?_
    simp only [show (List.range 2).map (·, true) = [(0, true), (1, true)] from rfl, rslv_cons, rslv_nil, List.getElem?_toArray, List.getElem?_cons_zero, List.getElem?_cons_succ, gres]
    iterate 2 (refine seqX_hide2 fun R hR => ?_; simp [go_sem]; refine hR _ _ _ ?_; clear hR R)
    rw [seqX_nil]
    refine hK _ _ _ ?_; clear hK K
    refine hN4 _ _ _ ?_
    refine xc_iffalse (by simp [go_sem]) ?_
    refine xc_two fun N5 hN5 => ?_
    refine xc_reg1 2 rfl fun K hK => ?_
    simp only [show (List.range 2).map (·, true) = [(0, true), (1, true)] from rfl, rslv_cons, rslv_nil, List.getElem?_toArray, List.getElem?_cons_zero, List.getElem?_cons_succ, gres]
    iterate 2 (refine seqX_hide2 fun R hR => ?_; simp [go_sem]; refine hR _ _ _ ?_; clear hR R)
    rw [seqX_nil]
    refine hK _ _ _ ?_; clear hK K
    refine hN5 _ _ _ ?_
    refine xc_iffalse (by simp [go_sem]) ?_
    refine hN2 _ _ _ ?_
    refine xc_two fun N6 hN6 => ?_
    refine xc_reg1 1 rfl fun K hK => ?_
    simp only [show (List.range 1).map (·, true) = [(0, true)] from rfl, rslv_cons, rslv_nil, List.getElem?_toArray, List.getElem?_cons_zero, List.getElem?_cons_succ, gres]
    (refine seqX_hide2 fun R hR => ?_; simp [go_sem]; refine hR _ _ _ ?_; clear hR R)
    rw [seqX_nil]
    refine hK _ _ _ ?_; clear hK K
    refine hN6 _ _ _ ?_
    refine xc_two fun N7 hN7 => ?_
    refine xc_two fun N8 hN8 => ?_
    refine xc_reg1 4 rfl fun K hK => ?_
    simp only [show (List.range 4).map (·, true) = [(0, true), (1, true), (2, true), (3, true)] from rfl, rslv_cons, rslv_nil, List.getElem?_toArray, List.getElem?_cons_zero, List.getElem?_cons_succ, gres]
    iterate 4 (refine seqX_hide2 fun R hR => ?_; simp [go_sem]; refine hR _ _ _ ?_; clear hR R)
    rw [seqX_nil]
    refine hK _ _ _ ?_; clear hK K
    refine hN8 _ _ _ ?_
    rw [xc_block]
    rw [xc_loop]
    refine vloopK (fun k' e ds A' => ∃ (i : Nat) (m : Bool) (D : View), k' = rs.length - i ∧ ds = [] ∧ A' = ov D [(q2, .cells (itc 91 n (.slice bs rs.length cp) 0) 51 (0, 0))] ∧ Priv D [q2] ∧ e 1 = .int .i32 r ∧ e 2 = .pointer (some ⟨q2, 0, none⟩) ∧ e 5 = .bool m ∧ e 21 = .slice bs rs.length cp ∧ e 22 = .int .i64 rs.length ∧ e 23 = .int .i64 i ∧ (i ≤ rs.length) ∧ (A ≤ D) ∧ (m = inR r (rs.take i))) _ ⟨0, false, A, rfl, rfl, rfl, hP, by simp [go_sem], by simp [go_sem], by simp [go_sem], by simp [go_sem], by simp [go_sem], by simp [go_sem], by omega, View.le_refl _, rfl⟩ ?_
    clear hP
    rintro k' e ds _ ⟨i, m, D, rfl, rfl, rfl, hP, g1, g2, g5, g21, g22, g23, hil, hAD, hm⟩ J1 X1 hJ1 hX1
    refine xc_sound _ ?_
    have hw1 := wrap_nat (i := i) (by omega)
    by_cases hi : i < rs.length
    rotate_left
    · rw [List.take_of_length_le (by omega)] at hm
      have ht : takes (.cls n rs) r = (m != n) := by rw [hm]; rfl
      refine xc_two fun N9 hN9 => ?_
      refine xc_reg1 1 rfl fun K hK => ?_
      simp only [show (List.range 1).map (·, true) = [(0, true)] from rfl, rslv_cons, rslv_nil, List.getElem?_toArray, List.getElem?_cons_zero, List.getElem?_cons_succ, gres]
      (refine seqX_hide2 fun R hR => ?_; simp [go_sem, g1, g2, g5, g21, g22, g23, hi]; refine hR _ _ _ ?_; clear hR R)
      rw [seqX_nil]
      refine hK _ _ _ ?_; clear hK K
      refine hN9 _ _ _ ?_
      refine xc_two fun N10 hN10 => ?_
      refine xc_iffalse (by simp [go_sem, g1, g2, g5, g21, g22, g23, hi]) ?_
      refine hX1 _ _ _ _ ?_
      refine hN7 _ _ _ ?_
      refine xc_two fun N11 hN11 => ?_
      refine xc_reg1 5 rfl fun K hK => ?_
      simp only [show (List.range 5).map (·, true) = [(0, true), (1, true), (2, true), (3, true), (4, true)] from rfl, rslv_cons, rslv_nil, List.getElem?_toArray, List.getElem?_cons_zero, List.getElem?_cons_succ, gres]
      iterate 5 (refine seqX_hide2 fun R hR => ?_; simp [go_sem, g1, g2, g5, g21, g22, g23, hi]; refine hR _ _ _ ?_; clear hR R)
      rw [seqX_nil]
      refine hK _ _ _ ?_; clear hK K
      refine hN11 _ _ _ ?_
      simp [go_sem, g1, g2, g5, g21, g22, g23, hi]
      rw [ht]
      refine ⟨?_, View.le_trans hAD ?_⟩
      · cases m <;> cases n <;> rfl
      · exact le_ov hP
    obtain ⟨a, ci, rfl, u1, hci⟩ := hel i hi
    have hci : ci = _ := hci
    subst hci
    have hin := inR_take (r := r) hi
    have u1 := le_cells hAD _ _ _ u1
    generalize rs[i] = y at u1 hin
    obtain ⟨lo, hi2⟩ := y
    simp only at u1 hin
    rw [← hm] at hin
    cases m with
    | true =>
      refine xc_two fun N9 hN9 => ?_
      refine xc_reg1 1 rfl fun K hK => ?_
      simp only [show (List.range 1).map (·, true) = [(0, true)] from rfl, rslv_cons, rslv_nil, List.getElem?_toArray, List.getElem?_cons_zero, List.getElem?_cons_succ, gres]
      (refine seqX_hide2 fun R hR => ?_; simp [go_sem, g1, g2, g5, g21, g22, g23, hi, hw1, bcs hP u1]; refine hR _ _ _ ?_; clear hR R)
      rw [seqX_nil]
      refine hK _ _ _ ?_; clear hK K
      refine hN9 _ _ _ ?_
      refine xc_two fun N10 hN10 => ?_
      refine xc_iftrue (by simp [go_sem, g1, g2, g5, g21, g22, g23, hi, hw1, bcs hP u1]) ?_
      refine hN10 _ _ _ ?_
      refine xc_two fun N11 hN11 => ?_
      rw [xc_block]
      refine xc_two fun N12 hN12 => ?_
      refine xc_reg1 4 rfl fun K hK => ?_
      simp only [show (List.range 4).map (·, true) = [(0, true), (1, true), (2, true), (3, true)] from rfl, rslv_cons, rslv_nil, List.getElem?_toArray, List.getElem?_cons_zero, List.getElem?_cons_succ, gres]
      iterate 2 (refine seqX_hide2 fun R hR => ?_; simp [go_sem, g1, g2, g5, g21, g22, g23, hi, hw1, bcs hP u1]; refine hR _ _ _ ?_; clear hR R)
      refine seqX_hide2 fun R hR => ?_
      simp [go_sem, g1, g2, g5, g21, g22, g23, hi, hw1, bcs hP u1]
      intro q7 hq7
      replace hP := hP.cons hq7
      clear hq7
      have d72 : q7 ≠ q2 := (hP.ne q2 (by simp [addrs])).1
      have d27 : q2 ≠ q7 := (hP.ne q2 (by simp [addrs])).2
      refine hR _ _ _ ?_; clear hR R
      refine seqX_hide2 fun R hR => ?_
      simp [go_sem, g1, g2, g5, g21, g22, g23, hi, hw1, bcs hP u1, d72, d27]
      refine hR _ _ _ ?_; clear hR R
      rw [seqX_nil]
      refine hK _ _ _ ?_; clear hK K
      refine hN12 _ _ _ ?_
      refine xc_reg1 14 rfl fun K hK => ?_
      simp only [show (List.range 14).map (·, true) = [(0, true), (1, true), (2, true), (3, true), (4, true), (5, true), (6, true), (7, true), (8, true), (9, true), (10, true), (11, true), (12, true), (13, true)] from rfl, rslv_cons, rslv_nil, List.getElem?_toArray, List.getElem?_cons_zero, List.getElem?_cons_succ, gres]
      iterate 14 (refine seqX_hide2 fun R hR => ?_; simp [go_sem, g1, g2, g5, g21, g22, g23, hi, hw1, bcs hP u1, d72, d27]; refine hR _ _ _ ?_; clear hR R)
      rw [seqX_nil]
      refine hK _ _ _ ?_; clear hK K
      refine hN11 _ _ _ ?_
      refine xc_reg1 2 rfl fun K hK => ?_
      simp only [show (List.range 2).map (·, true) = [(0, true), (1, true)] from rfl, rslv_cons, rslv_nil, List.getElem?_toArray, List.getElem?_cons_zero, List.getElem?_cons_succ, gres]
      iterate 2 (refine seqX_hide2 fun R hR => ?_; simp [go_sem, g1, g2, g5, g21, g22, g23, hi, hw1, bcs hP u1, d72, d27]; refine hR _ _ _ ?_; clear hR R)
      rw [seqX_nil]
      refine hK _ _ _ ?_; clear hK K
      refine sink_goal 0 hP rfl fun hPn lq7 nq7 => ?_
      clear hP; have hP := hPn; clear hPn
      simp only [List.eraseIdx_cons_zero, List.eraseIdx_cons_succ, addrs_cons, addrs_nil] at hP ⊢
      refine hJ1 (rs.length - (i + 1)) _ _ _ (by omega) ⟨i + 1, true, _, rfl, rfl, rfl, hP, by simp [go_sem, g1, g2, g5, g21, g22, g23, hi, hw1, d72, d27], by simp [go_sem, g1, g2, g5, g21, g22, g23, hi, hw1, d72, d27], by simp [go_sem, g1, g2, g5, g21, g22, g23, hi, hw1, d72, d27], by simp [go_sem, g1, g2, g5, g21, g22, g23, hi, hw1, d72, d27], by simp [go_sem, g1, g2, g5, g21, g22, g23, hi, hw1, d72, d27], by simp [go_sem, g1, g2, g5, g21, g22, g23, hi, hw1, d72, d27], by omega, View.le_trans hAD lq7, by rw [hin]; rfl⟩
    | false =>
      by_cases h1 : lo ≤ r
      · have h1i : (lo : Int) ≤ r := by omega
        by_cases h2 : r ≤ hi2
        · have h2i : (r : Int) ≤ hi2 := by omega
          refine xc_two fun N9 hN9 => ?_
          refine xc_reg1 1 rfl fun K hK => ?_
          simp only [show (List.range 1).map (·, true) = [(0, true)] from rfl, rslv_cons, rslv_nil, List.getElem?_toArray, List.getElem?_cons_zero, List.getElem?_cons_succ, gres]
          (refine seqX_hide2 fun R hR => ?_; simp [go_sem, g1, g2, g5, g21, g22, g23, hi, hw1, bcs hP u1, h1, h1i, h2, h2i]; refine hR _ _ _ ?_; clear hR R)
          rw [seqX_nil]
          refine hK _ _ _ ?_; clear hK K
          refine hN9 _ _ _ ?_
          refine xc_two fun N10 hN10 => ?_
          refine xc_iftrue (by simp [go_sem, g1, g2, g5, g21, g22, g23, hi, hw1, bcs hP u1, h1, h1i, h2, h2i]) ?_
          refine hN10 _ _ _ ?_
          refine xc_two fun N11 hN11 => ?_
          rw [xc_block]
          refine xc_two fun N12 hN12 => ?_
          refine xc_reg1 4 rfl fun K hK => ?_
          simp only [show (List.range 4).map (·, true) = [(0, true), (1, true), (2, true), (3, true)] from rfl, rslv_cons, rslv_nil, List.getElem?_toArray, List.getElem?_cons_zero, List.getElem?_cons_succ, gres]
          iterate 2 (refine seqX_hide2 fun R hR => ?_; simp [go_sem, g1, g2, g5, g21, g22, g23, hi, hw1, bcs hP u1, h1, h1i, h2, h2i]; refine hR _ _ _ ?_; clear hR R)
          refine seqX_hide2 fun R hR => ?_
          simp [go_sem, g1, g2, g5, g21, g22, g23, hi, hw1, bcs hP u1, h1, h1i, h2, h2i]
          intro q7 hq7
          replace hP := hP.cons hq7
          clear hq7
          have d72 : q7 ≠ q2 := (hP.ne q2 (by simp [addrs])).1
          have d27 : q2 ≠ q7 := (hP.ne q2 (by simp [addrs])).2
          refine hR _ _ _ ?_; clear hR R
          refine seqX_hide2 fun R hR => ?_
          simp [go_sem, g1, g2, g5, g21, g22, g23, hi, hw1, bcs hP u1, h1, h1i, h2, h2i, d72, d27]
          refine hR _ _ _ ?_; clear hR R
          rw [seqX_nil]
          refine hK _ _ _ ?_; clear hK K
          refine hN12 _ _ _ ?_
          refine xc_reg1 14 rfl fun K hK => ?_
          simp only [show (List.range 14).map (·, true) = [(0, true), (1, true), (2, true), (3, true), (4, true), (5, true), (6, true), (7, true), (8, true), (9, true), (10, true), (11, true), (12, true), (13, true)] from rfl, rslv_cons, rslv_nil, List.getElem?_toArray, List.getElem?_cons_zero, List.getElem?_cons_succ, gres]
          iterate 14 (refine seqX_hide2 fun R hR => ?_; simp [go_sem, g1, g2, g5, g21, g22, g23, hi, hw1, bcs hP u1, h1, h1i, h2, h2i, d72, d27]; refine hR _ _ _ ?_; clear hR R)
          rw [seqX_nil]
          refine hK _ _ _ ?_; clear hK K
          refine hN11 _ _ _ ?_
          refine xc_reg1 2 rfl fun K hK => ?_
          simp only [show (List.range 2).map (·, true) = [(0, true), (1, true)] from rfl, rslv_cons, rslv_nil, List.getElem?_toArray, List.getElem?_cons_zero, List.getElem?_cons_succ, gres]
          iterate 2 (refine seqX_hide2 fun R hR => ?_; simp [go_sem, g1, g2, g5, g21, g22, g23, hi, hw1, bcs hP u1, h1, h1i, h2, h2i, d72, d27]; refine hR _ _ _ ?_; clear hR R)
          rw [seqX_nil]
          refine hK _ _ _ ?_; clear hK K
          refine sink_goal 0 hP rfl fun hPn lq7 nq7 => ?_
          clear hP; have hP := hPn; clear hPn
          simp only [List.eraseIdx_cons_zero, List.eraseIdx_cons_succ, addrs_cons, addrs_nil] at hP ⊢
          refine hJ1 (rs.length - (i + 1)) _ _ _ (by omega) ⟨i + 1, true, _, rfl, rfl, rfl, hP, by simp [go_sem, g1, g2, g5, g21, g22, g23, hi, hw1, h1, h1i, h2, h2i, d72, d27], by simp [go_sem, g1, g2, g5, g21, g22, g23, hi, hw1, h1, h1i, h2, h2i, d72, d27], by simp [go_sem, g1, g2, g5, g21, g22, g23, hi, hw1, h1, h1i, h2, h2i, d72, d27], by simp [go_sem, g1, g2, g5, g21, g22, g23, hi, hw1, h1, h1i, h2, h2i, d72, d27], by simp [go_sem, g1, g2, g5, g21, g22, g23, hi, hw1, h1, h1i, h2, h2i, d72, d27], by simp [go_sem, g1, g2, g5, g21, g22, g23, hi, hw1, h1, h1i, h2, h2i, d72, d27], by omega, View.le_trans hAD lq7, by rw [hin]; simp [h1, h2]⟩
        · have h2i : ¬ (r : Int) ≤ hi2 := by omega
          refine xc_two fun N9 hN9 => ?_
          refine xc_reg1 1 rfl fun K hK => ?_
          simp only [show (List.range 1).map (·, true) = [(0, true)] from rfl, rslv_cons, rslv_nil, List.getElem?_toArray, List.getElem?_cons_zero, List.getElem?_cons_succ, gres]
          (refine seqX_hide2 fun R hR => ?_; simp [go_sem, g1, g2, g5, g21, g22, g23, hi, hw1, bcs hP u1, h1, h1i, h2, h2i]; refine hR _ _ _ ?_; clear hR R)
          rw [seqX_nil]
          refine hK _ _ _ ?_; clear hK K
          refine hN9 _ _ _ ?_
          refine xc_two fun N10 hN10 => ?_
          refine xc_iftrue (by simp [go_sem, g1, g2, g5, g21, g22, g23, hi, hw1, bcs hP u1, h1, h1i, h2, h2i]) ?_
          refine hN10 _ _ _ ?_
          refine xc_two fun N11 hN11 => ?_
          rw [xc_block]
          refine xc_two fun N12 hN12 => ?_
          refine xc_reg1 4 rfl fun K hK => ?_
          simp only [show (List.range 4).map (·, true) = [(0, true), (1, true), (2, true), (3, true)] from rfl, rslv_cons, rslv_nil, List.getElem?_toArray, List.getElem?_cons_zero, List.getElem?_cons_succ, gres]
          iterate 2 (refine seqX_hide2 fun R hR => ?_; simp [go_sem, g1, g2, g5, g21, g22, g23, hi, hw1, bcs hP u1, h1, h1i, h2, h2i]; refine hR _ _ _ ?_; clear hR R)
          refine seqX_hide2 fun R hR => ?_
          simp [go_sem, g1, g2, g5, g21, g22, g23, hi, hw1, bcs hP u1, h1, h1i, h2, h2i]
          intro q7 hq7
          replace hP := hP.cons hq7
          clear hq7
          have d72 : q7 ≠ q2 := (hP.ne q2 (by simp [addrs])).1
          have d27 : q2 ≠ q7 := (hP.ne q2 (by simp [addrs])).2
          refine hR _ _ _ ?_; clear hR R
          refine seqX_hide2 fun R hR => ?_
          simp [go_sem, g1, g2, g5, g21, g22, g23, hi, hw1, bcs hP u1, h1, h1i, h2, h2i, d72, d27]
          refine hR _ _ _ ?_; clear hR R
          rw [seqX_nil]
          refine hK _ _ _ ?_; clear hK K
          refine hN12 _ _ _ ?_
          refine xc_reg1 14 rfl fun K hK => ?_
          simp only [show (List.range 14).map (·, true) = [(0, true), (1, true), (2, true), (3, true), (4, true), (5, true), (6, true), (7, true), (8, true), (9, true), (10, true), (11, true), (12, true), (13, true)] from rfl, rslv_cons, rslv_nil, List.getElem?_toArray, List.getElem?_cons_zero, List.getElem?_cons_succ, gres]
          iterate 14 (refine seqX_hide2 fun R hR => ?_; simp [go_sem, g1, g2, g5, g21, g22, g23, hi, hw1, bcs hP u1, h1, h1i, h2, h2i, d72, d27]; refine hR _ _ _ ?_; clear hR R)
          rw [seqX_nil]
          refine hK _ _ _ ?_; clear hK K
          refine hN11 _ _ _ ?_
          refine xc_reg1 2 rfl fun K hK => ?_
          simp only [show (List.range 2).map (·, true) = [(0, true), (1, true)] from rfl, rslv_cons, rslv_nil, List.getElem?_toArray, List.getElem?_cons_zero, List.getElem?_cons_succ, gres]
          iterate 2 (refine seqX_hide2 fun R hR => ?_; simp [go_sem, g1, g2, g5, g21, g22, g23, hi, hw1, bcs hP u1, h1, h1i, h2, h2i, d72, d27]; refine hR _ _ _ ?_; clear hR R)
          rw [seqX_nil]
          refine hK _ _ _ ?_; clear hK K
          refine sink_goal 0 hP rfl fun hPn lq7 nq7 => ?_
          clear hP; have hP := hPn; clear hPn
          simp only [List.eraseIdx_cons_zero, List.eraseIdx_cons_succ, addrs_cons, addrs_nil] at hP ⊢
          refine hJ1 (rs.length - (i + 1)) _ _ _ (by omega) ⟨i + 1, false, _, rfl, rfl, rfl, hP, by simp [go_sem, g1, g2, g5, g21, g22, g23, hi, hw1, h1, h1i, h2, h2i, d72, d27], by simp [go_sem, g1, g2, g5, g21, g22, g23, hi, hw1, h1, h1i, h2, h2i, d72, d27], by simp [go_sem, g1, g2, g5, g21, g22, g23, hi, hw1, h1, h1i, h2, h2i, d72, d27], by simp [go_sem, g1, g2, g5, g21, g22, g23, hi, hw1, h1, h1i, h2, h2i, d72, d27], by simp [go_sem, g1, g2, g5, g21, g22, g23, hi, hw1, h1, h1i, h2, h2i, d72, d27], by simp [go_sem, g1, g2, g5, g21, g22, g23, hi, hw1, h1, h1i, h2, h2i, d72, d27], by omega, View.le_trans hAD lq7, by rw [hin]; simp [h1, h2]⟩
      · have h1i : ¬ (lo : Int) ≤ r := by omega
        refine xc_two fun N9 hN9 => ?_
        refine xc_reg1 1 rfl fun K hK => ?_
        simp only [show (List.range 1).map (·, true) = [(0, true)] from rfl, rslv_cons, rslv_nil, List.getElem?_toArray, List.getElem?_cons_zero, List.getElem?_cons_succ, gres]
        (refine seqX_hide2 fun R hR => ?_; simp [go_sem, g1, g2, g5, g21, g22, g23, hi, hw1, bcs hP u1, h1, h1i]; refine hR _ _ _ ?_; clear hR R)
        rw [seqX_nil]
        refine hK _ _ _ ?_; clear hK K
        refine hN9 _ _ _ ?_
        refine xc_two fun N10 hN10 => ?_
        refine xc_iftrue (by simp [go_sem, g1, g2, g5, g21, g22, g23, hi, hw1, bcs hP u1, h1, h1i]) ?_
        refine hN10 _ _ _ ?_
        refine xc_two fun N11 hN11 => ?_
        rw [xc_block]
        refine xc_two fun N12 hN12 => ?_
        refine xc_reg1 4 rfl fun K hK => ?_
        simp only [show (List.range 4).map (·, true) = [(0, true), (1, true), (2, true), (3, true)] from rfl, rslv_cons, rslv_nil, List.getElem?_toArray, List.getElem?_cons_zero, List.getElem?_cons_succ, gres]
        iterate 2 (refine seqX_hide2 fun R hR => ?_; simp [go_sem, g1, g2, g5, g21, g22, g23, hi, hw1, bcs hP u1, h1, h1i]; refine hR _ _ _ ?_; clear hR R)
        refine seqX_hide2 fun R hR => ?_
        simp [go_sem, g1, g2, g5, g21, g22, g23, hi, hw1, bcs hP u1, h1, h1i]
        intro q7 hq7
        replace hP := hP.cons hq7
        clear hq7
        have d72 : q7 ≠ q2 := (hP.ne q2 (by simp [addrs])).1
        have d27 : q2 ≠ q7 := (hP.ne q2 (by simp [addrs])).2
        refine hR _ _ _ ?_; clear hR R
        refine seqX_hide2 fun R hR => ?_
        simp [go_sem, g1, g2, g5, g21, g22, g23, hi, hw1, bcs hP u1, h1, h1i, d72, d27]
        refine hR _ _ _ ?_; clear hR R
        rw [seqX_nil]
        refine hK _ _ _ ?_; clear hK K
        refine hN12 _ _ _ ?_
        refine xc_reg1 14 rfl fun K hK => ?_
        simp only [show (List.range 14).map (·, true) = [(0, true), (1, true), (2, true), (3, true), (4, true), (5, true), (6, true), (7, true), (8, true), (9, true), (10, true), (11, true), (12, true), (13, true)] from rfl, rslv_cons, rslv_nil, List.getElem?_toArray, List.getElem?_cons_zero, List.getElem?_cons_succ, gres]
        iterate 14 (refine seqX_hide2 fun R hR => ?_; simp [go_sem, g1, g2, g5, g21, g22, g23, hi, hw1, bcs hP u1, h1, h1i, d72, d27]; refine hR _ _ _ ?_; clear hR R)
        rw [seqX_nil]
        refine hK _ _ _ ?_; clear hK K
        refine hN11 _ _ _ ?_
        refine xc_reg1 2 rfl fun K hK => ?_
        simp only [show (List.range 2).map (·, true) = [(0, true), (1, true)] from rfl, rslv_cons, rslv_nil, List.getElem?_toArray, List.getElem?_cons_zero, List.getElem?_cons_succ, gres]
        iterate 2 (refine seqX_hide2 fun R hR => ?_; simp [go_sem, g1, g2, g5, g21, g22, g23, hi, hw1, bcs hP u1, h1, h1i, d72, d27]; refine hR _ _ _ ?_; clear hR R)
        rw [seqX_nil]
        refine hK _ _ _ ?_; clear hK K
        refine sink_goal 0 hP rfl fun hPn lq7 nq7 => ?_
        clear hP; have hP := hPn; clear hPn
        simp only [List.eraseIdx_cons_zero, List.eraseIdx_cons_succ, addrs_cons, addrs_nil] at hP ⊢
        refine hJ1 (rs.length - (i + 1)) _ _ _ (by omega) ⟨i + 1, false, _, rfl, rfl, rfl, hP, by simp [go_sem, g1, g2, g5, g21, g22, g23, hi, hw1, h1, h1i, d72, d27], by simp [go_sem, g1, g2, g5, g21, g22, g23, hi, hw1, h1, h1i, d72, d27], by simp [go_sem, g1, g2, g5, g21, g22, g23, hi, hw1, h1, h1i, d72, d27], by simp [go_sem, g1, g2, g5, g21, g22, g23, hi, hw1, h1, h1i, d72, d27], by simp [go_sem, g1, g2, g5, g21, g22, g23, hi, hw1, h1, h1i, d72, d27], by simp [go_sem, g1, g2, g5, g21, g22, g23, hi, hw1, h1, h1i, d72, d27], by omega, View.le_trans hAD lq7, by rw [hin]; simp [h1]⟩
end Go.Proofs.YthjbgpmcfcijgaaDoorV

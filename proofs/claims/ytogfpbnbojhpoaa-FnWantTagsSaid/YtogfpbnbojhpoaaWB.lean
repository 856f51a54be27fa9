/- Charts: right wants (chWants). -/
import Derived.Test.YtogfpbnbojhpoaaWA
namespace Go.Proofs.YtogfpbnbojhpoaaV
open Go.RowKit
set_option linter.unusedSimpArgs false
set_option linter.unusedVariables false
def IR (i : Imp) : Prop := (i.pair = true → i.name = ⟨#[]⟩) ∧ (i.pair = false → i.child = ⟨#[]⟩ ∧ i.parent = ⟨#[]⟩)
def WR (w : Wt) : Prop := VOK w.ver ∧ w.cond.size ≤ 100 ∧ w.tags.length ≤ 10 ∧ w.imps.length ≤ 10 ∧ w.name.size ≤ 100 ∧ w.alias.size ≤ 100 ∧ ∀ i ∈ w.imps, IR i
theorem emp_eq {s : ByteArray} (h : s.toList.isEmpty = true) : s = ⟨#[]⟩ := by
  apply (Lib.bytes_beq_iff s ⟨#[]⟩).1
  rw [List.isEmpty_iff.1 h]
  kernel_rfl
theorem emp_app {a b : ByteArray} (h : (a ++ b).toList.isEmpty = true) : a = ⟨#[]⟩ ∧ b = ⟨#[]⟩ := by
  have h1 := emp_eq h
  have h2 : (a ++ b).size = 0 := by rw [h1]; rfl
  rw [ByteArray.size_append] at h2
  exact ⟨ByteArray.ext (Array.eq_empty_of_size_eq_zero (show a.data.size = 0 from by have : a.data.size = a.size := rfl; omega)), ByteArray.ext (Array.eq_empty_of_size_eq_zero (show b.data.size = 0 from by have : b.data.size = b.size := rfl; omega))⟩
set_option maxRecDepth 20000 in
set_option maxHeartbeats 8000000 in
theorem wants11 (A : View) (v : Value) (l : List Wt) (h : Wants A v l) (hll : l.length ≤ 2147483647) (hz : ∀ w ∈ l, WZ w) : VCalls Try.prog 11 #[v] A fun r A' => FB (l.length ≤ 20 ∧ ∀ w ∈ l, WR w) r ∧ A ≤ A' := by
  obtain ⟨bs, cp, rfl, hel⟩ := h
  refine xcalls Try.func11 rfl (by simp [Try.ntmps11]) ?_
  simp only [Try.f11]
  have hP : Priv A (addrs []) := Priv.nil A
  show xc _ _ _ _ _ _ (ov A [])
  refine xc_two fun N1 hN1 => ?_
  refine xc_reg1 1 rfl fun K hK => ?_
  simp only [show (List.range 1).map (·, true) = [(0, true)] from rfl, rslv_cons, rslv_nil, List.getElem?_toArray, List.getElem?_cons_zero, List.getElem?_cons_succ, gres]
  (refine seqX_hide2 fun R hR => ?_; simp [go_sem]; refine hR _ _ _ ?_; clear hR R)
  rw [seqX_nil]
  refine hK _ _ _ ?_; clear hK K
  refine hN1 _ _ _ ?_
  refine xc_two fun N2 hN2 => ?_
  refine xc_two fun N3 hN3 => ?_
  refine xc_reg1 3 rfl fun K hK => ?_
  simp only [show (List.range 3).map (·, true) = [(0, true), (1, true), (2, true)] from rfl, rslv_cons, rslv_nil, List.getElem?_toArray, List.getElem?_cons_zero, List.getElem?_cons_succ, gres]
  iterate 3 (refine seqX_hide2 fun R hR => ?_; simp [go_sem]; refine hR _ _ _ ?_; clear hR R)
  rw [seqX_nil]
  refine hK _ _ _ ?_; clear hK K
  refine hN3 _ _ _ ?_
  rw [xc_block]
  rw [xc_loop]
  refine vloopK (fun k' e ds A' => ∃ (j : Nat) (D : View), k' = l.length - j ∧ ds = [] ∧ A' = ov D [] ∧ Priv D [] ∧ e 0 = .slice bs l.length cp ∧ e 7 = .slice bs l.length cp ∧ e 8 = .int .i64 l.length ∧ e 9 = .int .i64 j ∧ (j ≤ l.length) ∧ (A ≤ D) ∧ (∀ w ∈ l.take j, WR w)) _ ⟨0, A, rfl, rfl, rfl, hP, by simp [go_sem], by simp [go_sem], by simp [go_sem], by simp [go_sem], by omega, View.le_refl _, fun w hw => by simp at hw⟩ ?_
  clear hP
  rintro k' e ds A' ⟨j, D, rfl, rfl, hV, hP, g0, g7, g8, g9, hjl, hAD, hq⟩ J1 X1 hJ1 hX1
  refine xc_sound _ ?_
  replace hV := Eq.symm hV; subst hV; replace hP : Priv D (addrs []) := hP
  have hw1 := wrap_nat (i := j) (by omega)
  by_cases hj : j < l.length
  · obtain ⟨a, ci, rfl, u1, hci⟩ := hel j hj
    have hwz := hz _ (List.getElem_mem hj)
    have htk : l.take (j + 1) = l.take j ++ [l[j]] := List.take_succ_eq_append_getElem hj
    generalize l[j] = w at hci hwz htk
    obtain ⟨n, ve, co, al, tags, en, imps⟩ := w
    obtain ⟨tg, im, rfl, ht, hi⟩ := hci
    obtain ⟨b1, c1, rfl⟩ := ht.slice
    obtain ⟨b2, c2, rfl, hel2⟩ := hi
    have u1 := le_cells hAD _ _ _ u1
    refine xc_two fun N4 hN4 => ?_
    refine xc_reg1 1 rfl fun K hK => ?_
    simp only [show (List.range 1).map (·, true) = [(0, true)] from rfl, rslv_cons, rslv_nil, List.getElem?_toArray, List.getElem?_cons_zero, List.getElem?_cons_succ, gres]
    (refine seqX_hide2 fun R hR => ?_; simp [go_sem, g0, g7, g8, g9, hj, hw1, bcs hP u1]; refine hR _ _ _ ?_; clear hR R)
    rw [seqX_nil]
    refine hK _ _ _ ?_; clear hK K
    refine hN4 _ _ _ ?_
    refine xc_two fun N5 hN5 => ?_
    refine xc_iftrue (by simp [go_sem, g0, g7, g8, g9, hj, hw1, bcs hP u1]) ?_
    refine hN5 _ _ _ ?_
    refine xc_two fun N6 hN6 => ?_
    rw [xc_block]
    refine xc_two fun N7 hN7 => ?_
    refine xc_reg1 4 rfl fun K hK => ?_
    simp only [show (List.range 4).map (·, true) = [(0, true), (1, true), (2, true), (3, true)] from rfl, rslv_cons, rslv_nil, List.getElem?_toArray, List.getElem?_cons_zero, List.getElem?_cons_succ, gres]
    iterate 2 (refine seqX_hide2 fun R hR => ?_; simp [go_sem, g0, g7, g8, g9, hj, hw1, bcs hP u1]; refine hR _ _ _ ?_; clear hR R)
    refine seqX_hide2 fun R hR => ?_
    simp [go_sem, g0, g7, g8, g9, hj, hw1, bcs hP u1]
    intro q4 hq4
    replace hP := hP.cons hq4
    clear hq4
    refine hR _ _ _ ?_; clear hR R
    refine seqX_hide2 fun R hR => ?_
    simp [go_sem, g0, g7, g8, g9, hj, hw1, bcs hP u1]
    refine hR _ _ _ ?_; clear hR R
    rw [seqX_nil]
    refine hK _ _ _ ?_; clear hK K
    refine hN7 _ _ _ ?_
    refine xc_two fun N8 hN8 => ?_
    refine xc_two fun N9 hN9 => ?_
    refine xc_reg1 34 rfl fun K hK => ?_
    simp only [show (List.range 34).map (·, true) = [(0, true), (1, true), (2, true), (3, true), (4, true), (5, true), (6, true), (7, true), (8, true), (9, true), (10, true), (11, true), (12, true), (13, true), (14, true), (15, true), (16, true), (17, true), (18, true), (19, true), (20, true), (21, true), (22, true), (23, true), (24, true), (25, true), (26, true), (27, true), (28, true), (29, true), (30, true), (31, true), (32, true), (33, true)] from rfl, rslv_cons, rslv_nil, List.getElem?_toArray, List.getElem?_cons_zero, List.getElem?_cons_succ, gres]
    iterate 2 (refine seqX_hide2 fun R hR => ?_; simp [go_sem, g0, g7, g8, g9, hj, hw1, bcs hP u1]; refine hR _ _ _ ?_; clear hR R)
    refine seqX_hide2 fun R hR => ?_
    simp [go_sem, g0, g7, g8, g9, hj, hw1, bcs hP u1]
    refine call_ov hP (version33 D ve (Nat.le_trans hwz.1 (by decide))) ?_
    clear hP
    rintro _ D1 ⟨⟨q, rfl, hq1⟩, hD1⟩ hP
    have hAD1 := View.le_trans hAD hD1
    cases q with
    | false =>
      refine hR _ _ _ ?_; clear hR R
      iterate 31 (refine seqX_hide2 fun R hR => ?_; simp [go_sem, g0, g7, g8, g9, hj, hw1]; refine hR _ _ _ ?_; clear hR R)
      rw [seqX_nil]
      refine hK _ _ _ ?_; clear hK K
      refine hN9 _ _ _ ?_
      refine xc_iftrue (by simp [go_sem, g0, g7, g8, g9, hj, hw1]) ?_
      refine xc_two fun N10 hN10 => ?_
      refine xc_reg1 1 rfl fun K hK => ?_
      simp only [show (List.range 1).map (·, true) = [(0, true)] from rfl, rslv_cons, rslv_nil, List.getElem?_toArray, List.getElem?_cons_zero, List.getElem?_cons_succ, gres]
      (refine seqX_hide2 fun R hR => ?_; simp [go_sem, g0, g7, g8, g9, hj, hw1]; refine hR _ _ _ ?_; clear hR R)
      rw [seqX_nil]
      refine hK _ _ _ ?_; clear hK K
      refine hN10 _ _ _ ?_
      refine hX1 _ _ _ _ ?_
      simp [go_sem, g0, g7, g8, g9, hj, hw1]
      refine ⟨FB.no _, View.le_trans hAD1 ?_⟩
      exact le_ov hP
    | true =>
    rcases Nat.lt_or_ge 100 co.size with p1 | p1
    · have pi1 : (100 : Int) < (co.size : Int) := by omega
      refine hR _ _ _ ?_; clear hR R
      iterate 31 (refine seqX_hide2 fun R hR => ?_; simp [go_sem, g0, g7, g8, g9, hj, hw1, p1, pi1]; refine hR _ _ _ ?_; clear hR R)
      rw [seqX_nil]
      refine hK _ _ _ ?_; clear hK K
      refine hN9 _ _ _ ?_
      refine xc_iftrue (by simp [go_sem, g0, g7, g8, g9, hj, hw1, p1, pi1]) ?_
      refine xc_two fun N10 hN10 => ?_
      refine xc_reg1 1 rfl fun K hK => ?_
      simp only [show (List.range 1).map (·, true) = [(0, true)] from rfl, rslv_cons, rslv_nil, List.getElem?_toArray, List.getElem?_cons_zero, List.getElem?_cons_succ, gres]
      (refine seqX_hide2 fun R hR => ?_; simp [go_sem, g0, g7, g8, g9, hj, hw1, p1, pi1]; refine hR _ _ _ ?_; clear hR R)
      rw [seqX_nil]
      refine hK _ _ _ ?_; clear hK K
      refine hN10 _ _ _ ?_
      refine hX1 _ _ _ _ ?_
      simp [go_sem, g0, g7, g8, g9, hj, hw1, p1, pi1]
      refine ⟨FB.no _, View.le_trans hAD1 ?_⟩
      exact le_ov hP
    have pi1 : ¬ (100 : Int) < (co.size : Int) := by omega
    have pn1 : ¬ 100 < co.size := by omega
    rcases Nat.lt_or_ge 10 tags.length with p2 | p2
    · have pi2 : (10 : Int) < (tags.length : Int) := by omega
      refine hR _ _ _ ?_; clear hR R
      iterate 31 (refine seqX_hide2 fun R hR => ?_; simp [go_sem, g0, g7, g8, g9, hj, hw1, pi1, pn1, p2, pi2]; refine hR _ _ _ ?_; clear hR R)
      rw [seqX_nil]
      refine hK _ _ _ ?_; clear hK K
      refine hN9 _ _ _ ?_
      refine xc_iftrue (by simp [go_sem, g0, g7, g8, g9, hj, hw1, pi1, pn1, p2, pi2]) ?_
      refine xc_two fun N10 hN10 => ?_
      refine xc_reg1 1 rfl fun K hK => ?_
      simp only [show (List.range 1).map (·, true) = [(0, true)] from rfl, rslv_cons, rslv_nil, List.getElem?_toArray, List.getElem?_cons_zero, List.getElem?_cons_succ, gres]
      (refine seqX_hide2 fun R hR => ?_; simp [go_sem, g0, g7, g8, g9, hj, hw1, pi1, pn1, p2, pi2]; refine hR _ _ _ ?_; clear hR R)
      rw [seqX_nil]
      refine hK _ _ _ ?_; clear hK K
      refine hN10 _ _ _ ?_
      refine hX1 _ _ _ _ ?_
      simp [go_sem, g0, g7, g8, g9, hj, hw1, pi1, pn1, p2, pi2]
      refine ⟨FB.no _, View.le_trans hAD1 ?_⟩
      exact le_ov hP
    have pi2 : ¬ (10 : Int) < (tags.length : Int) := by omega
    have pn2 : ¬ 10 < tags.length := by omega
    rcases Nat.lt_or_ge 10 imps.length with p3 | p3
    · have pi3 : (10 : Int) < (imps.length : Int) := by omega
      refine hR _ _ _ ?_; clear hR R
      iterate 31 (refine seqX_hide2 fun R hR => ?_; simp [go_sem, g0, g7, g8, g9, hj, hw1, pi1, pn1, pi2, pn2, p3, pi3]; refine hR _ _ _ ?_; clear hR R)
      rw [seqX_nil]
      refine hK _ _ _ ?_; clear hK K
      refine hN9 _ _ _ ?_
      refine xc_iftrue (by simp [go_sem, g0, g7, g8, g9, hj, hw1, pi1, pn1, pi2, pn2, p3, pi3]) ?_
      refine xc_two fun N10 hN10 => ?_
      refine xc_reg1 1 rfl fun K hK => ?_
      simp only [show (List.range 1).map (·, true) = [(0, true)] from rfl, rslv_cons, rslv_nil, List.getElem?_toArray, List.getElem?_cons_zero, List.getElem?_cons_succ, gres]
      (refine seqX_hide2 fun R hR => ?_; simp [go_sem, g0, g7, g8, g9, hj, hw1, pi1, pn1, pi2, pn2, p3, pi3]; refine hR _ _ _ ?_; clear hR R)
      rw [seqX_nil]
      refine hK _ _ _ ?_; clear hK K
      refine hN10 _ _ _ ?_
      refine hX1 _ _ _ _ ?_
      simp [go_sem, g0, g7, g8, g9, hj, hw1, pi1, pn1, pi2, pn2, p3, pi3]
      refine ⟨FB.no _, View.le_trans hAD1 ?_⟩
      exact le_ov hP
    have pi3 : ¬ (10 : Int) < (imps.length : Int) := by omega
    have pn3 : ¬ 10 < imps.length := by omega
    rcases Nat.lt_or_ge 100 n.size with p4 | p4
    · have pi4 : (100 : Int) < (n.size : Int) := by omega
      refine hR _ _ _ ?_; clear hR R
      iterate 31 (refine seqX_hide2 fun R hR => ?_; simp [go_sem, g0, g7, g8, g9, hj, hw1, pi1, pn1, pi2, pn2, pi3, pn3, p4, pi4]; refine hR _ _ _ ?_; clear hR R)
      rw [seqX_nil]
      refine hK _ _ _ ?_; clear hK K
      refine hN9 _ _ _ ?_
      refine xc_iftrue (by simp [go_sem, g0, g7, g8, g9, hj, hw1, pi1, pn1, pi2, pn2, pi3, pn3, p4, pi4]) ?_
      refine xc_two fun N10 hN10 => ?_
      refine xc_reg1 1 rfl fun K hK => ?_
      simp only [show (List.range 1).map (·, true) = [(0, true)] from rfl, rslv_cons, rslv_nil, List.getElem?_toArray, List.getElem?_cons_zero, List.getElem?_cons_succ, gres]
      (refine seqX_hide2 fun R hR => ?_; simp [go_sem, g0, g7, g8, g9, hj, hw1, pi1, pn1, pi2, pn2, pi3, pn3, p4, pi4]; refine hR _ _ _ ?_; clear hR R)
      rw [seqX_nil]
      refine hK _ _ _ ?_; clear hK K
      refine hN10 _ _ _ ?_
      refine hX1 _ _ _ _ ?_
      simp [go_sem, g0, g7, g8, g9, hj, hw1, pi1, pn1, pi2, pn2, pi3, pn3, p4, pi4]
      refine ⟨FB.no _, View.le_trans hAD1 ?_⟩
      exact le_ov hP
    have pi4 : ¬ (100 : Int) < (n.size : Int) := by omega
    have pn4 : ¬ 100 < n.size := by omega
    rcases Nat.lt_or_ge 100 al.size with p5 | p5
    · have pi5 : (100 : Int) < (al.size : Int) := by omega
      refine hR _ _ _ ?_; clear hR R
      iterate 31 (refine seqX_hide2 fun R hR => ?_; simp [go_sem, g0, g7, g8, g9, hj, hw1, pi1, pn1, pi2, pn2, pi3, pn3, pi4, pn4, p5, pi5]; refine hR _ _ _ ?_; clear hR R)
      rw [seqX_nil]
      refine hK _ _ _ ?_; clear hK K
      refine hN9 _ _ _ ?_
      refine xc_iftrue (by simp [go_sem, g0, g7, g8, g9, hj, hw1, pi1, pn1, pi2, pn2, pi3, pn3, pi4, pn4, p5, pi5]) ?_
      refine xc_two fun N10 hN10 => ?_
      refine xc_reg1 1 rfl fun K hK => ?_
      simp only [show (List.range 1).map (·, true) = [(0, true)] from rfl, rslv_cons, rslv_nil, List.getElem?_toArray, List.getElem?_cons_zero, List.getElem?_cons_succ, gres]
      (refine seqX_hide2 fun R hR => ?_; simp [go_sem, g0, g7, g8, g9, hj, hw1, pi1, pn1, pi2, pn2, pi3, pn3, pi4, pn4, p5, pi5]; refine hR _ _ _ ?_; clear hR R)
      rw [seqX_nil]
      refine hK _ _ _ ?_; clear hK K
      refine hN10 _ _ _ ?_
      refine hX1 _ _ _ _ ?_
      simp [go_sem, g0, g7, g8, g9, hj, hw1, pi1, pn1, pi2, pn2, pi3, pn3, pi4, pn4, p5, pi5]
      refine ⟨FB.no _, View.le_trans hAD1 ?_⟩
      exact le_ov hP
    have pi5 : ¬ (100 : Int) < (al.size : Int) := by omega
    have pn5 : ¬ 100 < al.size := by omega
    refine hR _ _ _ ?_; clear hR R
    iterate 31 (refine seqX_hide2 fun R hR => ?_; simp [go_sem, g0, g7, g8, g9, hj, hw1, pi1, pn1, pi2, pn2, pi3, pn3, pi4, pn4, pi5, pn5]; refine hR _ _ _ ?_; clear hR R)
    rw [seqX_nil]
    refine hK _ _ _ ?_; clear hK K
    refine hN9 _ _ _ ?_
    refine xc_iffalse (by simp [go_sem, g0, g7, g8, g9, hj, hw1, pi1, pn1, pi2, pn2, pi3, pn3, pi4, pn4, pi5, pn5]) ?_
    refine hN8 _ _ _ ?_
    refine xc_two fun N10 hN10 => ?_
    refine xc_reg1 4 rfl fun K hK => ?_
    simp only [show (List.range 4).map (·, true) = [(0, true), (1, true), (2, true), (3, true)] from rfl, rslv_cons, rslv_nil, List.getElem?_toArray, List.getElem?_cons_zero, List.getElem?_cons_succ, gres]
    iterate 4 (refine seqX_hide2 fun R hR => ?_; simp [go_sem, g0, g7, g8, g9, hj, hw1, pi1, pn1, pi2, pn2, pi3, pn3, pi4, pn4, pi5, pn5]; refine hR _ _ _ ?_; clear hR R)
    rw [seqX_nil]
    refine hK _ _ _ ?_; clear hK K
    refine hN10 _ _ _ ?_
    rw [xc_block]
    rw [xc_loop]
    refine vloopK (fun k' e ds A' => ∃ (i : Nat) (D2 : View), k' = imps.length - i ∧ ds = [] ∧ A' = ov D2 [(q4, .cells (wc n ve co al (.slice b1 tags.length c1) en (.slice b2 imps.length c2)) 34 (0, 0))] ∧ Priv D2 [q4] ∧ e 0 = .slice (some a) l.length cp ∧ e 7 = .slice (some a) l.length cp ∧ e 8 = .int .i64 l.length ∧ e 9 = .int .i64 j ∧ e 48 = .slice b2 imps.length c2 ∧ e 49 = .int .i64 imps.length ∧ e 50 = .int .i64 i ∧ (i ≤ imps.length) ∧ (D1 ≤ D2) ∧ (∀ x ∈ imps.take i, IR x)) _ ⟨0, D1, rfl, rfl, rfl, hP, by simp [go_sem, g0, g7, g8, g9, hj, hw1], by simp [go_sem, g0, g7, g8, g9, hj, hw1], by simp [go_sem, g0, g7, g8, g9, hj, hw1], by simp [go_sem, g0, g7, g8, g9, hj, hw1], by simp [go_sem, g0, g7, g8, g9, hj, hw1], by simp [go_sem, g0, g7, g8, g9, hj, hw1], by simp [go_sem, g0, g7, g8, g9, hj, hw1], by omega, View.le_refl _, fun w hw => by simp at hw⟩ ?_
    clear g0 g7 g8 g9
    clear hP
    rintro k' e ds _ ⟨i, D2, rfl, rfl, rfl, hP, g0, g7, g8, g9, g48, g49, g50, hil, hDD, hq2⟩ J2 X2 hJ2 hX2
    refine xc_sound _ ?_
    have hw2 := wrap_nat (i := i) (by omega)
    by_cases hi : i < imps.length
    · obtain ⟨a2, ci, rfl, u2, hci⟩ := hel2 i hi
      have hiz := hwz.2 _ (List.getElem_mem hi)
      have htk2 : imps.take (i + 1) = imps.take i ++ [imps[i]] := List.take_succ_eq_append_getElem hi
      have hci : ci = impc imps[i] := hci
      subst hci
      have hiz : IZ imps[i] := hiz
      generalize imps[i] = x at hiz htk2 u2
      obtain ⟨xn, xc, xp, xb⟩ := x
      have u2 := le_cells (View.le_trans hAD1 hDD) _ _ _ u2
      have hz1 : xc.size ≤ 2147483647 := hiz.1
      have hz2 : xp.size ≤ 2147483647 := hiz.2
      have hz3 : xc.size + xp.size ≤ 9223372036854775807 := by omega
      have fin : IR ⟨xn, xc, xp, xb⟩ → ∀ y ∈ imps.take (i + 1), IR y := fun hx y hy => by
        rw [htk2, List.mem_append, List.mem_singleton] at hy
        rcases hy with hy | rfl
        · exact hq2 y hy
        · exact hx
      cases xb with
      | true =>
        cases he : xn.toList.isEmpty with
        | false =>
          refine xc_two fun N11 hN11 => ?_
          refine xc_reg1 1 rfl fun K hK => ?_
          simp only [show (List.range 1).map (·, true) = [(0, true)] from rfl, rslv_cons, rslv_nil, List.getElem?_toArray, List.getElem?_cons_zero, List.getElem?_cons_succ, gres]
          (refine seqX_hide2 fun R hR => ?_; simp [go_sem, hj, hw1, g0, g7, g8, g9, g48, g49, g50, hi, hw2, bcs hP u2, impc, hz3, he]; refine hR _ _ _ ?_; clear hR R)
          rw [seqX_nil]
          refine hK _ _ _ ?_; clear hK K
          refine hN11 _ _ _ ?_
          refine xc_two fun N12 hN12 => ?_
          refine xc_iftrue (by simp [go_sem, hj, hw1, g0, g7, g8, g9, g48, g49, g50, hi, hw2, bcs hP u2, impc, hz3, he]) ?_
          refine hN12 _ _ _ ?_
          refine xc_two fun N13 hN13 => ?_
          rw [xc_block]
          refine xc_two fun N14 hN14 => ?_
          refine xc_reg1 4 rfl fun K hK => ?_
          simp only [show (List.range 4).map (·, true) = [(0, true), (1, true), (2, true), (3, true)] from rfl, rslv_cons, rslv_nil, List.getElem?_toArray, List.getElem?_cons_zero, List.getElem?_cons_succ, gres]
          iterate 2 (refine seqX_hide2 fun R hR => ?_; simp [go_sem, hj, hw1, g0, g7, g8, g9, g48, g49, g50, hi, hw2, bcs hP u2, impc, hz3, he]; refine hR _ _ _ ?_; clear hR R)
          refine seqX_hide2 fun R hR => ?_
          simp [go_sem, hj, hw1, g0, g7, g8, g9, g48, g49, g50, hi, hw2, bcs hP u2, impc, hz3, he]
          intro q6 hq6
          replace hP := hP.cons hq6
          clear hq6
          have d64 : q6 ≠ q4 := (hP.ne q4 (by simp [addrs])).1
          have d46 : q4 ≠ q6 := (hP.ne q4 (by simp [addrs])).2
          refine hR _ _ _ ?_; clear hR R
          refine seqX_hide2 fun R hR => ?_
          simp [go_sem, hj, hw1, g0, g7, g8, g9, g48, g49, g50, hi, hw2, bcs hP u2, impc, hz3, he, d64, d46]
          refine hR _ _ _ ?_; clear hR R
          rw [seqX_nil]
          refine hK _ _ _ ?_; clear hK K
          refine hN14 _ _ _ ?_
          refine xc_two fun N15 hN15 => ?_
          refine xc_reg1 20 rfl fun K hK => ?_
          simp only [show (List.range 20).map (·, true) = [(0, true), (1, true), (2, true), (3, true), (4, true), (5, true), (6, true), (7, true), (8, true), (9, true), (10, true), (11, true), (12, true), (13, true), (14, true), (15, true), (16, true), (17, true), (18, true), (19, true)] from rfl, rslv_cons, rslv_nil, List.getElem?_toArray, List.getElem?_cons_zero, List.getElem?_cons_succ, gres]
          iterate 20 (refine seqX_hide2 fun R hR => ?_; simp [go_sem, hj, hw1, g0, g7, g8, g9, g48, g49, g50, hi, hw2, bcs hP u2, impc, hz3, he, d64, d46]; refine hR _ _ _ ?_; clear hR R)
          rw [seqX_nil]
          refine hK _ _ _ ?_; clear hK K
          refine hN15 _ _ _ ?_
          refine xc_iftrue (by simp [go_sem, hj, hw1, g0, g7, g8, g9, g48, g49, g50, hi, hw2, bcs hP u2, impc, hz3, he, d64, d46]) ?_
          refine xc_two fun N16 hN16 => ?_
          refine xc_reg1 1 rfl fun K hK => ?_
          simp only [show (List.range 1).map (·, true) = [(0, true)] from rfl, rslv_cons, rslv_nil, List.getElem?_toArray, List.getElem?_cons_zero, List.getElem?_cons_succ, gres]
          (refine seqX_hide2 fun R hR => ?_; simp [go_sem, hj, hw1, g0, g7, g8, g9, g48, g49, g50, hi, hw2, bcs hP u2, impc, hz3, he, d64, d46]; refine hR _ _ _ ?_; clear hR R)
          rw [seqX_nil]
          refine hK _ _ _ ?_; clear hK K
          refine hN16 _ _ _ ?_
          refine hX2 _ _ _ _ ?_
          refine hX1 _ _ _ _ ?_
          simp [go_sem, hj, hw1, g0, g7, g8, g9, g48, g49, g50, hi, hw2, bcs hP u2, impc, hz3, he, d64, d46]
          refine ⟨FB.no _, View.le_trans (View.le_trans hAD1 hDD) ?_⟩
          exact le_ov hP
        | true =>
          refine xc_two fun N11 hN11 => ?_
          refine xc_reg1 1 rfl fun K hK => ?_
          simp only [show (List.range 1).map (·, true) = [(0, true)] from rfl, rslv_cons, rslv_nil, List.getElem?_toArray, List.getElem?_cons_zero, List.getElem?_cons_succ, gres]
          (refine seqX_hide2 fun R hR => ?_; simp [go_sem, hj, hw1, g0, g7, g8, g9, g48, g49, g50, hi, hw2, bcs hP u2, impc, hz3, he]; refine hR _ _ _ ?_; clear hR R)
          rw [seqX_nil]
          refine hK _ _ _ ?_; clear hK K
          refine hN11 _ _ _ ?_
          refine xc_two fun N12 hN12 => ?_
          refine xc_iftrue (by simp [go_sem, hj, hw1, g0, g7, g8, g9, g48, g49, g50, hi, hw2, bcs hP u2, impc, hz3, he]) ?_
          refine hN12 _ _ _ ?_
          refine xc_two fun N13 hN13 => ?_
          rw [xc_block]
          refine xc_two fun N14 hN14 => ?_
          refine xc_reg1 4 rfl fun K hK => ?_
          simp only [show (List.range 4).map (·, true) = [(0, true), (1, true), (2, true), (3, true)] from rfl, rslv_cons, rslv_nil, List.getElem?_toArray, List.getElem?_cons_zero, List.getElem?_cons_succ, gres]
          iterate 2 (refine seqX_hide2 fun R hR => ?_; simp [go_sem, hj, hw1, g0, g7, g8, g9, g48, g49, g50, hi, hw2, bcs hP u2, impc, hz3, he]; refine hR _ _ _ ?_; clear hR R)
          refine seqX_hide2 fun R hR => ?_
          simp [go_sem, hj, hw1, g0, g7, g8, g9, g48, g49, g50, hi, hw2, bcs hP u2, impc, hz3, he]
          intro q6 hq6
          replace hP := hP.cons hq6
          clear hq6
          have d64 : q6 ≠ q4 := (hP.ne q4 (by simp [addrs])).1
          have d46 : q4 ≠ q6 := (hP.ne q4 (by simp [addrs])).2
          refine hR _ _ _ ?_; clear hR R
          refine seqX_hide2 fun R hR => ?_
          simp [go_sem, hj, hw1, g0, g7, g8, g9, g48, g49, g50, hi, hw2, bcs hP u2, impc, hz3, he, d64, d46]
          refine hR _ _ _ ?_; clear hR R
          rw [seqX_nil]
          refine hK _ _ _ ?_; clear hK K
          refine hN14 _ _ _ ?_
          refine xc_two fun N15 hN15 => ?_
          refine xc_reg1 20 rfl fun K hK => ?_
          simp only [show (List.range 20).map (·, true) = [(0, true), (1, true), (2, true), (3, true), (4, true), (5, true), (6, true), (7, true), (8, true), (9, true), (10, true), (11, true), (12, true), (13, true), (14, true), (15, true), (16, true), (17, true), (18, true), (19, true)] from rfl, rslv_cons, rslv_nil, List.getElem?_toArray, List.getElem?_cons_zero, List.getElem?_cons_succ, gres]
          iterate 20 (refine seqX_hide2 fun R hR => ?_; simp [go_sem, hj, hw1, g0, g7, g8, g9, g48, g49, g50, hi, hw2, bcs hP u2, impc, hz3, he, d64, d46]; refine hR _ _ _ ?_; clear hR R)
          rw [seqX_nil]
          refine hK _ _ _ ?_; clear hK K
          refine hN15 _ _ _ ?_
          refine xc_iffalse (by simp [go_sem, hj, hw1, g0, g7, g8, g9, g48, g49, g50, hi, hw2, bcs hP u2, impc, hz3, he, d64, d46]) ?_
          refine hN13 _ _ _ ?_
          refine xc_reg1 2 rfl fun K hK => ?_
          simp only [show (List.range 2).map (·, true) = [(0, true), (1, true)] from rfl, rslv_cons, rslv_nil, List.getElem?_toArray, List.getElem?_cons_zero, List.getElem?_cons_succ, gres]
          iterate 2 (refine seqX_hide2 fun R hR => ?_; simp [go_sem, hj, hw1, g0, g7, g8, g9, g48, g49, g50, hi, hw2, bcs hP u2, impc, hz3, he, d64, d46]; refine hR _ _ _ ?_; clear hR R)
          rw [seqX_nil]
          refine hK _ _ _ ?_; clear hK K
          refine sink_goal 0 hP rfl fun hPn lq6 nq6 => ?_
          clear hP; have hP := hPn; clear hPn
          simp only [List.eraseIdx_cons_zero, List.eraseIdx_cons_succ, addrs_cons, addrs_nil] at hP ⊢
          refine hJ2 (imps.length - (i + 1)) _ _ _ (by omega) ⟨i + 1, _, rfl, rfl, rfl, hP, by simp [go_sem, hj, hw1, g0, g7, g8, g9, g48, g49, g50, hi, hw2, impc, hz3, d64, d46], by simp [go_sem, hj, hw1, g0, g7, g8, g9, g48, g49, g50, hi, hw2, impc, hz3, d64, d46], by simp [go_sem, hj, hw1, g0, g7, g8, g9, g48, g49, g50, hi, hw2, impc, hz3, d64, d46], by simp [go_sem, hj, hw1, g0, g7, g8, g9, g48, g49, g50, hi, hw2, impc, hz3, d64, d46], by simp [go_sem, hj, hw1, g0, g7, g8, g9, g48, g49, g50, hi, hw2, impc, hz3, d64, d46], by simp [go_sem, hj, hw1, g0, g7, g8, g9, g48, g49, g50, hi, hw2, impc, hz3, d64, d46], by simp [go_sem, hj, hw1, g0, g7, g8, g9, g48, g49, g50, hi, hw2, impc, hz3, d64, d46], by omega, View.le_trans hDD lq6, fin ⟨fun _ => emp_eq he, fun h => by cases h⟩⟩
      | false =>
        cases he : (xc ++ xp).toList.isEmpty with
        | false =>
          refine xc_two fun N11 hN11 => ?_
          refine xc_reg1 1 rfl fun K hK => ?_
          simp only [show (List.range 1).map (·, true) = [(0, true)] from rfl, rslv_cons, rslv_nil, List.getElem?_toArray, List.getElem?_cons_zero, List.getElem?_cons_succ, gres]
          (refine seqX_hide2 fun R hR => ?_; simp [go_sem, hj, hw1, g0, g7, g8, g9, g48, g49, g50, hi, hw2, bcs hP u2, impc, hz3, he]; refine hR _ _ _ ?_; clear hR R)
          rw [seqX_nil]
          refine hK _ _ _ ?_; clear hK K
          refine hN11 _ _ _ ?_
          refine xc_two fun N12 hN12 => ?_
          refine xc_iftrue (by simp [go_sem, hj, hw1, g0, g7, g8, g9, g48, g49, g50, hi, hw2, bcs hP u2, impc, hz3, he]) ?_
          refine hN12 _ _ _ ?_
          refine xc_two fun N13 hN13 => ?_
          rw [xc_block]
          refine xc_two fun N14 hN14 => ?_
          refine xc_reg1 4 rfl fun K hK => ?_
          simp only [show (List.range 4).map (·, true) = [(0, true), (1, true), (2, true), (3, true)] from rfl, rslv_cons, rslv_nil, List.getElem?_toArray, List.getElem?_cons_zero, List.getElem?_cons_succ, gres]
          iterate 2 (refine seqX_hide2 fun R hR => ?_; simp [go_sem, hj, hw1, g0, g7, g8, g9, g48, g49, g50, hi, hw2, bcs hP u2, impc, hz3, he]; refine hR _ _ _ ?_; clear hR R)
          refine seqX_hide2 fun R hR => ?_
          simp [go_sem, hj, hw1, g0, g7, g8, g9, g48, g49, g50, hi, hw2, bcs hP u2, impc, hz3, he]
          intro q6 hq6
          replace hP := hP.cons hq6
          clear hq6
          have d64 : q6 ≠ q4 := (hP.ne q4 (by simp [addrs])).1
          have d46 : q4 ≠ q6 := (hP.ne q4 (by simp [addrs])).2
          refine hR _ _ _ ?_; clear hR R
          refine seqX_hide2 fun R hR => ?_
          simp [go_sem, hj, hw1, g0, g7, g8, g9, g48, g49, g50, hi, hw2, bcs hP u2, impc, hz3, he, d64, d46]
          refine hR _ _ _ ?_; clear hR R
          rw [seqX_nil]
          refine hK _ _ _ ?_; clear hK K
          refine hN14 _ _ _ ?_
          refine xc_two fun N15 hN15 => ?_
          refine xc_reg1 20 rfl fun K hK => ?_
          simp only [show (List.range 20).map (·, true) = [(0, true), (1, true), (2, true), (3, true), (4, true), (5, true), (6, true), (7, true), (8, true), (9, true), (10, true), (11, true), (12, true), (13, true), (14, true), (15, true), (16, true), (17, true), (18, true), (19, true)] from rfl, rslv_cons, rslv_nil, List.getElem?_toArray, List.getElem?_cons_zero, List.getElem?_cons_succ, gres]
          iterate 20 (refine seqX_hide2 fun R hR => ?_; simp [go_sem, hj, hw1, g0, g7, g8, g9, g48, g49, g50, hi, hw2, bcs hP u2, impc, hz3, he, d64, d46]; refine hR _ _ _ ?_; clear hR R)
          rw [seqX_nil]
          refine hK _ _ _ ?_; clear hK K
          refine hN15 _ _ _ ?_
          refine xc_iftrue (by simp [go_sem, hj, hw1, g0, g7, g8, g9, g48, g49, g50, hi, hw2, bcs hP u2, impc, hz3, he, d64, d46]) ?_
          refine xc_two fun N16 hN16 => ?_
          refine xc_reg1 1 rfl fun K hK => ?_
          simp only [show (List.range 1).map (·, true) = [(0, true)] from rfl, rslv_cons, rslv_nil, List.getElem?_toArray, List.getElem?_cons_zero, List.getElem?_cons_succ, gres]
          (refine seqX_hide2 fun R hR => ?_; simp [go_sem, hj, hw1, g0, g7, g8, g9, g48, g49, g50, hi, hw2, bcs hP u2, impc, hz3, he, d64, d46]; refine hR _ _ _ ?_; clear hR R)
          rw [seqX_nil]
          refine hK _ _ _ ?_; clear hK K
          refine hN16 _ _ _ ?_
          refine hX2 _ _ _ _ ?_
          refine hX1 _ _ _ _ ?_
          simp [go_sem, hj, hw1, g0, g7, g8, g9, g48, g49, g50, hi, hw2, bcs hP u2, impc, hz3, he, d64, d46]
          refine ⟨FB.no _, View.le_trans (View.le_trans hAD1 hDD) ?_⟩
          exact le_ov hP
        | true =>
          refine xc_two fun N11 hN11 => ?_
          refine xc_reg1 1 rfl fun K hK => ?_
          simp only [show (List.range 1).map (·, true) = [(0, true)] from rfl, rslv_cons, rslv_nil, List.getElem?_toArray, List.getElem?_cons_zero, List.getElem?_cons_succ, gres]
          (refine seqX_hide2 fun R hR => ?_; simp [go_sem, hj, hw1, g0, g7, g8, g9, g48, g49, g50, hi, hw2, bcs hP u2, impc, hz3, he]; refine hR _ _ _ ?_; clear hR R)
          rw [seqX_nil]
          refine hK _ _ _ ?_; clear hK K
          refine hN11 _ _ _ ?_
          refine xc_two fun N12 hN12 => ?_
          refine xc_iftrue (by simp [go_sem, hj, hw1, g0, g7, g8, g9, g48, g49, g50, hi, hw2, bcs hP u2, impc, hz3, he]) ?_
          refine hN12 _ _ _ ?_
          refine xc_two fun N13 hN13 => ?_
          rw [xc_block]
          refine xc_two fun N14 hN14 => ?_
          refine xc_reg1 4 rfl fun K hK => ?_
          simp only [show (List.range 4).map (·, true) = [(0, true), (1, true), (2, true), (3, true)] from rfl, rslv_cons, rslv_nil, List.getElem?_toArray, List.getElem?_cons_zero, List.getElem?_cons_succ, gres]
          iterate 2 (refine seqX_hide2 fun R hR => ?_; simp [go_sem, hj, hw1, g0, g7, g8, g9, g48, g49, g50, hi, hw2, bcs hP u2, impc, hz3, he]; refine hR _ _ _ ?_; clear hR R)
          refine seqX_hide2 fun R hR => ?_
          simp [go_sem, hj, hw1, g0, g7, g8, g9, g48, g49, g50, hi, hw2, bcs hP u2, impc, hz3, he]
          intro q6 hq6
          replace hP := hP.cons hq6
          clear hq6
          have d64 : q6 ≠ q4 := (hP.ne q4 (by simp [addrs])).1
          have d46 : q4 ≠ q6 := (hP.ne q4 (by simp [addrs])).2
          refine hR _ _ _ ?_; clear hR R
          refine seqX_hide2 fun R hR => ?_
          simp [go_sem, hj, hw1, g0, g7, g8, g9, g48, g49, g50, hi, hw2, bcs hP u2, impc, hz3, he, d64, d46]
          refine hR _ _ _ ?_; clear hR R
          rw [seqX_nil]
          refine hK _ _ _ ?_; clear hK K
          refine hN14 _ _ _ ?_
          refine xc_two fun N15 hN15 => ?_
          refine xc_reg1 20 rfl fun K hK => ?_
          simp only [show (List.range 20).map (·, true) = [(0, true), (1, true), (2, true), (3, true), (4, true), (5, true), (6, true), (7, true), (8, true), (9, true), (10, true), (11, true), (12, true), (13, true), (14, true), (15, true), (16, true), (17, true), (18, true), (19, true)] from rfl, rslv_cons, rslv_nil, List.getElem?_toArray, List.getElem?_cons_zero, List.getElem?_cons_succ, gres]
          iterate 20 (refine seqX_hide2 fun R hR => ?_; simp [go_sem, hj, hw1, g0, g7, g8, g9, g48, g49, g50, hi, hw2, bcs hP u2, impc, hz3, he, d64, d46]; refine hR _ _ _ ?_; clear hR R)
          rw [seqX_nil]
          refine hK _ _ _ ?_; clear hK K
          refine hN15 _ _ _ ?_
          refine xc_iffalse (by simp [go_sem, hj, hw1, g0, g7, g8, g9, g48, g49, g50, hi, hw2, bcs hP u2, impc, hz3, he, d64, d46]) ?_
          refine hN13 _ _ _ ?_
          refine xc_reg1 2 rfl fun K hK => ?_
          simp only [show (List.range 2).map (·, true) = [(0, true), (1, true)] from rfl, rslv_cons, rslv_nil, List.getElem?_toArray, List.getElem?_cons_zero, List.getElem?_cons_succ, gres]
          iterate 2 (refine seqX_hide2 fun R hR => ?_; simp [go_sem, hj, hw1, g0, g7, g8, g9, g48, g49, g50, hi, hw2, bcs hP u2, impc, hz3, he, d64, d46]; refine hR _ _ _ ?_; clear hR R)
          rw [seqX_nil]
          refine hK _ _ _ ?_; clear hK K
          refine sink_goal 0 hP rfl fun hPn lq6 nq6 => ?_
          clear hP; have hP := hPn; clear hPn
          simp only [List.eraseIdx_cons_zero, List.eraseIdx_cons_succ, addrs_cons, addrs_nil] at hP ⊢
          refine hJ2 (imps.length - (i + 1)) _ _ _ (by omega) ⟨i + 1, _, rfl, rfl, rfl, hP, by simp [go_sem, hj, hw1, g0, g7, g8, g9, g48, g49, g50, hi, hw2, impc, hz3, d64, d46], by simp [go_sem, hj, hw1, g0, g7, g8, g9, g48, g49, g50, hi, hw2, impc, hz3, d64, d46], by simp [go_sem, hj, hw1, g0, g7, g8, g9, g48, g49, g50, hi, hw2, impc, hz3, d64, d46], by simp [go_sem, hj, hw1, g0, g7, g8, g9, g48, g49, g50, hi, hw2, impc, hz3, d64, d46], by simp [go_sem, hj, hw1, g0, g7, g8, g9, g48, g49, g50, hi, hw2, impc, hz3, d64, d46], by simp [go_sem, hj, hw1, g0, g7, g8, g9, g48, g49, g50, hi, hw2, impc, hz3, d64, d46], by simp [go_sem, hj, hw1, g0, g7, g8, g9, g48, g49, g50, hi, hw2, impc, hz3, d64, d46], by omega, View.le_trans hDD lq6, fin ⟨fun h => (by cases h), fun _ => emp_app he⟩⟩
    · skip
      rw [List.take_of_length_le (by omega)] at hq2
      refine xc_two fun N11 hN11 => ?_
      refine xc_reg1 1 rfl fun K hK => ?_
      simp only [show (List.range 1).map (·, true) = [(0, true)] from rfl, rslv_cons, rslv_nil, List.getElem?_toArray, List.getElem?_cons_zero, List.getElem?_cons_succ, gres]
      (refine seqX_hide2 fun R hR => ?_; simp [go_sem, hj, hw1, g0, g7, g8, g9, g48, g49, g50, hi]; refine hR _ _ _ ?_; clear hR R)
      rw [seqX_nil]
      refine hK _ _ _ ?_; clear hK K
      refine hN11 _ _ _ ?_
      refine xc_two fun N12 hN12 => ?_
      refine xc_iffalse (by simp [go_sem, hj, hw1, g0, g7, g8, g9, g48, g49, g50]) ?_
      refine hX2 _ _ _ _ ?_
      refine hN6 _ _ _ ?_
      refine xc_reg1 2 rfl fun K hK => ?_
      simp only [show (List.range 2).map (·, true) = [(0, true), (1, true)] from rfl, rslv_cons, rslv_nil, List.getElem?_toArray, List.getElem?_cons_zero, List.getElem?_cons_succ, gres]
      iterate 2 (refine seqX_hide2 fun R hR => ?_; simp [go_sem, hj, hw1, g0, g7, g8, g9, g48, g49, g50]; refine hR _ _ _ ?_; clear hR R)
      rw [seqX_nil]
      refine hK _ _ _ ?_; clear hK K
      refine sink_goal 0 hP rfl fun hPn lq4 nq4 => ?_
      clear hP; have hP := hPn; clear hPn
      simp only [List.eraseIdx_cons_zero, List.eraseIdx_cons_succ, addrs_cons, addrs_nil] at hP ⊢
      refine hJ1 (l.length - (j + 1)) _ _ _ (by omega) ⟨j + 1, _, rfl, rfl, rfl, hP, by simp [go_sem, hj, hw1, g0, g7, g8, g9, g48, g49, g50], by simp [go_sem, hj, hw1, g0, g7, g8, g9, g48, g49, g50], by simp [go_sem, hj, hw1, g0, g7, g8, g9, g48, g49, g50], by simp [go_sem, hj, hw1, g0, g7, g8, g9, g48, g49, g50], by omega, View.le_trans hAD1 (View.le_trans hDD lq4), fun y hy => ?_⟩
      rw [htk, List.mem_append, List.mem_singleton] at hy
      rcases hy with hy | rfl
      · exact hq y hy
      · exact ⟨hq1 rfl, by omega, by omega, by omega, by omega, by omega, hq2⟩
  · skip
    rw [List.take_of_length_le (by omega)] at hq
    refine xc_two fun N4 hN4 => ?_
    refine xc_reg1 1 rfl fun K hK => ?_
    simp only [show (List.range 1).map (·, true) = [(0, true)] from rfl, rslv_cons, rslv_nil, List.getElem?_toArray, List.getElem?_cons_zero, List.getElem?_cons_succ, gres]
    (refine seqX_hide2 fun R hR => ?_; simp [go_sem, g0, g7, g8, g9, hj]; refine hR _ _ _ ?_; clear hR R)
    rw [seqX_nil]
    refine hK _ _ _ ?_; clear hK K
    refine hN4 _ _ _ ?_
    refine xc_two fun N5 hN5 => ?_
    refine xc_iffalse (by simp [go_sem, g0, g7, g8, g9]) ?_
    refine hX1 _ _ _ _ ?_
    refine hN2 _ _ _ ?_
    refine xc_two fun N6 hN6 => ?_
    refine xc_reg1 4 rfl fun K hK => ?_
    simp only [show (List.range 4).map (·, true) = [(0, true), (1, true), (2, true), (3, true)] from rfl, rslv_cons, rslv_nil, List.getElem?_toArray, List.getElem?_cons_zero, List.getElem?_cons_succ, gres]
    iterate 4 (refine seqX_hide2 fun R hR => ?_; simp [go_sem, g0, g7, g8, g9]; refine hR _ _ _ ?_; clear hR R)
    rw [seqX_nil]
    refine hK _ _ _ ?_; clear hK K
    refine hN6 _ _ _ ?_
    simp [go_sem, g0, g7, g8, g9]
    refine ⟨⟨_, rfl, fun h => ⟨?_, hq⟩⟩, hAD⟩
    have : (l.length : Int) ≤ 20 := by simpa using h
    omega
end Go.Proofs.YtogfpbnbojhpoaaV

/- Charts: sizes of wants (zzFits2 ..). -/
import Derived.Test.YtogfpbnbojhpoaaUX
namespace Go.Proofs.YtogfpbnbojhpoaaV
open Go.RowKit
set_option linter.unusedSimpArgs false
set_option linter.unusedVariables false
/-- A truth that says Q. -/
def FB (Q : Prop) (r : Value) : Prop := ∃ q, r = .bool q ∧ (q = true → Q)
def IZ (i : Imp) : Prop := i.child.size ≤ 2147483647 ∧ i.parent.size ≤ 2147483647
def WZ (w : Wt) : Prop := w.ver.size ≤ 2147483647 ∧ ∀ i ∈ w.imps, IZ i
theorem FB.no (Q : Prop) : FB Q (.bool false) := ⟨false, rfl, fun h => by cases h⟩
theorem FB.yes {Q : Prop} (h : Q) : FB Q (.bool true) := ⟨true, rfl, fun _ => h⟩
set_option maxRecDepth 20000 in
set_option maxHeartbeats 4000000 in
theorem fits76 (A : View) (i : Imp) : VCalls Try.prog 76 #[.agg (impc i)] A fun r A' => FB (IZ i) r ∧ A ≤ A' := by
  obtain ⟨n, ch, pa, pr⟩ := i
  refine xcalls Try.func76 rfl (by simp [Try.ntmps76]) ?_
  simp only [Try.f76]
  have hP : Priv A (addrs []) := Priv.nil A
  show xc _ _ _ _ _ _ (ov A [])
  refine xc_two fun N1 hN1 => ?_
  refine xc_reg1 2 rfl fun K hK => ?_
  simp only [show (List.range 2).map (·, true) = [(0, true), (1, true)] from rfl, rslv_cons, rslv_nil, List.getElem?_toArray, List.getElem?_cons_zero, List.getElem?_cons_succ, gres]
  refine seqX_hide2 fun R hR => ?_
  simp [go_sem, impc]
  intro q1 hq1
  replace hP := hP.cons hq1
  clear hq1
  refine hR _ _ _ ?_; clear hR R
  (refine seqX_hide2 fun R hR => ?_; simp [go_sem, impc]; refine hR _ _ _ ?_; clear hR R)
  rw [seqX_nil]
  refine hK _ _ _ ?_; clear hK K
  refine hN1 _ _ _ ?_
  refine xc_two fun N2 hN2 => ?_
  refine xc_two fun N3 hN3 => ?_
  refine xc_reg1 4 rfl fun K hK => ?_
  simp only [show (List.range 4).map (·, true) = [(0, true), (1, true), (2, true), (3, true)] from rfl, rslv_cons, rslv_nil, List.getElem?_toArray, List.getElem?_cons_zero, List.getElem?_cons_succ, gres]
  iterate 4 (refine seqX_hide2 fun R hR => ?_; simp [go_sem, impc]; refine hR _ _ _ ?_; clear hR R)
  rw [seqX_nil]
  refine hK _ _ _ ?_; clear hK K
  refine hN3 _ _ _ ?_
  rcases Int.lt_or_le 2147483647 (n.size : Int) with h1 | h1
  · skip
    refine xc_iftrue (by simp [go_sem, impc, h1]) ?_
    refine xc_two fun N4 hN4 => ?_
    refine xc_reg1 1 rfl fun K hK => ?_
    simp only [show (List.range 1).map (·, true) = [(0, true)] from rfl, rslv_cons, rslv_nil, List.getElem?_toArray, List.getElem?_cons_zero, List.getElem?_cons_succ, gres]
    (refine seqX_hide2 fun R hR => ?_; simp [go_sem, impc, h1]; refine hR _ _ _ ?_; clear hR R)
    rw [seqX_nil]
    refine hK _ _ _ ?_; clear hK K
    refine hN4 _ _ _ ?_
    simp [go_sem, impc]
    refine ⟨FB.no _, ?_⟩
    exact le_ov hP
  refine xc_iffalse (by simp [go_sem, impc, h1]) ?_
  refine hN2 _ _ _ ?_
  refine xc_two fun N4 hN4 => ?_
  refine xc_two fun N5 hN5 => ?_
  refine xc_reg1 4 rfl fun K hK => ?_
  simp only [show (List.range 4).map (·, true) = [(0, true), (1, true), (2, true), (3, true)] from rfl, rslv_cons, rslv_nil, List.getElem?_toArray, List.getElem?_cons_zero, List.getElem?_cons_succ, gres]
  iterate 4 (refine seqX_hide2 fun R hR => ?_; simp [go_sem, impc, h1]; refine hR _ _ _ ?_; clear hR R)
  rw [seqX_nil]
  refine hK _ _ _ ?_; clear hK K
  refine hN5 _ _ _ ?_
  rcases Int.lt_or_le 2147483647 (ch.size : Int) with h2 | h2
  · skip
    refine xc_iftrue (by simp [go_sem, impc, h2]) ?_
    refine xc_two fun N6 hN6 => ?_
    refine xc_reg1 1 rfl fun K hK => ?_
    simp only [show (List.range 1).map (·, true) = [(0, true)] from rfl, rslv_cons, rslv_nil, List.getElem?_toArray, List.getElem?_cons_zero, List.getElem?_cons_succ, gres]
    (refine seqX_hide2 fun R hR => ?_; simp [go_sem, impc, h2]; refine hR _ _ _ ?_; clear hR R)
    rw [seqX_nil]
    refine hK _ _ _ ?_; clear hK K
    refine hN6 _ _ _ ?_
    simp [go_sem, impc]
    refine ⟨FB.no _, ?_⟩
    exact le_ov hP
  refine xc_iffalse (by simp [go_sem, impc, h2]) ?_
  refine hN4 _ _ _ ?_
  refine xc_two fun N6 hN6 => ?_
  refine xc_two fun N7 hN7 => ?_
  refine xc_reg1 4 rfl fun K hK => ?_
  simp only [show (List.range 4).map (·, true) = [(0, true), (1, true), (2, true), (3, true)] from rfl, rslv_cons, rslv_nil, List.getElem?_toArray, List.getElem?_cons_zero, List.getElem?_cons_succ, gres]
  iterate 4 (refine seqX_hide2 fun R hR => ?_; simp [go_sem, impc, h2]; refine hR _ _ _ ?_; clear hR R)
  rw [seqX_nil]
  refine hK _ _ _ ?_; clear hK K
  refine hN7 _ _ _ ?_
  rcases Int.lt_or_le 2147483647 (pa.size : Int) with h3 | h3
  · skip
    refine xc_iftrue (by simp [go_sem, impc, h3]) ?_
    refine xc_two fun N8 hN8 => ?_
    refine xc_reg1 1 rfl fun K hK => ?_
    simp only [show (List.range 1).map (·, true) = [(0, true)] from rfl, rslv_cons, rslv_nil, List.getElem?_toArray, List.getElem?_cons_zero, List.getElem?_cons_succ, gres]
    (refine seqX_hide2 fun R hR => ?_; simp [go_sem, impc, h3]; refine hR _ _ _ ?_; clear hR R)
    rw [seqX_nil]
    refine hK _ _ _ ?_; clear hK K
    refine hN8 _ _ _ ?_
    simp [go_sem, impc]
    refine ⟨FB.no _, ?_⟩
    exact le_ov hP
  refine xc_iffalse (by simp [go_sem, impc, h3]) ?_
  refine hN6 _ _ _ ?_
  refine xc_two fun N8 hN8 => ?_
  refine xc_reg1 1 rfl fun K hK => ?_
  simp only [show (List.range 1).map (·, true) = [(0, true)] from rfl, rslv_cons, rslv_nil, List.getElem?_toArray, List.getElem?_cons_zero, List.getElem?_cons_succ, gres]
  (refine seqX_hide2 fun R hR => ?_; simp [go_sem, impc, h3]; refine hR _ _ _ ?_; clear hR R)
  rw [seqX_nil]
  refine hK _ _ _ ?_; clear hK K
  refine hN8 _ _ _ ?_
  simp [go_sem, impc]
  refine ⟨FB.yes ⟨?_, ?_⟩, ?_⟩
  · show ch.size ≤ 2147483647
    omega
  · show pa.size ≤ 2147483647
    omega
  exact le_ov hP
set_option maxRecDepth 20000 in
set_option maxHeartbeats 4000000 in
theorem fits32t (A : View) (v : Value) (l : List ByteArray) (h : Texts A v l) : VCalls Try.prog 32 #[v] A fun r A' => FB True r ∧ A ≤ A' := by
  obtain ⟨bs, cp, rfl⟩ := h.slice
  refine xcalls Try.func32 rfl (by simp [Try.ntmps32]) ?_
  simp only [Try.f32]
  have hP : Priv A (addrs []) := Priv.nil A
  show xc _ _ _ _ _ _ (ov A [])
  refine xc_two fun N1 hN1 => ?_
  refine xc_reg1 1 rfl fun K hK => ?_
  simp only [show (List.range 1).map (·, true) = [(0, true)] from rfl, rslv_cons, rslv_nil, List.getElem?_toArray, List.getElem?_cons_zero, List.getElem?_cons_succ, gres]
  (refine seqX_hide2 fun R hR => ?_; simp [go_sem]; refine hR _ _ _ ?_; clear hR R)
  rw [seqX_nil]
  refine hK _ _ _ ?_; clear hK K
  refine hN1 _ _ _ ?_
  refine xc_two fun N2 hN2 => ?_
  refine xc_two fun N3 hN3 => ?_
  refine xc_reg1 3 rfl fun K hK => ?_
  simp only [show (List.range 3).map (·, true) = [(0, true), (1, true), (2, true)] from rfl, rslv_cons, rslv_nil, List.getElem?_toArray, List.getElem?_cons_zero, List.getElem?_cons_succ, gres]
  iterate 3 (refine seqX_hide2 fun R hR => ?_; simp [go_sem]; refine hR _ _ _ ?_; clear hR R)
  rw [seqX_nil]
  refine hK _ _ _ ?_; clear hK K
  refine hN3 _ _ _ ?_
  rcases Int.lt_or_le 2147483647 (l.length : Int) with h0 | h0
  · skip
    refine xc_iftrue (by simp [go_sem, h0]) ?_
    refine xc_two fun N4 hN4 => ?_
    refine xc_reg1 1 rfl fun K hK => ?_
    simp only [show (List.range 1).map (·, true) = [(0, true)] from rfl, rslv_cons, rslv_nil, List.getElem?_toArray, List.getElem?_cons_zero, List.getElem?_cons_succ, gres]
    (refine seqX_hide2 fun R hR => ?_; simp [go_sem, h0]; refine hR _ _ _ ?_; clear hR R)
    rw [seqX_nil]
    refine hK _ _ _ ?_; clear hK K
    refine hN4 _ _ _ ?_
    simp [go_sem]
    exact ⟨FB.no _, View.le_refl _⟩
  refine xc_iffalse (by simp [go_sem, h0]) ?_
  refine hN2 _ _ _ ?_
  refine xc_two fun N4 hN4 => ?_
  refine xc_two fun N5 hN5 => ?_
  refine xc_reg1 3 rfl fun K hK => ?_
  simp only [show (List.range 3).map (·, true) = [(0, true), (1, true), (2, true)] from rfl, rslv_cons, rslv_nil, List.getElem?_toArray, List.getElem?_cons_zero, List.getElem?_cons_succ, gres]
  iterate 3 (refine seqX_hide2 fun R hR => ?_; simp [go_sem, h0]; refine hR _ _ _ ?_; clear hR R)
  rw [seqX_nil]
  refine hK _ _ _ ?_; clear hK K
  refine hN5 _ _ _ ?_
  rw [xc_block]
  rw [xc_loop]
  refine vloopK (fun k' e ds A' => ∃ (j : Nat), k' = l.length - j ∧ ds = [] ∧ A' = ov A [] ∧ Priv A [] ∧ e 8 = .slice bs l.length cp ∧ e 9 = .int .i64 l.length ∧ e 10 = .int .i64 j ∧ (j ≤ l.length)) _ ⟨0, rfl, rfl, rfl, hP, by simp [go_sem], by simp [go_sem], by simp [go_sem], by omega⟩ ?_
  clear hP
  rintro k' e ds A' ⟨j, rfl, rfl, hV, hP, g8, g9, g10, hjl⟩ J1 X1 hJ1 hX1
  refine xc_sound _ ?_
  replace hV := Eq.symm hV; subst hV; replace hP : Priv A (addrs []) := hP
  have hw1 := wrap_nat (i := j) (by omega)
  by_cases hj : j < l.length
  · obtain ⟨a, cap, f1, u1⟩ := h.at' hj
    simp only [Value.slice.injEq] at f1
    obtain ⟨rfl, -, rfl⟩ := f1
    refine xc_two fun N6 hN6 => ?_
    refine xc_reg1 1 rfl fun K hK => ?_
    simp only [show (List.range 1).map (·, true) = [(0, true)] from rfl, rslv_cons, rslv_nil, List.getElem?_toArray, List.getElem?_cons_zero, List.getElem?_cons_succ, gres]
    (refine seqX_hide2 fun R hR => ?_; simp [go_sem, g8, g9, g10, hj, hw1, bc hP u1, u1]; refine hR _ _ _ ?_; clear hR R)
    rw [seqX_nil]
    refine hK _ _ _ ?_; clear hK K
    refine hN6 _ _ _ ?_
    refine xc_two fun N7 hN7 => ?_
    refine xc_iftrue (by simp [go_sem, g8, g9, g10, hj, hw1, bc hP u1, u1]) ?_
    refine hN7 _ _ _ ?_
    refine xc_two fun N8 hN8 => ?_
    rw [xc_block]
    refine xc_two fun N9 hN9 => ?_
    refine xc_reg1 3 rfl fun K hK => ?_
    simp only [show (List.range 3).map (·, true) = [(0, true), (1, true), (2, true)] from rfl, rslv_cons, rslv_nil, List.getElem?_toArray, List.getElem?_cons_zero, List.getElem?_cons_succ, gres]
    iterate 3 (refine seqX_hide2 fun R hR => ?_; simp [go_sem, g8, g9, g10, hj, hw1, bc hP u1, u1]; refine hR _ _ _ ?_; clear hR R)
    rw [seqX_nil]
    refine hK _ _ _ ?_; clear hK K
    refine hN9 _ _ _ ?_
    refine xc_two fun N10 hN10 => ?_
    refine xc_reg1 3 rfl fun K hK => ?_
    simp only [show (List.range 3).map (·, true) = [(0, true), (1, true), (2, true)] from rfl, rslv_cons, rslv_nil, List.getElem?_toArray, List.getElem?_cons_zero, List.getElem?_cons_succ, gres]
    iterate 3 (refine seqX_hide2 fun R hR => ?_; simp [go_sem, g8, g9, g10, hj, hw1, bc hP u1, u1]; refine hR _ _ _ ?_; clear hR R)
    rw [seqX_nil]
    refine hK _ _ _ ?_; clear hK K
    refine hN10 _ _ _ ?_
    rcases Int.lt_or_le 2147483647 (l[j].size : Int) with h1 | h1
    · skip
      refine xc_iftrue (by simp [go_sem, g8, g9, g10, hj, hw1, bc hP u1, u1, h1]) ?_
      refine xc_two fun N11 hN11 => ?_
      refine xc_reg1 1 rfl fun K hK => ?_
      simp only [show (List.range 1).map (·, true) = [(0, true)] from rfl, rslv_cons, rslv_nil, List.getElem?_toArray, List.getElem?_cons_zero, List.getElem?_cons_succ, gres]
      (refine seqX_hide2 fun R hR => ?_; simp [go_sem, g8, g9, g10, hj, hw1, bc hP u1, u1, h1]; refine hR _ _ _ ?_; clear hR R)
      rw [seqX_nil]
      refine hK _ _ _ ?_; clear hK K
      refine hN11 _ _ _ ?_
      refine hX1 _ _ _ _ ?_
      simp [go_sem, g8, g9, g10, hj, hw1, bc hP u1, u1]
      exact ⟨FB.no _, View.le_refl _⟩
    refine xc_iffalse (by simp [go_sem, g8, g9, g10, hj, hw1, bc hP u1, u1, h1]) ?_
    refine hN8 _ _ _ ?_
    refine xc_reg1 2 rfl fun K hK => ?_
    simp only [show (List.range 2).map (·, true) = [(0, true), (1, true)] from rfl, rslv_cons, rslv_nil, List.getElem?_toArray, List.getElem?_cons_zero, List.getElem?_cons_succ, gres]
    iterate 2 (refine seqX_hide2 fun R hR => ?_; simp [go_sem, g8, g9, g10, hj, hw1, bc hP u1, u1, h1]; refine hR _ _ _ ?_; clear hR R)
    rw [seqX_nil]
    refine hK _ _ _ ?_; clear hK K
    refine hJ1 (l.length - (j + 1)) _ _ _ (by omega) ⟨j + 1, rfl, rfl, rfl, hP, by simp [go_sem, g8, g9, g10, hj, hw1, bc hP u1, u1], by simp [go_sem, g8, g9, g10, hj, hw1, bc hP u1, u1], by simp [go_sem, g8, g9, g10, hj, hw1, bc hP u1, u1], by omega⟩
  · skip
    refine xc_two fun N6 hN6 => ?_
    refine xc_reg1 1 rfl fun K hK => ?_
    simp only [show (List.range 1).map (·, true) = [(0, true)] from rfl, rslv_cons, rslv_nil, List.getElem?_toArray, List.getElem?_cons_zero, List.getElem?_cons_succ, gres]
    (refine seqX_hide2 fun R hR => ?_; simp [go_sem, g8, g9, g10, hj]; refine hR _ _ _ ?_; clear hR R)
    rw [seqX_nil]
    refine hK _ _ _ ?_; clear hK K
    refine hN6 _ _ _ ?_
    refine xc_two fun N7 hN7 => ?_
    refine xc_iffalse (by simp [go_sem, g8, g9, g10]) ?_
    refine hX1 _ _ _ _ ?_
    refine hN4 _ _ _ ?_
    refine xc_two fun N8 hN8 => ?_
    refine xc_reg1 1 rfl fun K hK => ?_
    simp only [show (List.range 1).map (·, true) = [(0, true)] from rfl, rslv_cons, rslv_nil, List.getElem?_toArray, List.getElem?_cons_zero, List.getElem?_cons_succ, gres]
    (refine seqX_hide2 fun R hR => ?_; simp [go_sem, g8, g9, g10]; refine hR _ _ _ ?_; clear hR R)
    rw [seqX_nil]
    refine hK _ _ _ ?_; clear hK K
    refine hN8 _ _ _ ?_
    simp [go_sem, g8, g9, g10]
    exact ⟨FB.yes trivial, View.le_refl _⟩
set_option maxRecDepth 20000 in
set_option maxHeartbeats 4000000 in
theorem fits61 (A : View) (v : Value) (l : List Imp) (h : Imps A v l) : VCalls Try.prog 61 #[v] A fun r A' => FB (∀ i ∈ l, IZ i) r ∧ A ≤ A' := by
  obtain ⟨bs, cp, rfl, hel⟩ := h
  refine xcalls Try.func61 rfl (by simp [Try.ntmps61]) ?_
  simp only [Try.f61]
  have hP : Priv A (addrs []) := Priv.nil A
  show xc _ _ _ _ _ _ (ov A [])
  refine xc_two fun N1 hN1 => ?_
  refine xc_reg1 1 rfl fun K hK => ?_
  simp only [show (List.range 1).map (·, true) = [(0, true)] from rfl, rslv_cons, rslv_nil, List.getElem?_toArray, List.getElem?_cons_zero, List.getElem?_cons_succ, gres]
  (refine seqX_hide2 fun R hR => ?_; simp [go_sem]; refine hR _ _ _ ?_; clear hR R)
  rw [seqX_nil]
  refine hK _ _ _ ?_; clear hK K
  refine hN1 _ _ _ ?_
  refine xc_two fun N2 hN2 => ?_
  refine xc_two fun N3 hN3 => ?_
  refine xc_reg1 3 rfl fun K hK => ?_
  simp only [show (List.range 3).map (·, true) = [(0, true), (1, true), (2, true)] from rfl, rslv_cons, rslv_nil, List.getElem?_toArray, List.getElem?_cons_zero, List.getElem?_cons_succ, gres]
  iterate 3 (refine seqX_hide2 fun R hR => ?_; simp [go_sem]; refine hR _ _ _ ?_; clear hR R)
  rw [seqX_nil]
  refine hK _ _ _ ?_; clear hK K
  refine hN3 _ _ _ ?_
  rcases Int.lt_or_le 2147483647 (l.length : Int) with h0 | h0
  · skip
    refine xc_iftrue (by simp [go_sem, h0]) ?_
    refine xc_two fun N4 hN4 => ?_
    refine xc_reg1 1 rfl fun K hK => ?_
    simp only [show (List.range 1).map (·, true) = [(0, true)] from rfl, rslv_cons, rslv_nil, List.getElem?_toArray, List.getElem?_cons_zero, List.getElem?_cons_succ, gres]
    (refine seqX_hide2 fun R hR => ?_; simp [go_sem, h0]; refine hR _ _ _ ?_; clear hR R)
    rw [seqX_nil]
    refine hK _ _ _ ?_; clear hK K
    refine hN4 _ _ _ ?_
    simp [go_sem]
    exact ⟨FB.no _, View.le_refl _⟩
  refine xc_iffalse (by simp [go_sem, h0]) ?_
  refine hN2 _ _ _ ?_
  refine xc_two fun N4 hN4 => ?_
  refine xc_two fun N5 hN5 => ?_
  refine xc_reg1 3 rfl fun K hK => ?_
  simp only [show (List.range 3).map (·, true) = [(0, true), (1, true), (2, true)] from rfl, rslv_cons, rslv_nil, List.getElem?_toArray, List.getElem?_cons_zero, List.getElem?_cons_succ, gres]
  iterate 3 (refine seqX_hide2 fun R hR => ?_; simp [go_sem, h0]; refine hR _ _ _ ?_; clear hR R)
  rw [seqX_nil]
  refine hK _ _ _ ?_; clear hK K
  refine hN5 _ _ _ ?_
  rw [xc_block]
  rw [xc_loop]
  refine vloopK (fun k' e ds A' => ∃ (j : Nat) (D : View), k' = l.length - j ∧ ds = [] ∧ A' = ov D [] ∧ Priv D [] ∧ e 8 = .slice bs l.length cp ∧ e 9 = .int .i64 l.length ∧ e 10 = .int .i64 j ∧ (j ≤ l.length) ∧ (A ≤ D) ∧ (∀ i ∈ l.take j, IZ i)) _ ⟨0, A, rfl, rfl, rfl, hP, by simp [go_sem], by simp [go_sem], by simp [go_sem], by omega, View.le_refl _, fun w hw => by simp at hw⟩ ?_
  clear hP
  rintro k' e ds A' ⟨j, D, rfl, rfl, hV, hP, g8, g9, g10, hjl, hAD, hq⟩ J1 X1 hJ1 hX1
  refine xc_sound _ ?_
  replace hV := Eq.symm hV; subst hV; replace hP : Priv D (addrs []) := hP
  have hw1 := wrap_nat (i := j) (by omega)
  by_cases hj : j < l.length
  · obtain ⟨a, ci, rfl, u1, hci⟩ := hel j hj
    have u1 := le_cells hAD _ _ _ u1
    have hci : ci = impc l[j] := hci
    subst hci
    refine xc_two fun N6 hN6 => ?_
    refine xc_reg1 1 rfl fun K hK => ?_
    simp only [show (List.range 1).map (·, true) = [(0, true)] from rfl, rslv_cons, rslv_nil, List.getElem?_toArray, List.getElem?_cons_zero, List.getElem?_cons_succ, gres]
    (refine seqX_hide2 fun R hR => ?_; simp [go_sem, g8, g9, g10, hj, hw1, bcs hP u1, u1, impc]; refine hR _ _ _ ?_; clear hR R)
    rw [seqX_nil]
    refine hK _ _ _ ?_; clear hK K
    refine hN6 _ _ _ ?_
    refine xc_two fun N7 hN7 => ?_
    refine xc_iftrue (by simp [go_sem, g8, g9, g10, hj, hw1, bcs hP u1, u1, impc]) ?_
    refine hN7 _ _ _ ?_
    refine xc_two fun N8 hN8 => ?_
    rw [xc_block]
    refine xc_two fun N9 hN9 => ?_
    refine xc_reg1 4 rfl fun K hK => ?_
    simp only [show (List.range 4).map (·, true) = [(0, true), (1, true), (2, true), (3, true)] from rfl, rslv_cons, rslv_nil, List.getElem?_toArray, List.getElem?_cons_zero, List.getElem?_cons_succ, gres]
    iterate 2 (refine seqX_hide2 fun R hR => ?_; simp [go_sem, g8, g9, g10, hj, hw1, bcs hP u1, u1, impc]; refine hR _ _ _ ?_; clear hR R)
    refine seqX_hide2 fun R hR => ?_
    simp [go_sem, g8, g9, g10, hj, hw1, bcs hP u1, u1, impc]
    intro q4 hq4
    replace hP := hP.cons hq4
    clear hq4
    refine hR _ _ _ ?_; clear hR R
    refine seqX_hide2 fun R hR => ?_
    simp [go_sem, g8, g9, g10, hj, hw1, bcs hP u1, u1, impc]
    refine hR _ _ _ ?_; clear hR R
    rw [seqX_nil]
    refine hK _ _ _ ?_; clear hK K
    refine hN9 _ _ _ ?_
    refine xc_two fun N10 hN10 => ?_
    refine xc_reg1 3 rfl fun K hK => ?_
    simp only [show (List.range 3).map (·, true) = [(0, true), (1, true), (2, true)] from rfl, rslv_cons, rslv_nil, List.getElem?_toArray, List.getElem?_cons_zero, List.getElem?_cons_succ, gres]
    (refine seqX_hide2 fun R hR => ?_; simp [go_sem, g8, g9, g10, hj, hw1, bcs hP u1, u1, impc]; refine hR _ _ _ ?_; clear hR R)
    refine seqX_hide2 fun R hR => ?_
    simp [go_sem, g8, g9, g10, hj, hw1, bcs hP u1, u1, impc]
    refine call_ov hP (fits76 D l[j]) ?_
    clear hP
    rintro _ D1 ⟨⟨q, rfl, hq1⟩, hD1⟩ hP
    cases q with
    | false =>
      refine hR _ _ _ ?_; clear hR R
      (refine seqX_hide2 fun R hR => ?_; simp [go_sem, g8, g9, g10, hj, hw1, impc]; refine hR _ _ _ ?_; clear hR R)
      rw [seqX_nil]
      refine hK _ _ _ ?_; clear hK K
      refine hN10 _ _ _ ?_
      refine xc_iftrue (by simp [go_sem, g8, g9, g10, hj, hw1, impc]) ?_
      refine xc_two fun N11 hN11 => ?_
      refine xc_reg1 1 rfl fun K hK => ?_
      simp only [show (List.range 1).map (·, true) = [(0, true)] from rfl, rslv_cons, rslv_nil, List.getElem?_toArray, List.getElem?_cons_zero, List.getElem?_cons_succ, gres]
      (refine seqX_hide2 fun R hR => ?_; simp [go_sem, g8, g9, g10, hj, hw1, impc]; refine hR _ _ _ ?_; clear hR R)
      rw [seqX_nil]
      refine hK _ _ _ ?_; clear hK K
      refine hN11 _ _ _ ?_
      refine hX1 _ _ _ _ ?_
      simp [go_sem, g8, g9, g10, hj, hw1, impc]
      refine ⟨FB.no _, View.le_trans hAD (View.le_trans hD1 ?_)⟩
      exact le_ov hP
    | true =>
      refine hR _ _ _ ?_; clear hR R
      (refine seqX_hide2 fun R hR => ?_; simp [go_sem, g8, g9, g10, hj, hw1, impc]; refine hR _ _ _ ?_; clear hR R)
      rw [seqX_nil]
      refine hK _ _ _ ?_; clear hK K
      refine hN10 _ _ _ ?_
      refine xc_iffalse (by simp [go_sem, g8, g9, g10, hj, hw1, impc]) ?_
      refine hN8 _ _ _ ?_
      refine xc_reg1 2 rfl fun K hK => ?_
      simp only [show (List.range 2).map (·, true) = [(0, true), (1, true)] from rfl, rslv_cons, rslv_nil, List.getElem?_toArray, List.getElem?_cons_zero, List.getElem?_cons_succ, gres]
      iterate 2 (refine seqX_hide2 fun R hR => ?_; simp [go_sem, g8, g9, g10, hj, hw1, impc]; refine hR _ _ _ ?_; clear hR R)
      rw [seqX_nil]
      refine hK _ _ _ ?_; clear hK K
      refine sink_goal 0 hP rfl fun hPn lq4 nq4 => ?_
      clear hP; have hP := hPn; clear hPn
      simp only [List.eraseIdx_cons_zero, List.eraseIdx_cons_succ, addrs_cons, addrs_nil] at hP ⊢
      refine hJ1 (l.length - (j + 1)) _ _ _ (by omega) ⟨j + 1, _, rfl, rfl, rfl, hP, by simp [go_sem, g8, g9, g10, hj, hw1, impc], by simp [go_sem, g8, g9, g10, hj, hw1, impc], by simp [go_sem, g8, g9, g10, hj, hw1, impc], by omega, View.le_trans hAD (View.le_trans hD1 lq4), fun w hw => ?_⟩
      rw [List.take_succ_eq_append_getElem hj, List.mem_append, List.mem_singleton] at hw
      rcases hw with hw | rfl
      · exact hq w hw
      · exact hq1 rfl
  · skip
    refine xc_two fun N6 hN6 => ?_
    refine xc_reg1 1 rfl fun K hK => ?_
    simp only [show (List.range 1).map (·, true) = [(0, true)] from rfl, rslv_cons, rslv_nil, List.getElem?_toArray, List.getElem?_cons_zero, List.getElem?_cons_succ, gres]
    (refine seqX_hide2 fun R hR => ?_; simp [go_sem, g8, g9, g10, hj]; refine hR _ _ _ ?_; clear hR R)
    rw [seqX_nil]
    refine hK _ _ _ ?_; clear hK K
    refine hN6 _ _ _ ?_
    refine xc_two fun N7 hN7 => ?_
    refine xc_iffalse (by simp [go_sem, g8, g9, g10]) ?_
    refine hX1 _ _ _ _ ?_
    refine hN4 _ _ _ ?_
    refine xc_two fun N8 hN8 => ?_
    refine xc_reg1 1 rfl fun K hK => ?_
    simp only [show (List.range 1).map (·, true) = [(0, true)] from rfl, rslv_cons, rslv_nil, List.getElem?_toArray, List.getElem?_cons_zero, List.getElem?_cons_succ, gres]
    (refine seqX_hide2 fun R hR => ?_; simp [go_sem, g8, g9, g10]; refine hR _ _ _ ?_; clear hR R)
    rw [seqX_nil]
    refine hK _ _ _ ?_; clear hK K
    refine hN8 _ _ _ ?_
    simp [go_sem, g8, g9, g10]
    rw [List.take_of_length_le (by omega)] at hq
    exact ⟨FB.yes hq, hAD⟩
set_option maxRecDepth 20000 in
set_option maxHeartbeats 4000000 in
theorem fits31 (A : View) (w : Wt) (c : Array Value) (h : IsW A w c) : VCalls Try.prog 31 #[.agg c] A fun r A' => FB (WZ w) r ∧ A ≤ A' := by
  obtain ⟨n, ve, co, al, tags, en, imps⟩ := w
  obtain ⟨tg, im, rfl, ht, hi⟩ := h
  obtain ⟨b1, c1, rfl⟩ := ht.slice
  obtain ⟨b2, c2, rfl⟩ := hi.slice
  refine xcalls Try.func31 rfl (by simp [Try.ntmps31]) ?_
  simp only [Try.f31]
  have hP : Priv A (addrs []) := Priv.nil A
  show xc _ _ _ _ _ _ (ov A [])
  refine xc_two fun N1 hN1 => ?_
  refine xc_reg1 2 rfl fun K hK => ?_
  simp only [show (List.range 2).map (·, true) = [(0, true), (1, true)] from rfl, rslv_cons, rslv_nil, List.getElem?_toArray, List.getElem?_cons_zero, List.getElem?_cons_succ, gres]
  refine seqX_hide2 fun R hR => ?_
  simp [go_sem]
  intro q1 hq1
  replace hP := hP.cons hq1
  clear hq1
  refine hR _ _ _ ?_; clear hR R
  (refine seqX_hide2 fun R hR => ?_; simp [go_sem]; refine hR _ _ _ ?_; clear hR R)
  rw [seqX_nil]
  refine hK _ _ _ ?_; clear hK K
  refine hN1 _ _ _ ?_
  refine xc_two fun N2 hN2 => ?_
  refine xc_two fun N3 hN3 => ?_
  refine xc_reg1 4 rfl fun K hK => ?_
  simp only [show (List.range 4).map (·, true) = [(0, true), (1, true), (2, true), (3, true)] from rfl, rslv_cons, rslv_nil, List.getElem?_toArray, List.getElem?_cons_zero, List.getElem?_cons_succ, gres]
  iterate 4 (refine seqX_hide2 fun R hR => ?_; simp [go_sem]; refine hR _ _ _ ?_; clear hR R)
  rw [seqX_nil]
  refine hK _ _ _ ?_; clear hK K
  refine hN3 _ _ _ ?_
  rcases Int.lt_or_le 2147483647 (n.size : Int) with h1 | h1
  · skip
    refine xc_iftrue (by simp [go_sem, h1]) ?_
    refine xc_two fun N4 hN4 => ?_
    refine xc_reg1 1 rfl fun K hK => ?_
    simp only [show (List.range 1).map (·, true) = [(0, true)] from rfl, rslv_cons, rslv_nil, List.getElem?_toArray, List.getElem?_cons_zero, List.getElem?_cons_succ, gres]
    (refine seqX_hide2 fun R hR => ?_; simp [go_sem, h1]; refine hR _ _ _ ?_; clear hR R)
    rw [seqX_nil]
    refine hK _ _ _ ?_; clear hK K
    refine hN4 _ _ _ ?_
    simp [go_sem]
    refine ⟨FB.no _, ?_⟩
    exact le_ov hP
  refine xc_iffalse (by simp [go_sem, h1]) ?_
  refine hN2 _ _ _ ?_
  refine xc_two fun N4 hN4 => ?_
  refine xc_two fun N5 hN5 => ?_
  refine xc_reg1 4 rfl fun K hK => ?_
  simp only [show (List.range 4).map (·, true) = [(0, true), (1, true), (2, true), (3, true)] from rfl, rslv_cons, rslv_nil, List.getElem?_toArray, List.getElem?_cons_zero, List.getElem?_cons_succ, gres]
  iterate 4 (refine seqX_hide2 fun R hR => ?_; simp [go_sem, h1]; refine hR _ _ _ ?_; clear hR R)
  rw [seqX_nil]
  refine hK _ _ _ ?_; clear hK K
  refine hN5 _ _ _ ?_
  rcases Int.lt_or_le 2147483647 (ve.size : Int) with h2 | h2
  · skip
    refine xc_iftrue (by simp [go_sem, h2]) ?_
    refine xc_two fun N6 hN6 => ?_
    refine xc_reg1 1 rfl fun K hK => ?_
    simp only [show (List.range 1).map (·, true) = [(0, true)] from rfl, rslv_cons, rslv_nil, List.getElem?_toArray, List.getElem?_cons_zero, List.getElem?_cons_succ, gres]
    (refine seqX_hide2 fun R hR => ?_; simp [go_sem, h2]; refine hR _ _ _ ?_; clear hR R)
    rw [seqX_nil]
    refine hK _ _ _ ?_; clear hK K
    refine hN6 _ _ _ ?_
    simp [go_sem]
    refine ⟨FB.no _, ?_⟩
    exact le_ov hP
  refine xc_iffalse (by simp [go_sem, h2]) ?_
  refine hN4 _ _ _ ?_
  refine xc_two fun N6 hN6 => ?_
  refine xc_two fun N7 hN7 => ?_
  refine xc_reg1 4 rfl fun K hK => ?_
  simp only [show (List.range 4).map (·, true) = [(0, true), (1, true), (2, true), (3, true)] from rfl, rslv_cons, rslv_nil, List.getElem?_toArray, List.getElem?_cons_zero, List.getElem?_cons_succ, gres]
  iterate 4 (refine seqX_hide2 fun R hR => ?_; simp [go_sem, h2]; refine hR _ _ _ ?_; clear hR R)
  rw [seqX_nil]
  refine hK _ _ _ ?_; clear hK K
  refine hN7 _ _ _ ?_
  rcases Int.lt_or_le 2147483647 (co.size : Int) with h3 | h3
  · skip
    refine xc_iftrue (by simp [go_sem, h3]) ?_
    refine xc_two fun N8 hN8 => ?_
    refine xc_reg1 1 rfl fun K hK => ?_
    simp only [show (List.range 1).map (·, true) = [(0, true)] from rfl, rslv_cons, rslv_nil, List.getElem?_toArray, List.getElem?_cons_zero, List.getElem?_cons_succ, gres]
    (refine seqX_hide2 fun R hR => ?_; simp [go_sem, h3]; refine hR _ _ _ ?_; clear hR R)
    rw [seqX_nil]
    refine hK _ _ _ ?_; clear hK K
    refine hN8 _ _ _ ?_
    simp [go_sem]
    refine ⟨FB.no _, ?_⟩
    exact le_ov hP
  refine xc_iffalse (by simp [go_sem, h3]) ?_
  refine hN6 _ _ _ ?_
  refine xc_two fun N8 hN8 => ?_
  refine xc_two fun N9 hN9 => ?_
  refine xc_reg1 4 rfl fun K hK => ?_
  simp only [show (List.range 4).map (·, true) = [(0, true), (1, true), (2, true), (3, true)] from rfl, rslv_cons, rslv_nil, List.getElem?_toArray, List.getElem?_cons_zero, List.getElem?_cons_succ, gres]
  iterate 4 (refine seqX_hide2 fun R hR => ?_; simp [go_sem, h3]; refine hR _ _ _ ?_; clear hR R)
  rw [seqX_nil]
  refine hK _ _ _ ?_; clear hK K
  refine hN9 _ _ _ ?_
  rcases Int.lt_or_le 2147483647 (al.size : Int) with h4 | h4
  · skip
    refine xc_iftrue (by simp [go_sem, h4]) ?_
    refine xc_two fun N10 hN10 => ?_
    refine xc_reg1 1 rfl fun K hK => ?_
    simp only [show (List.range 1).map (·, true) = [(0, true)] from rfl, rslv_cons, rslv_nil, List.getElem?_toArray, List.getElem?_cons_zero, List.getElem?_cons_succ, gres]
    (refine seqX_hide2 fun R hR => ?_; simp [go_sem, h4]; refine hR _ _ _ ?_; clear hR R)
    rw [seqX_nil]
    refine hK _ _ _ ?_; clear hK K
    refine hN10 _ _ _ ?_
    simp [go_sem]
    refine ⟨FB.no _, ?_⟩
    exact le_ov hP
  refine xc_iffalse (by simp [go_sem, h4]) ?_
  refine hN8 _ _ _ ?_
  refine xc_two fun N10 hN10 => ?_
  refine xc_two fun N11 hN11 => ?_
  refine xc_reg1 4 rfl fun K hK => ?_
  simp only [show (List.range 4).map (·, true) = [(0, true), (1, true), (2, true), (3, true)] from rfl, rslv_cons, rslv_nil, List.getElem?_toArray, List.getElem?_cons_zero, List.getElem?_cons_succ, gres]
  iterate 2 (refine seqX_hide2 fun R hR => ?_; simp [go_sem, h4]; refine hR _ _ _ ?_; clear hR R)
  refine seqX_hide2 fun R hR => ?_
  simp [go_sem, h4]
  refine call_ov hP (fits32t A _ _ ht) ?_
  clear hP
  rintro _ A1 ⟨⟨q, rfl, -⟩, hA1⟩ hP
  cases q with
  | false =>
    refine hR _ _ _ ?_; clear hR R
    (refine seqX_hide2 fun R hR => ?_; simp [go_sem]; refine hR _ _ _ ?_; clear hR R)
    rw [seqX_nil]
    refine hK _ _ _ ?_; clear hK K
    refine hN11 _ _ _ ?_
    refine xc_iftrue (by simp [go_sem]) ?_
    refine xc_two fun N12 hN12 => ?_
    refine xc_reg1 1 rfl fun K hK => ?_
    simp only [show (List.range 1).map (·, true) = [(0, true)] from rfl, rslv_cons, rslv_nil, List.getElem?_toArray, List.getElem?_cons_zero, List.getElem?_cons_succ, gres]
    (refine seqX_hide2 fun R hR => ?_; simp [go_sem]; refine hR _ _ _ ?_; clear hR R)
    rw [seqX_nil]
    refine hK _ _ _ ?_; clear hK K
    refine hN12 _ _ _ ?_
    simp [go_sem]
    refine ⟨FB.no _, View.le_trans hA1 ?_⟩
    exact le_ov hP
  | true =>
  refine hR _ _ _ ?_; clear hR R
  (refine seqX_hide2 fun R hR => ?_; simp [go_sem]; refine hR _ _ _ ?_; clear hR R)
  rw [seqX_nil]
  refine hK _ _ _ ?_; clear hK K
  refine hN11 _ _ _ ?_
  refine xc_iffalse (by simp [go_sem]) ?_
  refine hN10 _ _ _ ?_
  refine xc_two fun N12 hN12 => ?_
  refine xc_two fun N13 hN13 => ?_
  refine xc_reg1 4 rfl fun K hK => ?_
  simp only [show (List.range 4).map (·, true) = [(0, true), (1, true), (2, true), (3, true)] from rfl, rslv_cons, rslv_nil, List.getElem?_toArray, List.getElem?_cons_zero, List.getElem?_cons_succ, gres]
  iterate 2 (refine seqX_hide2 fun R hR => ?_; simp [go_sem]; refine hR _ _ _ ?_; clear hR R)
  refine seqX_hide2 fun R hR => ?_
  simp [go_sem]
  refine call_ov hP (fits61 A1 _ _ (hi.le hA1)) ?_
  clear hP
  rintro _ A2 ⟨⟨q, rfl, hq2⟩, hA2⟩ hP
  have hA := View.le_trans hA1 hA2
  cases q with
  | false =>
    refine hR _ _ _ ?_; clear hR R
    (refine seqX_hide2 fun R hR => ?_; simp [go_sem]; refine hR _ _ _ ?_; clear hR R)
    rw [seqX_nil]
    refine hK _ _ _ ?_; clear hK K
    refine hN13 _ _ _ ?_
    refine xc_iftrue (by simp [go_sem]) ?_
    refine xc_two fun N14 hN14 => ?_
    refine xc_reg1 1 rfl fun K hK => ?_
    simp only [show (List.range 1).map (·, true) = [(0, true)] from rfl, rslv_cons, rslv_nil, List.getElem?_toArray, List.getElem?_cons_zero, List.getElem?_cons_succ, gres]
    (refine seqX_hide2 fun R hR => ?_; simp [go_sem]; refine hR _ _ _ ?_; clear hR R)
    rw [seqX_nil]
    refine hK _ _ _ ?_; clear hK K
    refine hN14 _ _ _ ?_
    simp [go_sem]
    refine ⟨FB.no _, View.le_trans hA ?_⟩
    exact le_ov hP
  | true =>
  refine hR _ _ _ ?_; clear hR R
  (refine seqX_hide2 fun R hR => ?_; simp [go_sem]; refine hR _ _ _ ?_; clear hR R)
  rw [seqX_nil]
  refine hK _ _ _ ?_; clear hK K
  refine hN13 _ _ _ ?_
  refine xc_iffalse (by simp [go_sem]) ?_
  refine hN12 _ _ _ ?_
  refine xc_two fun N14 hN14 => ?_
  refine xc_reg1 1 rfl fun K hK => ?_
  simp only [show (List.range 1).map (·, true) = [(0, true)] from rfl, rslv_cons, rslv_nil, List.getElem?_toArray, List.getElem?_cons_zero, List.getElem?_cons_succ, gres]
  (refine seqX_hide2 fun R hR => ?_; simp [go_sem]; refine hR _ _ _ ?_; clear hR R)
  rw [seqX_nil]
  refine hK _ _ _ ?_; clear hK K
  refine hN14 _ _ _ ?_
  simp [go_sem]
  refine ⟨FB.yes ⟨?_, hq2 rfl⟩, View.le_trans hA ?_⟩
  · show ve.size ≤ 2147483647
    omega
  · exact le_ov hP
set_option maxRecDepth 20000 in
set_option maxHeartbeats 4000000 in
theorem fits9 (A : View) (v : Value) (l : List Wt) (h : Wants A v l) : VCalls Try.prog 9 #[v] A fun r A' => FB (l.length ≤ 2147483647 ∧ ∀ w ∈ l, WZ w) r ∧ A ≤ A' := by
  obtain ⟨bs, cp, rfl, hel⟩ := h
  refine xcalls Try.func9 rfl (by simp [Try.ntmps9]) ?_
  simp only [Try.f9]
  have hP : Priv A (addrs []) := Priv.nil A
  show xc _ _ _ _ _ _ (ov A [])
  refine xc_two fun N1 hN1 => ?_
  refine xc_reg1 1 rfl fun K hK => ?_
  simp only [show (List.range 1).map (·, true) = [(0, true)] from rfl, rslv_cons, rslv_nil, List.getElem?_toArray, List.getElem?_cons_zero, List.getElem?_cons_succ, gres]
  (refine seqX_hide2 fun R hR => ?_; simp [go_sem]; refine hR _ _ _ ?_; clear hR R)
  rw [seqX_nil]
  refine hK _ _ _ ?_; clear hK K
  refine hN1 _ _ _ ?_
  refine xc_two fun N2 hN2 => ?_
  refine xc_two fun N3 hN3 => ?_
  refine xc_reg1 3 rfl fun K hK => ?_
  simp only [show (List.range 3).map (·, true) = [(0, true), (1, true), (2, true)] from rfl, rslv_cons, rslv_nil, List.getElem?_toArray, List.getElem?_cons_zero, List.getElem?_cons_succ, gres]
  iterate 3 (refine seqX_hide2 fun R hR => ?_; simp [go_sem]; refine hR _ _ _ ?_; clear hR R)
  rw [seqX_nil]
  refine hK _ _ _ ?_; clear hK K
  refine hN3 _ _ _ ?_
  rcases Int.lt_or_le 2147483647 (l.length : Int) with h0 | h0
  · skip
    refine xc_iftrue (by simp [go_sem, h0]) ?_
    refine xc_two fun N4 hN4 => ?_
    refine xc_reg1 1 rfl fun K hK => ?_
    simp only [show (List.range 1).map (·, true) = [(0, true)] from rfl, rslv_cons, rslv_nil, List.getElem?_toArray, List.getElem?_cons_zero, List.getElem?_cons_succ, gres]
    (refine seqX_hide2 fun R hR => ?_; simp [go_sem, h0]; refine hR _ _ _ ?_; clear hR R)
    rw [seqX_nil]
    refine hK _ _ _ ?_; clear hK K
    refine hN4 _ _ _ ?_
    simp [go_sem]
    exact ⟨FB.no _, View.le_refl _⟩
  refine xc_iffalse (by simp [go_sem, h0]) ?_
  refine hN2 _ _ _ ?_
  refine xc_two fun N4 hN4 => ?_
  refine xc_two fun N5 hN5 => ?_
  refine xc_reg1 3 rfl fun K hK => ?_
  simp only [show (List.range 3).map (·, true) = [(0, true), (1, true), (2, true)] from rfl, rslv_cons, rslv_nil, List.getElem?_toArray, List.getElem?_cons_zero, List.getElem?_cons_succ, gres]
  iterate 3 (refine seqX_hide2 fun R hR => ?_; simp [go_sem, h0]; refine hR _ _ _ ?_; clear hR R)
  rw [seqX_nil]
  refine hK _ _ _ ?_; clear hK K
  refine hN5 _ _ _ ?_
  rw [xc_block]
  rw [xc_loop]
  refine vloopK (fun k' e ds A' => ∃ (j : Nat) (D : View), k' = l.length - j ∧ ds = [] ∧ A' = ov D [] ∧ Priv D [] ∧ e 8 = .slice bs l.length cp ∧ e 9 = .int .i64 l.length ∧ e 10 = .int .i64 j ∧ (j ≤ l.length) ∧ (A ≤ D) ∧ (∀ w ∈ l.take j, WZ w)) _ ⟨0, A, rfl, rfl, rfl, hP, by simp [go_sem], by simp [go_sem], by simp [go_sem], by omega, View.le_refl _, fun w hw => by simp at hw⟩ ?_
  clear hP
  rintro k' e ds A' ⟨j, D, rfl, rfl, hV, hP, g8, g9, g10, hjl, hAD, hq⟩ J1 X1 hJ1 hX1
  refine xc_sound _ ?_
  replace hV := Eq.symm hV; subst hV; replace hP : Priv D (addrs []) := hP
  have hw1 := wrap_nat (i := j) (by omega)
  by_cases hj : j < l.length
  · obtain ⟨a, ci, rfl, u1, hci⟩ := hel j hj
    have u1 := le_cells hAD _ _ _ u1
    have hcz := hci.size
    have hco := hci.ones
    refine xc_two fun N6 hN6 => ?_
    refine xc_reg1 1 rfl fun K hK => ?_
    simp only [show (List.range 1).map (·, true) = [(0, true)] from rfl, rslv_cons, rslv_nil, List.getElem?_toArray, List.getElem?_cons_zero, List.getElem?_cons_succ, gres]
    (refine seqX_hide2 fun R hR => ?_; simp [go_sem, g8, g9, g10, hj, hw1, bcs hP u1, u1, hcz, hco]; refine hR _ _ _ ?_; clear hR R)
    rw [seqX_nil]
    refine hK _ _ _ ?_; clear hK K
    refine hN6 _ _ _ ?_
    refine xc_two fun N7 hN7 => ?_
    refine xc_iftrue (by simp [go_sem, g8, g9, g10, hj, hw1, bcs hP u1, u1, hcz, hco]) ?_
    refine hN7 _ _ _ ?_
    refine xc_two fun N8 hN8 => ?_
    rw [xc_block]
    refine xc_two fun N9 hN9 => ?_
    refine xc_reg1 4 rfl fun K hK => ?_
    simp only [show (List.range 4).map (·, true) = [(0, true), (1, true), (2, true), (3, true)] from rfl, rslv_cons, rslv_nil, List.getElem?_toArray, List.getElem?_cons_zero, List.getElem?_cons_succ, gres]
    iterate 2 (refine seqX_hide2 fun R hR => ?_; simp [go_sem, g8, g9, g10, hj, hw1, bcs hP u1, u1, hcz, hco]; refine hR _ _ _ ?_; clear hR R)
    refine seqX_hide2 fun R hR => ?_
    simp [go_sem, g8, g9, g10, hj, hw1, bcs hP u1, u1, hcz, hco]
    intro q4 hq4
    replace hP := hP.cons hq4
    clear hq4
    refine hR _ _ _ ?_; clear hR R
    refine seqX_hide2 fun R hR => ?_
    simp [go_sem, g8, g9, g10, hj, hw1, bcs hP u1, u1, hcz, hco]
    refine hR _ _ _ ?_; clear hR R
    rw [seqX_nil]
    refine hK _ _ _ ?_; clear hK K
    refine hN9 _ _ _ ?_
    refine xc_two fun N10 hN10 => ?_
    refine xc_reg1 3 rfl fun K hK => ?_
    simp only [show (List.range 3).map (·, true) = [(0, true), (1, true), (2, true)] from rfl, rslv_cons, rslv_nil, List.getElem?_toArray, List.getElem?_cons_zero, List.getElem?_cons_succ, gres]
    (refine seqX_hide2 fun R hR => ?_; simp [go_sem, g8, g9, g10, hj, hw1, bcs hP u1, u1, hcz, hco]; refine hR _ _ _ ?_; clear hR R)
    refine seqX_hide2 fun R hR => ?_
    simp [go_sem, g8, g9, g10, hj, hw1, bcs hP u1, u1, hcz, hco]
    refine call_ov hP (fits31 D l[j] ci (hci.le hAD)) ?_
    clear hP
    rintro _ D1 ⟨⟨q, rfl, hq1⟩, hD1⟩ hP
    cases q with
    | false =>
      refine hR _ _ _ ?_; clear hR R
      (refine seqX_hide2 fun R hR => ?_; simp [go_sem, g8, g9, g10, hj, hw1, hcz, hco]; refine hR _ _ _ ?_; clear hR R)
      rw [seqX_nil]
      refine hK _ _ _ ?_; clear hK K
      refine hN10 _ _ _ ?_
      refine xc_iftrue (by simp [go_sem, g8, g9, g10, hj, hw1, hcz, hco]) ?_
      refine xc_two fun N11 hN11 => ?_
      refine xc_reg1 1 rfl fun K hK => ?_
      simp only [show (List.range 1).map (·, true) = [(0, true)] from rfl, rslv_cons, rslv_nil, List.getElem?_toArray, List.getElem?_cons_zero, List.getElem?_cons_succ, gres]
      (refine seqX_hide2 fun R hR => ?_; simp [go_sem, g8, g9, g10, hj, hw1, hcz, hco]; refine hR _ _ _ ?_; clear hR R)
      rw [seqX_nil]
      refine hK _ _ _ ?_; clear hK K
      refine hN11 _ _ _ ?_
      refine hX1 _ _ _ _ ?_
      simp [go_sem, g8, g9, g10, hj, hw1, hcz, hco]
      refine ⟨FB.no _, View.le_trans hAD (View.le_trans hD1 ?_)⟩
      exact le_ov hP
    | true =>
      refine hR _ _ _ ?_; clear hR R
      (refine seqX_hide2 fun R hR => ?_; simp [go_sem, g8, g9, g10, hj, hw1, hcz, hco]; refine hR _ _ _ ?_; clear hR R)
      rw [seqX_nil]
      refine hK _ _ _ ?_; clear hK K
      refine hN10 _ _ _ ?_
      refine xc_iffalse (by simp [go_sem, g8, g9, g10, hj, hw1, hcz, hco]) ?_
      refine hN8 _ _ _ ?_
      refine xc_reg1 2 rfl fun K hK => ?_
      simp only [show (List.range 2).map (·, true) = [(0, true), (1, true)] from rfl, rslv_cons, rslv_nil, List.getElem?_toArray, List.getElem?_cons_zero, List.getElem?_cons_succ, gres]
      iterate 2 (refine seqX_hide2 fun R hR => ?_; simp [go_sem, g8, g9, g10, hj, hw1, hcz, hco]; refine hR _ _ _ ?_; clear hR R)
      rw [seqX_nil]
      refine hK _ _ _ ?_; clear hK K
      refine sink_goal 0 hP rfl fun hPn lq4 nq4 => ?_
      clear hP; have hP := hPn; clear hPn
      simp only [List.eraseIdx_cons_zero, List.eraseIdx_cons_succ, addrs_cons, addrs_nil] at hP ⊢
      refine hJ1 (l.length - (j + 1)) _ _ _ (by omega) ⟨j + 1, _, rfl, rfl, rfl, hP, by simp [go_sem, g8, g9, g10, hj, hw1, hcz, hco], by simp [go_sem, g8, g9, g10, hj, hw1, hcz, hco], by simp [go_sem, g8, g9, g10, hj, hw1, hcz, hco], by omega, View.le_trans hAD (View.le_trans hD1 lq4), fun w hw => ?_⟩
      rw [List.take_succ_eq_append_getElem hj, List.mem_append, List.mem_singleton] at hw
      rcases hw with hw | rfl
      · exact hq w hw
      · exact hq1 rfl
  · skip
    refine xc_two fun N6 hN6 => ?_
    refine xc_reg1 1 rfl fun K hK => ?_
    simp only [show (List.range 1).map (·, true) = [(0, true)] from rfl, rslv_cons, rslv_nil, List.getElem?_toArray, List.getElem?_cons_zero, List.getElem?_cons_succ, gres]
    (refine seqX_hide2 fun R hR => ?_; simp [go_sem, g8, g9, g10, hj]; refine hR _ _ _ ?_; clear hR R)
    rw [seqX_nil]
    refine hK _ _ _ ?_; clear hK K
    refine hN6 _ _ _ ?_
    refine xc_two fun N7 hN7 => ?_
    refine xc_iffalse (by simp [go_sem, g8, g9, g10]) ?_
    refine hX1 _ _ _ _ ?_
    refine hN4 _ _ _ ?_
    refine xc_two fun N8 hN8 => ?_
    refine xc_reg1 1 rfl fun K hK => ?_
    simp only [show (List.range 1).map (·, true) = [(0, true)] from rfl, rslv_cons, rslv_nil, List.getElem?_toArray, List.getElem?_cons_zero, List.getElem?_cons_succ, gres]
    (refine seqX_hide2 fun R hR => ?_; simp [go_sem, g8, g9, g10]; refine hR _ _ _ ?_; clear hR R)
    rw [seqX_nil]
    refine hK _ _ _ ?_; clear hK K
    refine hN8 _ _ _ ?_
    simp [go_sem, g8, g9, g10]
    rw [List.take_of_length_le (by omega)] at hq
    exact ⟨FB.yes ⟨by omega, hq⟩, hAD⟩
end Go.Proofs.YtogfpbnbojhpoaaV

/- Trees: spec.Place. -/
import Derived.Test.YtpinamipjddobaaKM
namespace Go.Proofs.YtpinamipjddobaaV
open Go.RowKit
set_option linter.unusedSimpArgs false
set_option linter.unusedVariables false
/-- A key stands there. -/
def PlcAt (kids : List Tr) (s : ByteArray) (i : Nat) : Prop := ∃ (h : i + 1 < kids.length), i % 2 = 0 ∧ (kids[i]'(by omega)).value = s
def PlcR (kids : List Tr) (s : ByteArray) (r : Value) : Prop := (fld kids s = none ∧ (∀ j, ¬ PlcAt kids s j) ∧ r = .int .i64 (-1)) ∨ (∃ i, ∃ hi : i + 1 < kids.length, PlcAt kids s i ∧ fld kids s = some (kids[i + 1]) ∧ r = .int .i64 i)
set_option maxRecDepth 20000 in
theorem place14 (A : View) (t : Tr) (c : Array Value) (s : ByteArray) (hc : IsTr A t c) (hk : t.kind = 4) (hkl : t.kids.length ≤ 1000000) : VCalls Try.prog 14 #[.agg c, .string s] A fun r A' => PlcR t.kids s r ∧ A ≤ A' := by
  obtain ⟨k, st, tag, val, an, h, ln, f, row, col, al, kk, rfl⟩ := t.ex
  replace hkl : kk.length ≤ 1000000 := hkl
  replace hk : k = 4 := hk
  subst hk
  show VCalls Try.prog 14 #[.agg c, .string s] A fun r A' => PlcR kk s r ∧ A ≤ A'
  obtain ⟨bb, bc0, rfl, hT⟩ := hc.open
  refine xcalls Try.func14 rfl (by simp [Try.ntmps14]) ?_
  simp only [Try.f14]
  have hP : Priv A (addrs []) := Priv.nil A
  show xc _ _ _ _ _ _ (ov A [])
  refine xc_two fun N1 hN1 => ?_
  refine xc_reg2 fun K hK => ?_
  simp only [rall, rsl, gres]
  refine seqX_hide2 fun R hR => ?_
  simp [go_sem]
  intro q2 hq2
  replace hP := hP.cons hq2
  clear hq2
  refine hR _ _ _ ?_; clear hR R
  (refine seqX_hide2 fun R hR => ?_; simp [go_sem]; refine hR _ _ _ ?_; clear hR R)
  rw [seqX_nil]
  refine hK _ _ _ ?_; clear hK K
  refine hN1 _ _ _ ?_
  refine xc_two fun N2 hN2 => ?_
  refine xc_two fun N3 hN3 => ?_
  refine xc_reg2 fun K hK => ?_
  simp only [rall, rsl, gres]
  (refine seqX_hide2 fun R hR => ?_; simp [go_sem]; refine hR _ _ _ ?_; clear hR R)
  rw [seqX_nil]
  refine hK _ _ _ ?_; clear hK K
  refine hN3 _ _ _ ?_
  rw [xc_block]
  rw [xc_loop]
  refine vloopK (fun k' e ds A' => ∃ (i : Nat), k' = kk.length - i ∧ ds = [] ∧ A' = ov A [(q2, .cells (trc 4 st tag val an h ln f row col al (.slice bb kk.length bc0)) 24 (0, 0))] ∧ Priv A [q2] ∧ e 1 = .string s ∧ e 2 = .pointer (some ⟨q2, 0, none⟩) ∧ e 5 = .int .i64 i ∧ (i ≤ kk.length + 1) ∧ (i % 2 = 0) ∧ (fld kk s = fld (kk.drop i) s) ∧ (∀ j, j < i → ¬ PlcAt kk s j)) _ ⟨0, rfl, rfl, rfl, hP, by simp [go_sem], by simp [go_sem], by simp [go_sem], by omega, rfl, rfl, fun j hj => by omega⟩ ?_
  clear hP
  rintro k' e ds _ ⟨i, rfl, rfl, rfl, hP, g1, g2, g5, hil, hi2, hfd, hno⟩ J1 X1 hJ1 hX1
  refine xc_sound _ ?_
  have hw1 : IntKind.i64.wrap ((i : Int) + 1) = ((i + 1 : Nat) : Int) := by rw [wrap_in (by omega) (by omega)]; omega
  have hw2 : IntKind.i64.wrap ((i : Int) + 2) = ((i + 2 : Nat) : Int) := by rw [wrap_in (by omega) (by omega)]; omega
  by_cases hi : i + 1 < kk.length
  rotate_left
  · have hii : ¬ (i : Int) + 1 < kk.length := by omega
    have hii2 : ¬ (((i + 1 : Nat) : Int) < kk.length) := by omega
    refine xc_two fun N4 hN4 => ?_
    refine xc_two fun N5 hN5 => ?_
    refine xc_reg2 fun K hK => ?_
    simp only [rall, rsl, gres]
    iterate 11 (refine seqX_hide2 fun R hR => ?_; simp [go_sem, g1, g2, g5, hw1, hw2, hi, hii, hii2]; refine hR _ _ _ ?_; clear hR R)
    rw [seqX_nil]
    refine hK _ _ _ ?_; clear hK K
    refine hN5 _ _ _ ?_
    refine xc_iffalse (by simp [go_sem, g1, g2, g5, hw1, hw2, hi, hii, hii2]) ?_
    refine hX1 _ _ _ _ ?_
    refine hN2 _ _ _ ?_
    refine xc_two fun N6 hN6 => ?_
    refine xc_reg2 fun K hK => ?_
    simp only [rall, rsl, gres]
    (refine seqX_hide2 fun R hR => ?_; simp [go_sem, g1, g2, g5, hw1, hw2, hi, hii, hii2]; refine hR _ _ _ ?_; clear hR R)
    rw [seqX_nil]
    refine hK _ _ _ ?_; clear hK K
    refine hN6 _ _ _ ?_
    simp [go_sem, g1, g2, g5, hw1, hw2, hi, hii, hii2]
    refine ⟨.inl ⟨by rw [hfd]; exact fld_short hi s, fun j hj => ?_, rfl⟩, le_ov hP⟩
    have h1 := hj.1
    exact hno j (by omega) hj
  have hii : (i : Int) + 1 < kk.length := by omega
  have hii2 : (((i + 1 : Nat) : Int) < kk.length) := by omega
  have hi0 : i < kk.length := by omega
  have hi0i : (i : Int) < kk.length := by omega
  have hfs := fld_step hi s
  rw [← hfd] at hfs
  obtain ⟨bs', cap', f1, hel2⟩ := hT
  simp only [Value.slice.injEq, true_and] at f1
  obtain ⟨rfl, rfl⟩ := f1
  obtain ⟨a2, c2, rfl, w2, hc2⟩ := hel2 i hi0
  obtain ⟨-, -, z3⟩ := hc2.at2
  have vj := cell_in w2 (by decide) (by decide) z3
  by_cases hv : s = (kk[i]).value
  · have hv' : kk[i].value.toList = s.toList := by rw [hv]
    rw [if_pos hv] at hfs
    refine xc_two fun N4 hN4 => ?_
    refine xc_two fun N5 hN5 => ?_
    refine xc_reg2 fun K hK => ?_
    simp only [rall, rsl, gres]
    iterate 11 (refine seqX_hide2 fun R hR => ?_; simp [go_sem, g1, g2, g5, hw1, hw2, hi, hii, hii2, hi0, hi0i, bc hP vj, hv']; refine hR _ _ _ ?_; clear hR R)
    rw [seqX_nil]
    refine hK _ _ _ ?_; clear hK K
    refine hN5 _ _ _ ?_
    refine xc_iftrue (by simp [go_sem, g1, g2, g5, hw1, hw2, hi, hii, hii2, hi0, hi0i, bc hP vj, hv']) ?_
    refine hN4 _ _ _ ?_
    refine xc_two fun N6 hN6 => ?_
    rw [xc_block]
    refine xc_two fun N7 hN7 => ?_
    refine xc_reg2 fun K hK => ?_
    simp only [rall, rsl, gres]
    iterate 8 (refine seqX_hide2 fun R hR => ?_; simp [go_sem, g1, g2, g5, hw1, hw2, hi, hii, hii2, hi0, hi0i, bc hP vj, hv']; refine hR _ _ _ ?_; clear hR R)
    rw [seqX_nil]
    refine hK _ _ _ ?_; clear hK K
    refine hN7 _ _ _ ?_
    refine xc_iftrue (by simp [go_sem, g1, g2, g5, hw1, hw2, hi, hii, hii2, hi0, hi0i, bc hP vj, hv']) ?_
    refine xc_two fun N8 hN8 => ?_
    refine xc_reg2 fun K hK => ?_
    simp only [rall, rsl, gres]
    iterate 2 (refine seqX_hide2 fun R hR => ?_; simp [go_sem, g1, g2, g5, hw1, hw2, hi, hii, hii2, hi0, hi0i, bc hP vj, hv']; refine hR _ _ _ ?_; clear hR R)
    rw [seqX_nil]
    refine hK _ _ _ ?_; clear hK K
    refine hN8 _ _ _ ?_
    refine hX1 _ _ _ _ ?_
    simp [go_sem, g1, g2, g5, hw1, hw2, hi, hii, hii2, hi0, hi0i, hv']
    exact ⟨.inr ⟨i, hi, ⟨hi, hi2, hv.symm⟩, hfs, rfl⟩, le_ov hP⟩
  have hv' : ¬ kk[i].value.toList = s.toList := fun e => bytes_ne hv e.symm
  rw [if_neg hv] at hfs
  have hno2 : ∀ j, j < i + 2 → ¬ PlcAt kk s j := by
    intro j hj hh
    rcases Nat.lt_or_ge j i with h | h
    · exact hno j h hh
    · obtain ⟨y1, y2, y3⟩ := hh
      obtain rfl : j = i := by omega
      exact hv y3.symm
  refine xc_two fun N4 hN4 => ?_
  refine xc_two fun N5 hN5 => ?_
  refine xc_reg2 fun K hK => ?_
  simp only [rall, rsl, gres]
  iterate 11 (refine seqX_hide2 fun R hR => ?_; simp [go_sem, g1, g2, g5, hw1, hw2, hi, hii, hii2, hi0, hi0i, bc hP vj, hv']; refine hR _ _ _ ?_; clear hR R)
  rw [seqX_nil]
  refine hK _ _ _ ?_; clear hK K
  refine hN5 _ _ _ ?_
  refine xc_iftrue (by simp [go_sem, g1, g2, g5, hw1, hw2, hi, hii, hii2, hi0, hi0i, bc hP vj, hv']) ?_
  refine hN4 _ _ _ ?_
  refine xc_two fun N6 hN6 => ?_
  rw [xc_block]
  refine xc_two fun N7 hN7 => ?_
  refine xc_reg2 fun K hK => ?_
  simp only [rall, rsl, gres]
  iterate 8 (refine seqX_hide2 fun R hR => ?_; simp [go_sem, g1, g2, g5, hw1, hw2, hi, hii, hii2, hi0, hi0i, bc hP vj, hv']; refine hR _ _ _ ?_; clear hR R)
  rw [seqX_nil]
  refine hK _ _ _ ?_; clear hK K
  refine hN7 _ _ _ ?_
  refine xc_iffalse (by simp [go_sem, g1, g2, g5, hw1, hw2, hi, hii, hii2, hi0, hi0i, bc hP vj, hv']) ?_
  refine hN6 _ _ _ ?_
  refine xc_reg2 fun K hK => ?_
  simp only [rall, rsl, gres]
  iterate 3 (refine seqX_hide2 fun R hR => ?_; simp [go_sem, g1, g2, g5, hw1, hw2, hi, hii, hii2, hi0, hi0i, bc hP vj, hv']; refine hR _ _ _ ?_; clear hR R)
  rw [seqX_nil]
  refine hK _ _ _ ?_; clear hK K
  refine hJ1 (kk.length - (i + 2)) _ _ _ (by omega) ⟨i + 2, rfl, rfl, rfl, hP, by simp [go_sem, g1, g2, g5, hw1, hw2, hi, hii, hii2, hi0, hi0i, hv'], by simp [go_sem, g1, g2, g5, hw1, hw2, hi, hii, hii2, hi0, hi0i, hv'], by simp [go_sem, g1, g2, g5, hw1, hw2, hi, hii, hii2, hi0, hi0i, hv'], by omega, by omega, hfs, hno2⟩
end Go.Proofs.YtpinamipjddobaaV

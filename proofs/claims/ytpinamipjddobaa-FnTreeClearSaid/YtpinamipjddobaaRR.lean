/- Trees: FieldClearer (in place). -/
import Derived.Test.YtpinamipjddobaaRJ
namespace Go.Proofs.YtpinamipjddobaaV
open Go.RowKit
set_option linter.unusedSimpArgs false
set_option linter.unusedVariables false
theorem cells_take {A : View} {a : Addr} {n i : Nat} {cs : List Value} (h : A.cells? a 0 n = some cs) (hi : i ≤ n) : A.cells? a 0 i = some (cs.take i) := by
  have hl := cells?_length _ _ _ h
  refine cells?_intro _ _ _ (by rw [List.length_take]; omega) fun j hj => ?_
  rw [List.getElem?_take_of_lt hj]
  exact cells?_get _ _ _ h j (by omega)
theorem addr_add3 (a : Addr) (i j : Nat) : (a.add i).add j = a.add (i + j) := by
  obtain ⟨b, o, s⟩ := a
  unfold Addr.add
  by_cases hi : i = 0
  · subst hi
    rw [if_pos rfl, Nat.zero_add]
  · by_cases hj : j = 0
    · subst hj
      rw [if_neg hi, if_pos rfl, Nat.add_zero, if_neg hi]
    · rw [if_neg hi, if_neg hj, if_neg (by omega), Nat.add_assoc]
theorem cells_drop {A : View} {a : Addr} {n i : Nat} {cs : List Value} (h : A.cells? a 0 n = some cs) (hi : i ≤ n) : A.cells? (a.add i) 0 (n - i) = some (cs.drop i) := by
  have hl := cells?_length _ _ _ h
  refine cells?_intro _ _ _ (by rw [List.length_drop]; omega) fun j hj => ?_
  have := cells?_get _ _ _ h (i + j) (by omega)
  rw [Nat.zero_add] at this
  rw [addr_add3, Nat.zero_add, this, List.getElem?_drop]
theorem own_take {B A : View} {e : TypeId} {n i cap : Nat} {b : Option Addr} {cs : List Value} (h : Own B A e 1 (.slice b n cap) n cs) (hi : i ≤ n) : Own B A e 1 (.slice b i cap) i (cs.take i) := by
  obtain ⟨h1, h2⟩ := h
  cases b with
  | none =>
    rcases h2 with ⟨e1, e2⟩ | ⟨a, c, e1, _⟩
    · subst e2
      obtain rfl : i = 0 := by omega
      injection e1 with _ _ e3
      subst e3
      have h4 : some [] = some cs := h1
      obtain rfl := Option.some.inj h4
      exact ⟨rfl, .inl ⟨rfl, rfl⟩⟩
    · injection e1 with e3
      cases e3
  | some a =>
    have h3 : B a.block = none := by
      rcases h2 with ⟨e1, _⟩ | ⟨a', c, e1, h3⟩
      · injection e1 with e3; cases e3
      · injection e1 with e3 _ e4
        injection e3 with e3
        rw [e3]; exact h3
    refine ⟨?_, .inr ⟨a, cap, rfl, h3⟩⟩
    unfold sliceIn at h1 ⊢
    simp only [Nat.mul_one] at h1 ⊢
    split at h1
    · rename_i c e' hb
      split at h1
      · rename_i hc
        rw [if_pos ⟨hc.1, hc.2.1, by omega, hc.2.2.2⟩]
        exact cells_take h1 hi
      · cases h1
    · cases h1
theorem own_cells {B A : View} {e : TypeId} {n cap : Nat} {a : Addr} {cs : List Value} (h : Own B A e 1 (.slice (some a) n cap) n cs) : n ≤ cap ∧ A.cells? a 0 n = some cs := by
  obtain ⟨h1, -⟩ := h
  unfold sliceIn at h1
  simp only [Nat.mul_one] at h1
  split at h1
  · split at h1
    · rename_i hc
      exact ⟨hc.2.2.1, h1⟩
    · cases h1
  · cases h1
/-- What a removal may meet. -/
def Hit (kids : List Tr) (nm : ByteArray) (ie : Bool) (i : Nat) : Prop := ∃ (h : i + 1 < kids.length), i % 2 = 0 ∧ (kids[i]'(by omega)).value = nm ∧ ¬ (ie = true ∧ (kids[i + 1]).kids ≠ [])
set_option maxRecDepth 20000 in
theorem keepC (A : View) (b2 b3 b7 kp vp : Nat) (nm : ByteArray) (ie : Bool) (i : Int) (x2 : A b2 = some (.cells #[.string ⟨#[]⟩, .string nm, .bool ie] 86 (0, 0))) (x y : Tr) (hx : IsYn A x kp) (hy : IsYn A y vp) (hyl : y.kids.length ≤ 1000000) (hno : ¬ (x.value = nm ∧ ¬ (ie = true ∧ y.kids ≠ []))) :
    VCalls Try.prog 133 #[ptr0 kp, ptr0 vp, .int .i64 i, ptr0 b2, ptr0 b7, ptr0 b3] A fun r A' => r = .bool true ∧ A' = A := by
  have c1 := cell_of (i := 1) x2 rfl
  have c2 := cell_of (i := 2) x2 rfl
  obtain ⟨k, st, tag, val, an, h, l, f, row, col, al, kids, rfl⟩ := x.ex
  obtain ⟨cv, ps, hp, -, -, -⟩ := hx.open
  have c3 := cell_of (i := 3) hp rfl
  obtain ⟨k', st', tag', val', an', h', l', f', row', col', al', kids', rfl⟩ := y.ex
  obtain ⟨cv', ps', hp', hrow', -, -⟩ := hy.open
  obtain ⟨cb, cc, rfl⟩ := hrow'.form
  have c6 := cell_of (i := 6) hp' rfl
  replace hyl : kids'.length ≤ 1000000 := hyl
  replace hno : ¬ (val = nm ∧ ¬ (ie = true ∧ kids' ≠ [])) := hno
  refine xcalls Try.func133 rfl (by simp [Try.ntmps133]) ?_
  simp only [Try.f133]
  have hP : Priv A (addrs []) := Priv.nil A
  show xc _ _ _ _ _ _ (ov A [])
  by_cases hv : val = nm
  rotate_left
  · have hvb := bytes_ne hv
    refine xc_two fun N1 hN1 => ?_
    refine xc_reg1 1 rfl fun K hK => ?_
    simp only [show (List.range 1).map (·, true) = [(0, true)] from rfl, rslv_cons, rslv_nil, List.getElem?_toArray, List.getElem?_cons_zero, List.getElem?_cons_succ, gres]
    (refine seqX_hide2 fun R hR => ?_; simp [go_sem, bc hP c1, bc hP c3, hvb]; refine hR _ _ _ ?_; clear hR R)
    rw [seqX_nil]
    refine hK _ _ _ ?_; clear hK K
    refine hN1 _ _ _ ?_
    refine xc_two fun N2 hN2 => ?_
    refine xc_two fun N3 hN3 => ?_
    rw [xc_draws]
    refine vdrawK [(0, true), (1, true), (2, true), (3, true), (4, true), (5, true), (6, true)] (ov A []) mixed (by kernel_rfl) (View.le_refl _) fun K hK => ?_
    simp only [rslv_cons, rslv_nil, List.getElem?_toArray, List.getElem?_cons_zero, List.getElem?_cons_succ, gres]
    iterate 7 (refine seqR_hide fun R hR => ?_; simp [go_sem, bc hP c1, bc hP c3, hvb]; refine hR _ _ _ ?_; clear hR R)
    rw [seqR_nil]
    refine hK _ _ _ ?_; clear hK K
    refine hN3 _ _ _ ?_
    refine xc_iftrue (by simp [go_sem, bc hP c1, bc hP c3, hvb]) ?_
    refine xc_two fun N4 hN4 => ?_
    refine xc_reg1 1 rfl fun K hK => ?_
    simp only [show (List.range 1).map (·, true) = [(0, true)] from rfl, rslv_cons, rslv_nil, List.getElem?_toArray, List.getElem?_cons_zero, List.getElem?_cons_succ, gres]
    (refine seqX_hide2 fun R hR => ?_; simp [go_sem, bc hP c1, bc hP c3, hvb]; refine hR _ _ _ ?_; clear hR R)
    rw [seqX_nil]
    refine hK _ _ _ ?_; clear hK K
    refine hN4 _ _ _ ?_
    simp [go_sem, bc hP c1, bc hP c3, hvb]
    rfl
  subst hv
  have hie : ie = true ∧ kids' ≠ [] := Classical.not_not.1 fun h => hno ⟨rfl, h⟩
  obtain ⟨rfl, hk0⟩ := hie
  have hk1 : ¬ kids'.length = 0 := fun e => hk0 (List.eq_nil_of_length_eq_zero e)
  have hk2 : (0 : Int) < kids'.length := by omega
  have hk3 : 0 < kids'.length := by omega
  refine xc_two fun N1 hN1 => ?_
  refine xc_reg1 1 rfl fun K hK => ?_
  simp only [show (List.range 1).map (·, true) = [(0, true)] from rfl, rslv_cons, rslv_nil, List.getElem?_toArray, List.getElem?_cons_zero, List.getElem?_cons_succ, gres]
  (refine seqX_hide2 fun R hR => ?_; simp [go_sem, bc hP c1, bc hP c2, bc hP c3, bc hP c6, hk0, hk1, hk2, hk3]; refine hR _ _ _ ?_; clear hR R)
  rw [seqX_nil]
  refine hK _ _ _ ?_; clear hK K
  refine hN1 _ _ _ ?_
  refine xc_two fun N2 hN2 => ?_
  refine xc_two fun N3 hN3 => ?_
  rw [xc_draws]
  refine vdrawK [(0, true), (1, true), (2, true), (3, true), (4, true), (5, true), (6, true)] (ov A []) mixed (by kernel_rfl) (View.le_refl _) fun K hK => ?_
  simp only [rslv_cons, rslv_nil, List.getElem?_toArray, List.getElem?_cons_zero, List.getElem?_cons_succ, gres]
  iterate 7 (refine seqR_hide fun R hR => ?_; simp [go_sem, bc hP c1, bc hP c2, bc hP c3, bc hP c6, hk0, hk1, hk2, hk3]; refine hR _ _ _ ?_; clear hR R)
  rw [seqR_nil]
  refine hK _ _ _ ?_; clear hK K
  refine hN3 _ _ _ ?_
  refine xc_iffalse (by simp [go_sem, bc hP c1, bc hP c2, bc hP c3, bc hP c6, hk0, hk1, hk2, hk3]) ?_
  refine hN2 _ _ _ ?_
  refine xc_two fun N4 hN4 => ?_
  refine xc_two fun N5 hN5 => ?_
  refine xc_reg1 2 rfl fun K hK => ?_
  simp only [show (List.range 2).map (·, true) = [(0, true), (1, true)] from rfl, rslv_cons, rslv_nil, List.getElem?_toArray, List.getElem?_cons_zero, List.getElem?_cons_succ, gres]
  iterate 2 (refine seqX_hide2 fun R hR => ?_; simp [go_sem, bc hP c1, bc hP c2, bc hP c3, bc hP c6, hk0, hk1, hk2, hk3]; refine hR _ _ _ ?_; clear hR R)
  rw [seqX_nil]
  refine hK _ _ _ ?_; clear hK K
  refine hN5 _ _ _ ?_
  refine xc_iftrue (by simp [go_sem, bc hP c1, bc hP c2, bc hP c3, bc hP c6, hk0, hk1, hk2, hk3]) ?_
  refine xc_two fun N6 hN6 => ?_
  refine xc_reg1 6 rfl fun K hK => ?_
  simp only [show (List.range 6).map (·, true) = [(0, true), (1, true), (2, true), (3, true), (4, true), (5, true)] from rfl, rslv_cons, rslv_nil, List.getElem?_toArray, List.getElem?_cons_zero, List.getElem?_cons_succ, gres]
  iterate 6 (refine seqX_hide2 fun R hR => ?_; simp [go_sem, bc hP c1, bc hP c2, bc hP c3, bc hP c6, hk0, hk1, hk2, hk3]; refine hR _ _ _ ?_; clear hR R)
  rw [seqX_nil]
  refine hK _ _ _ ?_; clear hK K
  refine hN6 _ _ _ ?_
  refine xc_iftrue (by simp [go_sem, bc hP c1, bc hP c2, bc hP c3, bc hP c6, hk0, hk1, hk2, hk3]) ?_
  refine xc_two fun N7 hN7 => ?_
  refine xc_reg1 1 rfl fun K hK => ?_
  simp only [show (List.range 1).map (·, true) = [(0, true)] from rfl, rslv_cons, rslv_nil, List.getElem?_toArray, List.getElem?_cons_zero, List.getElem?_cons_succ, gres]
  (refine seqX_hide2 fun R hR => ?_; simp [go_sem, bc hP c1, bc hP c2, bc hP c3, bc hP c6, hk0, hk1, hk2, hk3]; refine hR _ _ _ ?_; clear hR R)
  rw [seqX_nil]
  refine hK _ _ _ ?_; clear hK K
  refine hN7 _ _ _ ?_
  simp [go_sem, bc hP c1, bc hP c2, bc hP c3, bc hP c6, hk0, hk1, hk2, hk3]
  rfl
end Go.Proofs.YtpinamipjddobaaV

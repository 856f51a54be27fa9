/- Trees: FieldClearer, the walk over the fields. -/
import Derived.Test.YtpinamipjddobaaRS
namespace Go.Proofs.YtpinamipjddobaaV
open Go.RowKit
set_option linter.unusedSimpArgs false
set_option linter.unusedVariables false
/-- What the walk over the fields leaves: all as it is, or one pair less. -/
def WC (A0 A : View) (q p b7 : Nat) (nm : ByteArray) (ie : Bool) (k st : Int) (tag val an h l f : ByteArray) (row col al : Int) (kids : List Tr) (A' : View) : Prop :=
  (A' = A ∧ ∀ j, ¬ Hit kids nm ie j) ∨ (∃ i, ∃ hi : i + 1 < kids.length, Hit kids nm ie i ∧ (∀ j, j < i → ¬ Hit kids nm ie j) ∧ ∃ rn, A' b7 = some (.cells #[ptr0 rn] 62 (0, 0)) ∧ IsRn A' (kids[i + 1]) rn ∧ TopR A0 A' (.mk k st tag val an h l f row col al (less kids i)) q p)
set_option maxRecDepth 20000 in
set_option maxHeartbeats 400000 in
theorem whileC (A0 B A : View) (q p b2 b3 b7 : Nat) (nm : ByteArray) (ie : Bool) (k st : Int) (tag val an h l f : ByteArray) (row col al : Int) (kids : List Tr) (cb : Option Addr) (cc : Nat) (ps : List Nat)
    (y1 : A0 ≤ B) (y2 : B ≤ A) (y3 : B p = none) (y4 : A p = some (.cells (ync k st tag val an (.slice cb kids.length cc) h l f row col) 114 (0, 0))) (y5 : Own B A 90 1 (.slice cb kids.length cc) kids.length (ps.map ptr0)) (y6 : blockOf (.slice cb kids.length cc) ≠ some p) (y7 : ps.length = kids.length) (y8 : ∀ j (hj : j < kids.length), ∃ q, ps[j]? = some q ∧ IsYn B (kids[j]) q)
    (hq : A q = some (.cells (rnc p) 111 (0, 0))) (hqp : q ≠ p) (hk : k ≠ 1) (x2 : A b2 = some (.cells #[.string ⟨#[]⟩, .string nm, .bool ie] 86 (0, 0))) (x3 : A b3 = some (.cells #[ptr0 q] 62 (0, 0))) (x7 : A b7 = some (.cells #[.pointer none] 62 (0, 0))) (n7 : B b7 = none) (d73 : b7 ≠ b3)
    (hev : kids.length % 2 = 0) (hkl : kids.length ≤ 1000000) (hkk : ∀ x ∈ kids, x.kids.length ≤ 1000000) :
    VCalls Try.prog 89 #[.slice cb kids.length cc, .func (.func 133) #[] #[ptr0 b2, ptr0 b7, ptr0 b3]] A fun r A' => WC A0 A q p b7 nm ie k st tag val an h l f row col al kids A' := by
  have hrow := y5.row
  refine xcalls Try.func89 rfl (by simp [Try.ntmps89]) ?_
  simp only [Try.f89]
  have hP : Priv A (addrs []) := Priv.nil A
  show xc _ _ _ _ _ _ (ov A [])
  refine xc_two fun N1 hN1 => ?_
  refine xc_reg1 1 rfl fun K hK => ?_
  simp only [show (List.range 1).map (·, true) = [(0, true)] from rfl, rslv_cons, rslv_nil, List.getElem?_toArray, List.getElem?_cons_zero, List.getElem?_cons_succ, gres]
  (refine seqX_hide2 fun R hR => ?_; simp [go_sem]; refine hR _ _ _ ?_; clear hR R)
  rw [seqX_nil]
  refine hK _ _ _ ?_; clear hK K
  refine hN1 _ _ _ ?_
  rw [xc_block]
  rw [xc_loop]
  refine vloopK (fun k' e ds A' => ∃ (i : Nat), k' = kids.length - i ∧ ds = [] ∧ A' = ov A [] ∧ Priv A [] ∧ e 0 = .slice cb kids.length cc ∧ e 1 = .func (.func 133) #[] #[ptr0 b2, ptr0 b7, ptr0 b3] ∧ e 4 = .int .i64 i ∧ (i ≤ kids.length) ∧ (i % 2 = 0) ∧ (∀ j, j < i → ¬ Hit kids nm ie j)) _ ⟨0, rfl, rfl, rfl, hP, by simp [go_sem], by simp [go_sem], by simp [go_sem], by omega, rfl, fun j hj => by omega⟩ ?_
  clear hP
  rintro k' e ds A' ⟨i, rfl, rfl, hV, hP, g0, g1, g4, hil, hi2, hno⟩ J1 X1 hJ1 hX1
  refine xc_sound _ ?_
  replace hV := Eq.symm hV; subst hV; replace hP : Priv A (addrs []) := hP
  have hw1 : IntKind.i64.wrap ((i : Int) + 1) = ((i + 1 : Nat) : Int) := by rw [wrap_in (by omega) (by omega)]; omega
  have hw2 : IntKind.i64.wrap ((i : Int) + 2) = ((i + 2 : Nat) : Int) := by rw [wrap_in (by omega) (by omega)]; omega
  by_cases hi : i < kids.length
  rotate_left
  · have hii : ¬ (i : Int) < kids.length := by omega
    refine xc_two fun N2 hN2 => ?_
    refine xc_two fun N3 hN3 => ?_
    refine xc_reg1 4 rfl fun K hK => ?_
    simp only [show (List.range 4).map (·, true) = [(0, true), (1, true), (2, true), (3, true)] from rfl, rslv_cons, rslv_nil, List.getElem?_toArray, List.getElem?_cons_zero, List.getElem?_cons_succ, gres]
    iterate 4 (refine seqX_hide2 fun R hR => ?_; simp [go_sem, g0, g1, g4, hi, hii]; refine hR _ _ _ ?_; clear hR R)
    rw [seqX_nil]
    refine hK _ _ _ ?_; clear hK K
    refine hN3 _ _ _ ?_
    refine xc_iffalse (by simp [go_sem, g0, g1, g4, hi, hii]) ?_
    refine hX1 _ _ _ _ ?_
    simp [go_sem, g0, g1, g4, hi, hii]
    refine .inl ⟨rfl, fun j hj => ?_⟩
    have h1 := hj.1
    exact hno j (by omega) hj
  have hi1 : i + 1 < kids.length := by omega
  have hii : (i : Int) < kids.length := by omega
  have hii1 : ((i + 1 : Nat) : Int) < kids.length := by omega
  obtain ⟨kp, hq1, hq2⟩ := y8 i hi
  obtain ⟨vp, hp1, hp2⟩ := y8 (i + 1) hi1
  obtain ⟨a1, cap1, f1, -, u1⟩ := Row.at1 (i := i) (u := ptr0 kp) hrow (by rw [List.getElem?_map, hq1]; rfl)
  simp only [Value.slice.injEq] at f1
  obtain ⟨rfl, -, rfl⟩ := f1
  obtain ⟨a2, cap2, f2, -, u2⟩ := Row.at1 (i := i + 1) (u := ptr0 vp) hrow (by rw [List.getElem?_map, hp1]; rfl)
  simp only [Value.slice.injEq, Option.some.injEq] at f2
  obtain ⟨rfl, -, rfl⟩ := f2
  rw [show a1.add (i + 1) = ⟨a1.block, a1.off + (i + 1), none⟩ from if_neg (Nat.succ_ne_zero i)] at u2
  have hii2 : (i : Int) + 1 < kids.length := by omega
  have hii3 : (0 : Int) ≤ (i : Int) + 1 := by omega
  have hyl := hkk _ (List.getElem_mem hi1)
  refine xc_two fun N2 hN2 => ?_
  refine xc_two fun N3 hN3 => ?_
  refine xc_reg1 4 rfl fun K hK => ?_
  simp only [show (List.range 4).map (·, true) = [(0, true), (1, true), (2, true), (3, true)] from rfl, rslv_cons, rslv_nil, List.getElem?_toArray, List.getElem?_cons_zero, List.getElem?_cons_succ, gres]
  iterate 4 (refine seqX_hide2 fun R hR => ?_; simp [go_sem, g0, g1, g4, hi, hii, hi1, hii1, hii2, hii3, hw1, hw2, bc hP u1, bc hP u2, xindexAt, vload]; refine hR _ _ _ ?_; clear hR R)
  rw [seqX_nil]
  refine hK _ _ _ ?_; clear hK K
  refine hN3 _ _ _ ?_
  refine xc_iftrue (by simp [go_sem, g0, g1, g4, hi, hii, hi1, hii1, hii2, hii3, hw1, hw2, bc hP u1, bc hP u2, xindexAt, vload]) ?_
  refine hN2 _ _ _ ?_
  refine xc_two fun N4 hN4 => ?_
  rw [xc_block]
  refine xc_two fun N5 hN5 => ?_
  rw [xc_draws]
  refine vdrawK [(0, true), (1, true), (2, true), (3, true), (4, true), (5, true), (6, true), (7, true), (8, true), (9, true), (10, true), (11, false), (12, true)] (ov A []) mixed (by kernel_rfl) (View.le_refl _) fun K hK => ?_
  simp only [rslv_cons, rslv_nil, List.getElem?_toArray, List.getElem?_cons_zero, List.getElem?_cons_succ, gres]
  iterate 11 (refine seqR_hide fun R hR => ?_; simp [go_sem, g0, g1, g4, hi, hii, hi1, hii1, hii2, hii3, hw1, hw2, bc hP u1, bc hP u2, xindexAt, vload]; refine hR _ _ _ ?_; clear hR R)
  refine seqR_hide fun R hR => ?_
  simp [go_sem, g0, g1, g4, hi, hii, hi1, hii1, hii2, hii3, hw1, hw2, bc hP u1, bc hP u2, xindexAt, vload]
  by_cases hit : (kids[i]).value = nm ∧ ¬ (ie = true ∧ (kids[i + 1]).kids ≠ [])
  rotate_left
  · refine call_same hP (keepC A b2 b3 b7 kp vp nm ie i x2 kids[i] kids[i + 1] (hq2.le y2) (hp2.le y2) hyl hit) ?_
    rintro _ rfl
    have hno2 : ∀ j, j < i + 2 → ¬ Hit kids nm ie j := by
      intro j hj hh
      rcases Nat.lt_or_ge j i with h | h
      · exact hno j h hh
      · obtain ⟨z1, z2, z3, z4⟩ := hh
        obtain rfl : j = i := by omega
        exact hit ⟨z3, z4⟩
    refine hR _ _ _ ?_; clear hR R
    (refine seqR_hide fun R hR => ?_; simp [go_sem, g0, g1, g4, hi, hii, hi1, hii1, hii2, hii3, hw1, hw2, bc hP u1, bc hP u2, xindexAt, vload]; refine hR _ _ _ ?_; clear hR R)
    rw [seqR_nil]
    refine hK _ _ _ ?_; clear hK K
    refine hN5 _ _ _ ?_
    refine xc_two fun N6 hN6 => ?_
    refine xc_reg1 2 rfl fun K hK => ?_
    simp only [show (List.range 2).map (·, true) = [(0, true), (1, true)] from rfl, rslv_cons, rslv_nil, List.getElem?_toArray, List.getElem?_cons_zero, List.getElem?_cons_succ, gres]
    iterate 2 (refine seqX_hide2 fun R hR => ?_; simp [go_sem, g0, g1, g4, hi, hii, hi1, hii1, hii2, hii3, hw1, hw2, bc hP u1, bc hP u2, xindexAt, vload]; refine hR _ _ _ ?_; clear hR R)
    rw [seqX_nil]
    refine hK _ _ _ ?_; clear hK K
    refine hN6 _ _ _ ?_
    refine xc_iffalse (by simp [go_sem, g0, g1, g4, hi, hii, hi1, hii1, hii2, hii3, hw1, hw2, bc hP u1, bc hP u2, xindexAt, vload]) ?_
    refine hN4 _ _ _ ?_
    refine xc_reg1 3 rfl fun K hK => ?_
    simp only [show (List.range 3).map (·, true) = [(0, true), (1, true), (2, true)] from rfl, rslv_cons, rslv_nil, List.getElem?_toArray, List.getElem?_cons_zero, List.getElem?_cons_succ, gres]
    iterate 3 (refine seqX_hide2 fun R hR => ?_; simp [go_sem, g0, g1, g4, hi, hii, hi1, hii1, hii2, hii3, hw1, hw2, bc hP u1, bc hP u2, xindexAt, vload]; refine hR _ _ _ ?_; clear hR R)
    rw [seqX_nil]
    refine hK _ _ _ ?_; clear hK K
    refine hJ1 (kids.length - (i + 2)) _ _ _ (by omega) ⟨i + 2, rfl, rfl, rfl, hP, by simp [go_sem, g0, g1, g4, hi, hii, hi1, hii1, hii2, hii3, hw1, hw2, xindexAt, vload], by simp [go_sem, g0, g1, g4, hi, hii, hi1, hii1, hii2, hii3, hw1, hw2, xindexAt, vload], by simp [go_sem, g0, g1, g4, hi, hii, hi1, hii1, hii2, hii3, hw1, hw2, xindexAt, vload], by omega, by omega, hno2⟩
  refine call_ov hP (clearC A0 B A q p b2 b3 b7 kp vp i nm ie k st tag val an h l f row col al kids (some a1) cc ps y1 y2 y3 y4 y5 y6 y7 y8 hq hqp hk x2 x3 x7 n7 d73 hi1 hkl hq2 hp2 hit.1 hit.2 hyl) ?_
  clear hP
  rintro _ A2 ⟨rfl, rn, k1, k2, k3⟩ hP
  refine hR _ _ _ ?_; clear hR R
  (refine seqR_hide fun R hR => ?_; simp [go_sem, g0, g1, g4, hi, hii, hi1, hii1, hii2, hii3, hw1, hw2, xindexAt, vload]; refine hR _ _ _ ?_; clear hR R)
  rw [seqR_nil]
  refine hK _ _ _ ?_; clear hK K
  refine hN5 _ _ _ ?_
  refine xc_two fun N6 hN6 => ?_
  refine xc_reg1 2 rfl fun K hK => ?_
  simp only [show (List.range 2).map (·, true) = [(0, true), (1, true)] from rfl, rslv_cons, rslv_nil, List.getElem?_toArray, List.getElem?_cons_zero, List.getElem?_cons_succ, gres]
  iterate 2 (refine seqX_hide2 fun R hR => ?_; simp [go_sem, g0, g1, g4, hi, hii, hi1, hii1, hii2, hii3, hw1, hw2, xindexAt, vload]; refine hR _ _ _ ?_; clear hR R)
  rw [seqX_nil]
  refine hK _ _ _ ?_; clear hK K
  refine hN6 _ _ _ ?_
  refine xc_iftrue (by simp [go_sem, g0, g1, g4, hi, hii, hi1, hii1, hii2, hii3, hw1, hw2, xindexAt, vload]) ?_
  refine hX1 _ _ _ _ ?_
  simp [go_sem, g0, g1, g4, hi, hii, hi1, hii1, hii2, hii3, hw1, hw2, xindexAt, vload]
  exact .inr ⟨i, hi1, ⟨hi1, hi2, hit.1, hit.2⟩, hno, rn, k1, k2, k3⟩
end Go.Proofs.YtpinamipjddobaaV

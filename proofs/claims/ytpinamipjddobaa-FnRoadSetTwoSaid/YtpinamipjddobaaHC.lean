/- Trees: words and YAML 1.1; what a value is; SetYNode. -/
import Derived.Test.YtpinamipjddobaaHB
import Derived.Test.YtpinamipjddobaaHA
namespace Go.Proofs.YtpinamipjddobaaV
open Go.RowKit
set_option linter.unusedSimpArgs false
set_option linter.unusedVariables false
theorem cstoreS {D : View} {L : List (Nat × Obj)} (hP : Priv D (addrs L)) {t e : TypeId} {ti : TI} {m : Nat} {c vs : Array Value} (ht : tinfo Try.prog t = some ti) (hz : vs.size = ti.size) (hD : D m = some (.cells c e (0, 0))) (hc : c.size = vs.size) (hone : ones vs = true) :
    stB Try.prog t (.pointer (some ⟨m, 0, none⟩)) (.agg vs) D L = some (ov (D.set m (.cells vs e (0, 0))) L) ∧ Priv (D.set m (.cells vs e (0, 0))) (addrs L) := by
  obtain ⟨e1, e2⟩ := ov_set_base hP (o' := .cells vs e (0, 0)) hD
  refine ⟨?_, e2⟩
  unfold stB
  rw [xstore_agg (P := Try.prog) ht hz (ov_base hP hD) hc (List.all_eq_true.1 hone), ← e1]
set_option maxRecDepth 20000 in
theorem setY115 (A : View) (q p1 p2 : Nat) (c1 c2 : Array Value) (hq : A q = some (.cells (rnc p1) 111 (0, 0))) (h1 : A p1 = some (.cells c1 114 (0, 0))) (h2 : A p2 = some (.cells c2 114 (0, 0))) (z1 : c1.size = 12) (z2 : c2.size = 12) (o2 : ones c2 = true) :
    VCalls Try.prog 115 #[ptr0 q, ptr0 p2] A fun r A' => A' = A.set p1 (.cells c2 114 (0, 0)) := by
  have cq := cell_of (i := 1) hq rfl
  have u2 := cells_block h2 z2
  have hs := cstoreS (L := []) (Priv.nil A) ti114 (vs := c2) z2 h1 (by rw [z1, z2]) o2
  have hsa := hs.1
  refine xcalls Try.func115 rfl (by simp [Try.ntmps115]) ?_
  simp only [Try.f115]
  have hP : Priv A (addrs []) := Priv.nil A
  show xc _ _ _ _ _ _ (ov A [])
  refine xc_two fun N1 hN1 => ?_
  refine xc_two fun N2 hN2 => ?_
  refine xc_reg2 fun K hK => ?_
  simp only [rall, rsl, gres]
  iterate 9 (refine seqX_hide2 fun R hR => ?_; simp [go_sem, bc hP cq, bcs hP u2, z2, o2, hsa]; refine hR _ _ _ ?_; clear hR R)
  rw [seqX_nil]
  refine hK _ _ _ ?_; clear hK K
  refine hN2 _ _ _ ?_
  refine xc_iffalse (by simp [go_sem, bc hP cq, bcs hP u2, z2, o2, hsa]) ?_
  refine hN1 _ _ _ ?_
  rw [xc_draws]
  refine vdrawK [(0, true), (1, true), (2, true), (3, true), (4, true), (5, true), (6, true), (7, true), (8, false)] (ov A []) mixed (by kernel_rfl) (View.le_refl _) fun K hK => ?_
  simp only [rsl, gres]
  iterate 8 (refine seqR_hide fun R hR => ?_; simp [go_sem, bc hP cq, bcs hP u2, z2, o2, hsa]; refine hR _ _ _ ?_; clear hR R)
  refine seqR_hide fun R hR => ?_
  simp [go_sem, bc hP cq, bcs hP u2, z2, o2, hsa]
  refine hR _ _ _ ?_; clear hR R
  rw [seqR_nil]
  refine hK _ _ _ ?_; clear hK K
  simp [go_sem, bc hP cq, bcs hP u2, z2, o2, hsa]
  rfl
set_option maxRecDepth 20000 in
theorem number122W (A : View) (s : ByteArray) (hw : Wd s) : VCalls Try.prog 122 #[.string s] A fun r A' => r = .bool false ∧ A' = A := by
  obtain ⟨h0, h20, hr⟩ := hw
  have hz : 0 < s.size := by omega
  have hzi : (0 : Int) < s.size := by omega
  have hg : s[0]? = some s[0] := getElem?_pos s 0 hz
  obtain ⟨c1, c2⟩ := hr 0 hz
  have f1 : ¬ (s[0].toNat : Int) = 43 := by omega
  have f2 : ¬ (s[0].toNat : Int) = 45 := by omega
  have f3 : ¬ (s[0].toNat : Int) = 48 := by omega
  have f4 : ¬ (s[0].toNat : Int) = 95 := by omega
  have f5 : ¬ (s[0].toNat : Int) = 46 := by omega
  have f6 : (48 : Int) ≤ (s[0].toNat : Int) := by omega
  have f7 : ¬ (s[0].toNat : Int) ≤ 57 := by omega
  have m1 : ((s[0].toNat : Int) == 43) = false := beq_eq_false_iff_ne.2 f1
  have m2 : ((s[0].toNat : Int) == 45) = false := beq_eq_false_iff_ne.2 f2
  have m3 : ((s[0].toNat : Int) == 48) = false := beq_eq_false_iff_ne.2 f3
  have m4 : ((s[0].toNat : Int) == 95) = false := beq_eq_false_iff_ne.2 f4
  have m5 : ((s[0].toNat : Int) == 46) = false := beq_eq_false_iff_ne.2 f5
  obtain ⟨w, hor⟩ : ∃ w : Int, IntKind.u8.wrap (((BitVec.ofInt IntKind.u8.bits (s[0].toNat : Int) ||| BitVec.ofInt IntKind.u8.bits 32).toNat : Nat) : Int) = w := ⟨_, rfl⟩
  refine xcalls Try.func122 rfl (by simp [Try.ntmps122]) ?_
  simp only [Try.f122]
  have hP : Priv A (addrs []) := Priv.nil A
  show xc _ _ _ _ _ _ (ov A [])
  by_cases y1 : 2 < s.size
  · have y2 : (2 : Int) < s.size := by omega
    refine xc_two fun N1 hN1 => ?_
    refine xc_reg2 fun K hK => ?_
    simp only [rall, rsl, gres]
    (refine seqX_hide2 fun R hR => ?_; simp [go_sem, hz, hzi, hg, xindex, f1, f2, f3, f4, f5, f6, f7, m1, m2, m3, m4, m5, y1, y2]; refine hR _ _ _ ?_; clear hR R)
    rw [seqX_nil]
    refine hK _ _ _ ?_; clear hK K
    refine hN1 _ _ _ ?_
    refine xc_two fun N2 hN2 => ?_
    refine xc_two fun N3 hN3 => ?_
    refine xc_reg2 fun K hK => ?_
    simp only [rall, rsl, gres]
    iterate 8 (refine seqX_hide2 fun R hR => ?_; simp [go_sem, hz, hzi, hg, xindex, f1, f2, f3, f4, f5, f6, f7, m1, m2, m3, m4, m5, y1, y2]; refine hR _ _ _ ?_; clear hR R)
    rw [seqX_nil]
    refine hK _ _ _ ?_; clear hK K
    refine hN3 _ _ _ ?_
    refine xc_iffalse (by simp [go_sem, hz, hzi, hg, xindex, f1, f2, f3, f4, f5, f6, f7, m1, m2, m3, m4, m5, y1, y2]) ?_
    refine hN2 _ _ _ ?_
    refine xc_two fun N4 hN4 => ?_
    refine xc_reg2 fun K hK => ?_
    simp only [rall, rsl, gres]
    (refine seqX_hide2 fun R hR => ?_; simp [go_sem, hz, hzi, hg, xindex, f1, f2, f3, f4, f5, f6, f7, m1, m2, m3, m4, m5, y1, y2]; refine hR _ _ _ ?_; clear hR R)
    rw [seqX_nil]
    refine hK _ _ _ ?_; clear hK K
    refine hN4 _ _ _ ?_
    refine xc_two fun N5 hN5 => ?_
    refine xc_two fun N6 hN6 => ?_
    refine xc_reg2 fun K hK => ?_
    simp only [rall, rsl, gres]
    iterate 8 (refine seqX_hide2 fun R hR => ?_; simp [go_sem, hz, hzi, hg, xindex, f1, f2, f3, f4, f5, f6, f7, m1, m2, m3, m4, m5, y1, y2]; refine hR _ _ _ ?_; clear hR R)
    rw [seqX_nil]
    refine hK _ _ _ ?_; clear hK K
    refine hN6 _ _ _ ?_
    refine xc_iffalse (by simp [go_sem, hz, hzi, hg, xindex, f1, f2, f3, f4, f5, f6, f7, m1, m2, m3, m4, m5, y1, y2]) ?_
    refine hN5 _ _ _ ?_
    refine xc_two fun N7 hN7 => ?_
    refine xc_reg2 fun K hK => ?_
    simp only [rall, rsl, gres]
    iterate 2 (refine seqX_hide2 fun R hR => ?_; simp [go_sem, hz, hzi, hg, xindex, f1, f2, f3, f4, f5, f6, f7, m1, m2, m3, m4, m5, y1, y2]; refine hR _ _ _ ?_; clear hR R)
    rw [seqX_nil]
    refine hK _ _ _ ?_; clear hK K
    refine hN7 _ _ _ ?_
    refine xc_two fun N8 hN8 => ?_
    refine xc_two fun N9 hN9 => ?_
    refine xc_reg2 fun K hK => ?_
    simp only [rall, rsl, gres]
    (refine seqX_hide2 fun R hR => ?_; simp [go_sem, hz, hzi, hg, xindex, f1, f2, f3, f4, f5, f6, f7, m1, m2, m3, m4, m5, y1, y2]; refine hR _ _ _ ?_; clear hR R)
    rw [seqX_nil]
    refine hK _ _ _ ?_; clear hK K
    refine hN9 _ _ _ ?_
    rw [xc_block]
    rw [xc_loop]
    refine vloopK (fun k' e ds A' => ∃ (i : Nat), k' = i ∧ ds = [] ∧ A' = ov A [] ∧ Priv A [] ∧ e 0 = .string s ∧ e 3 = .int .i64 10 ∧ e 4 = .int .i64 0 ∧ e 5 = .bool false ∧ e 6 = .int .i64 0 ∧ (True)) _ ⟨0, rfl, rfl, rfl, hP, by simp [go_sem, hz, hzi, hg, xindex, f1, f2, f3, f4, f5, f6, f7, m1, m2, m3, m4, m5, y1, y2], by simp [go_sem, hz, hzi, hg, xindex, f1, f2, f3, f4, f5, f6, f7, m1, m2, m3, m4, m5, y1, y2], by simp [go_sem, hz, hzi, hg, xindex, f1, f2, f3, f4, f5, f6, f7, m1, m2, m3, m4, m5, y1, y2], by simp [go_sem, hz, hzi, hg, xindex, f1, f2, f3, f4, f5, f6, f7, m1, m2, m3, m4, m5, y1, y2], by simp [go_sem, hz, hzi, hg, xindex, f1, f2, f3, f4, f5, f6, f7, m1, m2, m3, m4, m5, y1, y2], trivial⟩ ?_
    clear hP
    rintro k' e ds A' ⟨i, rfl, rfl, hV, hP, g0, g3, g4, g5, g6, hi0⟩ J1 X1 hJ1 hX1
    refine xc_sound _ ?_
    replace hV := Eq.symm hV; subst hV; replace hP : Priv A (addrs []) := hP
    refine xc_two fun N10 hN10 => ?_
    refine xc_two fun N11 hN11 => ?_
    refine xc_reg2 fun K hK => ?_
    simp only [rall, rsl, gres]
    iterate 4 (refine seqX_hide2 fun R hR => ?_; simp [go_sem, hz, hzi, hg, xindex, f1, f2, f3, f4, f5, f6, f7, m1, m2, m3, m4, m5, y1, y2, g0, g3, g4, g5, g6]; refine hR _ _ _ ?_; clear hR R)
    rw [seqX_nil]
    refine hK _ _ _ ?_; clear hK K
    refine hN11 _ _ _ ?_
    refine xc_iftrue (by simp [go_sem, hz, hzi, hg, xindex, f1, f2, f3, f4, f5, f6, f7, m1, m2, m3, m4, m5, y1, y2, g0, g3, g4, g5, g6]) ?_
    refine hN10 _ _ _ ?_
    refine xc_two fun N12 hN12 => ?_
    rw [xc_block]
    refine xc_two fun N13 hN13 => ?_
    refine xc_reg2 fun K hK => ?_
    simp only [rall, rsl, gres]
    iterate 4 (refine seqX_hide2 fun R hR => ?_; simp [go_sem, hz, hzi, hg, xindex, f1, f2, f3, f4, f5, f6, f7, m1, m2, m3, m4, m5, y1, y2, g0, g3, g4, g5, g6]; refine hR _ _ _ ?_; clear hR R)
    rw [seqX_nil]
    refine hK _ _ _ ?_; clear hK K
    refine hN13 _ _ _ ?_
    rw [xc_block]
    refine xc_two fun N14 hN14 => ?_
    refine xc_reg2 fun K hK => ?_
    simp only [rall, rsl, gres]
    iterate 3 (refine seqX_hide2 fun R hR => ?_; simp [go_sem, hz, hzi, hg, xindex, f1, f2, f3, f4, f5, f6, f7, m1, m2, m3, m4, m5, y1, y2, g0, g3, g4, g5, g6]; refine hR _ _ _ ?_; clear hR R)
    rw [seqX_nil]
    refine hK _ _ _ ?_; clear hK K
    refine hN14 _ _ _ ?_
    refine xc_iffalse (by simp [go_sem, hz, hzi, hg, xindex, f1, f2, f3, f4, f5, f6, f7, m1, m2, m3, m4, m5, y1, y2, g0, g3, g4, g5, g6]) ?_
    refine xc_two fun N15 hN15 => ?_
    refine xc_two fun N16 hN16 => ?_
    refine xc_reg2 fun K hK => ?_
    simp only [rall, rsl, gres]
    iterate 9 (refine seqX_hide2 fun R hR => ?_; simp [go_sem, hz, hzi, hg, xindex, f1, f2, f3, f4, f5, f6, f7, m1, m2, m3, m4, m5, y1, y2, g0, g3, g4, g5, g6]; refine hR _ _ _ ?_; clear hR R)
    refine seqX_hide2 fun R hR => ?_
    simp [go_sem, hz, hzi, hg, xindex, f1, f2, f3, f4, f5, f6, f7, m1, m2, m3, m4, m5, y1, y2, g0, g3, g4, g5, g6]
    refine hR _ _ _ ?_; clear hR R
    iterate 4 (refine seqX_hide2 fun R hR => ?_; simp [go_sem, hz, hzi, hg, xindex, f1, f2, f3, f4, f5, f6, f7, m1, m2, m3, m4, m5, y1, y2, g0, g3, g4, g5, g6]; refine hR _ _ _ ?_; clear hR R)
    rw [seqX_nil]
    refine hK _ _ _ ?_; clear hK K
    refine hN16 _ _ _ ?_
    refine xc_iffalse (by simp [go_sem, hz, hzi, hg, xindex, f1, f2, f3, f4, f5, f6, f7, m1, m2, m3, m4, m5, y1, y2, g0, g3, g4, g5, g6]) ?_
    refine xc_reg2 fun K hK => ?_
    simp only [rall, rsl, gres]
    iterate 13 (refine seqX_hide2 fun R hR => ?_; simp [go_sem, hz, hzi, hg, xindex, f1, f2, f3, f4, f5, f6, f7, m1, m2, m3, m4, m5, y1, y2, g0, g3, g4, g5, g6]; refine hR _ _ _ ?_; clear hR R)
    rw [seqX_nil]
    refine hK _ _ _ ?_; clear hK K
    refine hN15 _ _ _ ?_
    refine xc_iffalse (by simp [go_sem, hz, hzi, hg, xindex, f1, f2, f3, f4, f5, f6, f7, m1, m2, m3, m4, m5, y1, y2, g0, g3, g4, g5, g6]) ?_
    refine xc_two fun N17 hN17 => ?_
    refine xc_reg2 fun K hK => ?_
    simp only [rall, rsl, gres]
    iterate 11 (refine seqX_hide2 fun R hR => ?_; simp [go_sem, hz, hzi, hg, xindex, f1, f2, f3, f4, f5, f6, f7, m1, m2, m3, m4, m5, y1, y2, g0, g3, g4, g5, g6]; refine hR _ _ _ ?_; clear hR R)
    rw [seqX_nil]
    refine hK _ _ _ ?_; clear hK K
    refine hN17 _ _ _ ?_
    refine xc_iffalse (by simp [go_sem, hz, hzi, hg, xindex, f1, f2, f3, f4, f5, f6, f7, m1, m2, m3, m4, m5, y1, y2, g0, g3, g4, g5, g6]) ?_
    refine xc_two fun N18 hN18 => ?_
    cases hx : (w == 101) with
    | true =>
      refine xc_reg2 fun K hK => ?_
      simp only [rall, rsl, gres]
      iterate 12 (refine seqX_hide2 fun R hR => ?_; simp [go_sem, hz, hzi, hg, xindex, f1, f2, f3, f4, f5, f6, f7, m1, m2, m3, m4, m5, y1, y2, g0, g3, g4, g5, g6, ↓hor, hx]; refine hR _ _ _ ?_; clear hR R)
      rw [seqX_nil]
      refine hK _ _ _ ?_; clear hK K
      refine hN18 _ _ _ ?_
      refine xc_iffalse (by simp [go_sem, hz, hzi, hg, xindex, f1, f2, f3, f4, f5, f6, f7, m1, m2, m3, m4, m5, y1, y2, g0, g3, g4, g5, g6, ↓hor, hx]) ?_
      refine xc_two fun N19 hN19 => ?_
      refine xc_reg2 fun K hK => ?_
      simp only [rall, rsl, gres]
      (refine seqX_hide2 fun R hR => ?_; simp [go_sem, hz, hzi, hg, xindex, f1, f2, f3, f4, f5, f6, f7, m1, m2, m3, m4, m5, y1, y2, g0, g3, g4, g5, g6, ↓hor, hx]; refine hR _ _ _ ?_; clear hR R)
      rw [seqX_nil]
      refine hK _ _ _ ?_; clear hK K
      refine hN19 _ _ _ ?_
      refine hX1 _ _ _ _ ?_
      simp [go_sem, hz, hzi, hg, xindex, f1, f2, f3, f4, f5, f6, f7, m1, m2, m3, m4, m5, y1, y2, g0, g3, g4, g5, g6, ↓hor, hx]
      rfl
    | false =>
    refine xc_reg2 fun K hK => ?_
    simp only [rall, rsl, gres]
    iterate 12 (refine seqX_hide2 fun R hR => ?_; simp [go_sem, hz, hzi, hg, xindex, f1, f2, f3, f4, f5, f6, f7, m1, m2, m3, m4, m5, y1, y2, g0, g3, g4, g5, g6, ↓hor, hx]; refine hR _ _ _ ?_; clear hR R)
    rw [seqX_nil]
    refine hK _ _ _ ?_; clear hK K
    refine hN18 _ _ _ ?_
    refine xc_iffalse (by simp [go_sem, hz, hzi, hg, xindex, f1, f2, f3, f4, f5, f6, f7, m1, m2, m3, m4, m5, y1, y2, g0, g3, g4, g5, g6, ↓hor, hx]) ?_
    refine xc_two fun N19 hN19 => ?_
    refine xc_reg2 fun K hK => ?_
    simp only [rall, rsl, gres]
    (refine seqX_hide2 fun R hR => ?_; simp [go_sem, hz, hzi, hg, xindex, f1, f2, f3, f4, f5, f6, f7, m1, m2, m3, m4, m5, y1, y2, g0, g3, g4, g5, g6, ↓hor, hx]; refine hR _ _ _ ?_; clear hR R)
    rw [seqX_nil]
    refine hK _ _ _ ?_; clear hK K
    refine hN19 _ _ _ ?_
    refine hX1 _ _ _ _ ?_
    simp [go_sem, hz, hzi, hg, xindex, f1, f2, f3, f4, f5, f6, f7, m1, m2, m3, m4, m5, y1, y2, g0, g3, g4, g5, g6, ↓hor, hx]
    rfl
  have y2 : ¬ (2 : Int) < s.size := by omega
  refine xc_two fun N1 hN1 => ?_
  refine xc_reg2 fun K hK => ?_
  simp only [rall, rsl, gres]
  (refine seqX_hide2 fun R hR => ?_; simp [go_sem, hz, hzi, hg, xindex, f1, f2, f3, f4, f5, f6, f7, m1, m2, m3, m4, m5, y1, y2]; refine hR _ _ _ ?_; clear hR R)
  rw [seqX_nil]
  refine hK _ _ _ ?_; clear hK K
  refine hN1 _ _ _ ?_
  refine xc_two fun N2 hN2 => ?_
  refine xc_two fun N3 hN3 => ?_
  refine xc_reg2 fun K hK => ?_
  simp only [rall, rsl, gres]
  iterate 8 (refine seqX_hide2 fun R hR => ?_; simp [go_sem, hz, hzi, hg, xindex, f1, f2, f3, f4, f5, f6, f7, m1, m2, m3, m4, m5, y1, y2]; refine hR _ _ _ ?_; clear hR R)
  rw [seqX_nil]
  refine hK _ _ _ ?_; clear hK K
  refine hN3 _ _ _ ?_
  refine xc_iffalse (by simp [go_sem, hz, hzi, hg, xindex, f1, f2, f3, f4, f5, f6, f7, m1, m2, m3, m4, m5, y1, y2]) ?_
  refine hN2 _ _ _ ?_
  refine xc_two fun N4 hN4 => ?_
  refine xc_reg2 fun K hK => ?_
  simp only [rall, rsl, gres]
  (refine seqX_hide2 fun R hR => ?_; simp [go_sem, hz, hzi, hg, xindex, f1, f2, f3, f4, f5, f6, f7, m1, m2, m3, m4, m5, y1, y2]; refine hR _ _ _ ?_; clear hR R)
  rw [seqX_nil]
  refine hK _ _ _ ?_; clear hK K
  refine hN4 _ _ _ ?_
  refine xc_two fun N5 hN5 => ?_
  refine xc_two fun N6 hN6 => ?_
  refine xc_reg2 fun K hK => ?_
  simp only [rall, rsl, gres]
  iterate 8 (refine seqX_hide2 fun R hR => ?_; simp [go_sem, hz, hzi, hg, xindex, f1, f2, f3, f4, f5, f6, f7, m1, m2, m3, m4, m5, y1, y2]; refine hR _ _ _ ?_; clear hR R)
  rw [seqX_nil]
  refine hK _ _ _ ?_; clear hK K
  refine hN6 _ _ _ ?_
  refine xc_iffalse (by simp [go_sem, hz, hzi, hg, xindex, f1, f2, f3, f4, f5, f6, f7, m1, m2, m3, m4, m5, y1, y2]) ?_
  refine hN5 _ _ _ ?_
  refine xc_two fun N7 hN7 => ?_
  refine xc_reg2 fun K hK => ?_
  simp only [rall, rsl, gres]
  iterate 2 (refine seqX_hide2 fun R hR => ?_; simp [go_sem, hz, hzi, hg, xindex, f1, f2, f3, f4, f5, f6, f7, m1, m2, m3, m4, m5, y1, y2]; refine hR _ _ _ ?_; clear hR R)
  rw [seqX_nil]
  refine hK _ _ _ ?_; clear hK K
  refine hN7 _ _ _ ?_
  refine xc_two fun N8 hN8 => ?_
  refine xc_two fun N9 hN9 => ?_
  refine xc_reg2 fun K hK => ?_
  simp only [rall, rsl, gres]
  (refine seqX_hide2 fun R hR => ?_; simp [go_sem, hz, hzi, hg, xindex, f1, f2, f3, f4, f5, f6, f7, m1, m2, m3, m4, m5, y1, y2]; refine hR _ _ _ ?_; clear hR R)
  rw [seqX_nil]
  refine hK _ _ _ ?_; clear hK K
  refine hN9 _ _ _ ?_
  rw [xc_block]
  rw [xc_loop]
  refine vloopK (fun k' e ds A' => ∃ (i : Nat), k' = i ∧ ds = [] ∧ A' = ov A [] ∧ Priv A [] ∧ e 0 = .string s ∧ e 3 = .int .i64 10 ∧ e 4 = .int .i64 0 ∧ e 5 = .bool false ∧ e 6 = .int .i64 0 ∧ (True)) _ ⟨0, rfl, rfl, rfl, hP, by simp [go_sem, hz, hzi, hg, xindex, f1, f2, f3, f4, f5, f6, f7, m1, m2, m3, m4, m5, y1, y2], by simp [go_sem, hz, hzi, hg, xindex, f1, f2, f3, f4, f5, f6, f7, m1, m2, m3, m4, m5, y1, y2], by simp [go_sem, hz, hzi, hg, xindex, f1, f2, f3, f4, f5, f6, f7, m1, m2, m3, m4, m5, y1, y2], by simp [go_sem, hz, hzi, hg, xindex, f1, f2, f3, f4, f5, f6, f7, m1, m2, m3, m4, m5, y1, y2], by simp [go_sem, hz, hzi, hg, xindex, f1, f2, f3, f4, f5, f6, f7, m1, m2, m3, m4, m5, y1, y2], trivial⟩ ?_
  clear hP
  rintro k' e ds A' ⟨i, rfl, rfl, hV, hP, g0, g3, g4, g5, g6, hi0⟩ J1 X1 hJ1 hX1
  refine xc_sound _ ?_
  replace hV := Eq.symm hV; subst hV; replace hP : Priv A (addrs []) := hP
  refine xc_two fun N10 hN10 => ?_
  refine xc_two fun N11 hN11 => ?_
  refine xc_reg2 fun K hK => ?_
  simp only [rall, rsl, gres]
  iterate 4 (refine seqX_hide2 fun R hR => ?_; simp [go_sem, hz, hzi, hg, xindex, f1, f2, f3, f4, f5, f6, f7, m1, m2, m3, m4, m5, y1, y2, g0, g3, g4, g5, g6]; refine hR _ _ _ ?_; clear hR R)
  rw [seqX_nil]
  refine hK _ _ _ ?_; clear hK K
  refine hN11 _ _ _ ?_
  refine xc_iftrue (by simp [go_sem, hz, hzi, hg, xindex, f1, f2, f3, f4, f5, f6, f7, m1, m2, m3, m4, m5, y1, y2, g0, g3, g4, g5, g6]) ?_
  refine hN10 _ _ _ ?_
  refine xc_two fun N12 hN12 => ?_
  rw [xc_block]
  refine xc_two fun N13 hN13 => ?_
  refine xc_reg2 fun K hK => ?_
  simp only [rall, rsl, gres]
  iterate 4 (refine seqX_hide2 fun R hR => ?_; simp [go_sem, hz, hzi, hg, xindex, f1, f2, f3, f4, f5, f6, f7, m1, m2, m3, m4, m5, y1, y2, g0, g3, g4, g5, g6]; refine hR _ _ _ ?_; clear hR R)
  rw [seqX_nil]
  refine hK _ _ _ ?_; clear hK K
  refine hN13 _ _ _ ?_
  rw [xc_block]
  refine xc_two fun N14 hN14 => ?_
  refine xc_reg2 fun K hK => ?_
  simp only [rall, rsl, gres]
  iterate 3 (refine seqX_hide2 fun R hR => ?_; simp [go_sem, hz, hzi, hg, xindex, f1, f2, f3, f4, f5, f6, f7, m1, m2, m3, m4, m5, y1, y2, g0, g3, g4, g5, g6]; refine hR _ _ _ ?_; clear hR R)
  rw [seqX_nil]
  refine hK _ _ _ ?_; clear hK K
  refine hN14 _ _ _ ?_
  refine xc_iffalse (by simp [go_sem, hz, hzi, hg, xindex, f1, f2, f3, f4, f5, f6, f7, m1, m2, m3, m4, m5, y1, y2, g0, g3, g4, g5, g6]) ?_
  refine xc_two fun N15 hN15 => ?_
  refine xc_two fun N16 hN16 => ?_
  refine xc_reg2 fun K hK => ?_
  simp only [rall, rsl, gres]
  iterate 9 (refine seqX_hide2 fun R hR => ?_; simp [go_sem, hz, hzi, hg, xindex, f1, f2, f3, f4, f5, f6, f7, m1, m2, m3, m4, m5, y1, y2, g0, g3, g4, g5, g6]; refine hR _ _ _ ?_; clear hR R)
  refine seqX_hide2 fun R hR => ?_
  simp [go_sem, hz, hzi, hg, xindex, f1, f2, f3, f4, f5, f6, f7, m1, m2, m3, m4, m5, y1, y2, g0, g3, g4, g5, g6]
  refine hR _ _ _ ?_; clear hR R
  iterate 4 (refine seqX_hide2 fun R hR => ?_; simp [go_sem, hz, hzi, hg, xindex, f1, f2, f3, f4, f5, f6, f7, m1, m2, m3, m4, m5, y1, y2, g0, g3, g4, g5, g6]; refine hR _ _ _ ?_; clear hR R)
  rw [seqX_nil]
  refine hK _ _ _ ?_; clear hK K
  refine hN16 _ _ _ ?_
  refine xc_iffalse (by simp [go_sem, hz, hzi, hg, xindex, f1, f2, f3, f4, f5, f6, f7, m1, m2, m3, m4, m5, y1, y2, g0, g3, g4, g5, g6]) ?_
  refine xc_reg2 fun K hK => ?_
  simp only [rall, rsl, gres]
  iterate 13 (refine seqX_hide2 fun R hR => ?_; simp [go_sem, hz, hzi, hg, xindex, f1, f2, f3, f4, f5, f6, f7, m1, m2, m3, m4, m5, y1, y2, g0, g3, g4, g5, g6]; refine hR _ _ _ ?_; clear hR R)
  rw [seqX_nil]
  refine hK _ _ _ ?_; clear hK K
  refine hN15 _ _ _ ?_
  refine xc_iffalse (by simp [go_sem, hz, hzi, hg, xindex, f1, f2, f3, f4, f5, f6, f7, m1, m2, m3, m4, m5, y1, y2, g0, g3, g4, g5, g6]) ?_
  refine xc_two fun N17 hN17 => ?_
  refine xc_reg2 fun K hK => ?_
  simp only [rall, rsl, gres]
  iterate 11 (refine seqX_hide2 fun R hR => ?_; simp [go_sem, hz, hzi, hg, xindex, f1, f2, f3, f4, f5, f6, f7, m1, m2, m3, m4, m5, y1, y2, g0, g3, g4, g5, g6]; refine hR _ _ _ ?_; clear hR R)
  rw [seqX_nil]
  refine hK _ _ _ ?_; clear hK K
  refine hN17 _ _ _ ?_
  refine xc_iffalse (by simp [go_sem, hz, hzi, hg, xindex, f1, f2, f3, f4, f5, f6, f7, m1, m2, m3, m4, m5, y1, y2, g0, g3, g4, g5, g6]) ?_
  refine xc_two fun N18 hN18 => ?_
  cases hx : (w == 101) with
  | true =>
    refine xc_reg2 fun K hK => ?_
    simp only [rall, rsl, gres]
    iterate 12 (refine seqX_hide2 fun R hR => ?_; simp [go_sem, hz, hzi, hg, xindex, f1, f2, f3, f4, f5, f6, f7, m1, m2, m3, m4, m5, y1, y2, g0, g3, g4, g5, g6, ↓hor, hx]; refine hR _ _ _ ?_; clear hR R)
    rw [seqX_nil]
    refine hK _ _ _ ?_; clear hK K
    refine hN18 _ _ _ ?_
    refine xc_iffalse (by simp [go_sem, hz, hzi, hg, xindex, f1, f2, f3, f4, f5, f6, f7, m1, m2, m3, m4, m5, y1, y2, g0, g3, g4, g5, g6, ↓hor, hx]) ?_
    refine xc_two fun N19 hN19 => ?_
    refine xc_reg2 fun K hK => ?_
    simp only [rall, rsl, gres]
    (refine seqX_hide2 fun R hR => ?_; simp [go_sem, hz, hzi, hg, xindex, f1, f2, f3, f4, f5, f6, f7, m1, m2, m3, m4, m5, y1, y2, g0, g3, g4, g5, g6, ↓hor, hx]; refine hR _ _ _ ?_; clear hR R)
    rw [seqX_nil]
    refine hK _ _ _ ?_; clear hK K
    refine hN19 _ _ _ ?_
    refine hX1 _ _ _ _ ?_
    simp [go_sem, hz, hzi, hg, xindex, f1, f2, f3, f4, f5, f6, f7, m1, m2, m3, m4, m5, y1, y2, g0, g3, g4, g5, g6, ↓hor, hx]
    rfl
  | false =>
  refine xc_reg2 fun K hK => ?_
  simp only [rall, rsl, gres]
  iterate 12 (refine seqX_hide2 fun R hR => ?_; simp [go_sem, hz, hzi, hg, xindex, f1, f2, f3, f4, f5, f6, f7, m1, m2, m3, m4, m5, y1, y2, g0, g3, g4, g5, g6, ↓hor, hx]; refine hR _ _ _ ?_; clear hR R)
  rw [seqX_nil]
  refine hK _ _ _ ?_; clear hK K
  refine hN18 _ _ _ ?_
  refine xc_iffalse (by simp [go_sem, hz, hzi, hg, xindex, f1, f2, f3, f4, f5, f6, f7, m1, m2, m3, m4, m5, y1, y2, g0, g3, g4, g5, g6, ↓hor, hx]) ?_
  refine xc_two fun N19 hN19 => ?_
  refine xc_reg2 fun K hK => ?_
  simp only [rall, rsl, gres]
  (refine seqX_hide2 fun R hR => ?_; simp [go_sem, hz, hzi, hg, xindex, f1, f2, f3, f4, f5, f6, f7, m1, m2, m3, m4, m5, y1, y2, g0, g3, g4, g5, g6, ↓hor, hx]; refine hR _ _ _ ?_; clear hR R)
  rw [seqX_nil]
  refine hK _ _ _ ?_; clear hK K
  refine hN19 _ _ _ ?_
  refine hX1 _ _ _ _ ?_
  simp [go_sem, hz, hzi, hg, xindex, f1, f2, f3, f4, f5, f6, f7, m1, m2, m3, m4, m5, y1, y2, g0, g3, g4, g5, g6, ↓hor, hx]
  rfl
theorem wd_ascii {s : ByteArray} (hw : Wd s) : ∀ j (h : j < s.size), s[j] ≠ 10 := fun j h e => by
  have h1 := (hw.2.2 j h).1
  rw [e] at h1
  exact absurd h1 (by decide)
def IsBo (r : Value) : Prop := ∃ b, r = .bool b
set_option maxRecDepth 20000 in
set_option maxHeartbeats 4000000 in
theorem nonStr119W (A : View) (s : ByteArray) (hw : Wd s) : VCalls Try.prog 119 #[.string s] A fun r A' => IsBo r ∧ A' = A := by
  have hn0 : ¬ s = ByteArray.empty := fun e => hw.1 (by rw [e]; rfl)
  have hn1 := (ne_empty (v := s) hn0).1
  have hn2 := (ne_empty (v := s) hn0).2
  refine xcalls Try.func119 rfl (by simp [Try.ntmps119]) ?_
  simp only [Try.f119]
  have hP : Priv A (addrs []) := Priv.nil A
  show xc _ _ _ _ _ _ (ov A [])
  refine xc_two fun N1 hN1 => ?_
  refine xc_reg2 fun K hK => ?_
  simp only [rall, rsl, gres]
  (refine seqX_hide2 fun R hR => ?_; simp [go_sem, hn0, hn1, hn2]; refine hR _ _ _ ?_; clear hR R)
  rw [seqX_nil]
  refine hK _ _ _ ?_; clear hK K
  refine hN1 _ _ _ ?_
  refine xc_two fun N2 hN2 => ?_
  refine xc_two fun N3 hN3 => ?_
  refine xc_reg2 fun K hK => ?_
  simp only [rall, rsl, gres]
  iterate 2 (refine seqX_hide2 fun R hR => ?_; simp [go_sem, hn0, hn1, hn2]; refine hR _ _ _ ?_; clear hR R)
  rw [seqX_nil]
  refine hK _ _ _ ?_; clear hK K
  refine hN3 _ _ _ ?_
  refine xc_iffalse (by simp [go_sem, hn0, hn1, hn2]) ?_
  refine hN2 _ _ _ ?_
  refine xc_two fun N4 hN4 => ?_
  refine xc_two fun N5 hN5 => ?_
  refine xc_reg2 fun K hK => ?_
  simp only [rall, rsl, gres]
  (refine seqX_hide2 fun R hR => ?_; simp [go_sem, hn0, hn1, hn2]; refine hR _ _ _ ?_; clear hR R)
  refine seqX_hide2 fun R hR => ?_
  simp [go_sem, hn0, hn1, hn2]
  refine call_same hP (cont121 A s (by have := hw.2.1; omega) (wd_ascii hw)) ?_
  rintro _ rfl
  refine hR _ _ _ ?_; clear hR R
  rw [seqX_nil]
  refine hK _ _ _ ?_; clear hK K
  refine hN5 _ _ _ ?_
  refine xc_iffalse (by simp [go_sem, hn0, hn1, hn2]) ?_
  refine hN4 _ _ _ ?_
  refine xc_two fun N6 hN6 => ?_
  refine xc_two fun N7 hN7 => ?_
  refine xc_reg2 fun K hK => ?_
  simp only [rall, rsl, gres]
  (refine seqX_hide2 fun R hR => ?_; simp [go_sem, hn0, hn1, hn2]; refine hR _ _ _ ?_; clear hR R)
  rw [seqX_nil]
  refine hK _ _ _ ?_; clear hK K
  refine hN7 _ _ _ ?_
  rw [xc_block]
  refine xc_two fun N8 hN8 => ?_
  refine xc_two fun N9 hN9 => ?_
  have fin : ∀ (b : Bool) (e : Env), Priv A [] → e 0 = .string s → e 8 = .bool b → N8 e [] (ov A []) := by
    clear hP
    intro b e hP g0 g8
    refine hN8 _ _ _ ?_
    cases b with
    | true =>
      refine xc_iftrue (by simp [go_sem, hn0, hn1, hn2, g0, g8]) ?_
      refine xc_two fun N10 hN10 => ?_
      refine xc_reg2 fun K hK => ?_
      simp only [rall, rsl, gres]
      (refine seqX_hide2 fun R hR => ?_; simp [go_sem, hn0, hn1, hn2, g0, g8]; refine hR _ _ _ ?_; clear hR R)
      rw [seqX_nil]
      refine hK _ _ _ ?_; clear hK K
      refine hN10 _ _ _ ?_
      simp [go_sem, hn0, hn1, hn2, g0, g8]
      exact ⟨⟨_, rfl⟩, rfl⟩
    | false =>
    refine xc_iffalse (by simp [go_sem, hn0, hn1, hn2, g0, g8]) ?_
    refine hN6 _ _ _ ?_
    refine xc_two fun N10 hN10 => ?_
    refine xc_reg2 fun K hK => ?_
    simp only [rall, rsl, gres]
    (refine seqX_hide2 fun R hR => ?_; simp [go_sem, hn0, hn1, hn2, g0, g8]; refine hR _ _ _ ?_; clear hR R)
    refine seqX_hide2 fun R hR => ?_
    simp [go_sem, hn0, hn1, hn2, g0, g8]
    refine call_same hP (number122W A s hw) ?_
    rintro _ rfl
    refine hR _ _ _ ?_; clear hR R
    (refine seqX_hide2 fun R hR => ?_; simp [go_sem, hn0, hn1, hn2, g0, g8]; refine hR _ _ _ ?_; clear hR R)
    rw [seqX_nil]
    refine hK _ _ _ ?_; clear hK K
    refine hN10 _ _ _ ?_
    simp [go_sem, hn0, hn1, hn2, g0, g8]
    exact ⟨⟨_, rfl⟩, rfl⟩
  cases k0 : (s.toList == [126]) with
  | true =>
    refine xc_reg2 fun K hK => ?_
    simp only [rall, rsl, gres]
    iterate 2 (refine seqX_hide2 fun R hR => ?_; simp [go_sem, hn0, hn1, hn2, k0]; refine hR _ _ _ ?_; clear hR R)
    rw [seqX_nil]
    refine hK _ _ _ ?_; clear hK K
    refine hN9 _ _ _ ?_
    refine xc_iftrue (by simp [go_sem, hn0, hn1, hn2, k0]) ?_
    exact fin (true) _ hP (by simp [go_sem, hn0, hn1, hn2, k0]) (by simp [go_sem, hn0, hn1, hn2, k0])
  | false =>
  refine xc_reg2 fun K hK => ?_
  simp only [rall, rsl, gres]
  iterate 2 (refine seqX_hide2 fun R hR => ?_; simp [go_sem, hn0, hn1, hn2, k0]; refine hR _ _ _ ?_; clear hR R)
  rw [seqX_nil]
  refine hK _ _ _ ?_; clear hK K
  refine hN9 _ _ _ ?_
  refine xc_iffalse (by simp [go_sem, hn0, hn1, hn2, k0]) ?_
  refine xc_two fun N10 hN10 => ?_
  refine xc_reg2 fun K hK => ?_
  simp only [rall, rsl, gres]
  iterate 2 (refine seqX_hide2 fun R hR => ?_; simp [go_sem, hn0, hn1, hn2, k0]; refine hR _ _ _ ?_; clear hR R)
  rw [seqX_nil]
  refine hK _ _ _ ?_; clear hK K
  refine hN10 _ _ _ ?_
  cases k1 : (s.toList == [110, 117, 108, 108]) with
  | true =>
    refine xc_iftrue (by simp [go_sem, hn0, hn1, hn2, k0, k1]) ?_
    exact fin (true) _ hP (by simp [go_sem, hn0, hn1, hn2, k0, k1]) (by simp [go_sem, hn0, hn1, hn2, k0, k1])
  | false =>
  refine xc_iffalse (by simp [go_sem, hn0, hn1, hn2, k0, k1]) ?_
  refine xc_two fun N11 hN11 => ?_
  refine xc_reg2 fun K hK => ?_
  simp only [rall, rsl, gres]
  iterate 2 (refine seqX_hide2 fun R hR => ?_; simp [go_sem, hn0, hn1, hn2, k0, k1]; refine hR _ _ _ ?_; clear hR R)
  rw [seqX_nil]
  refine hK _ _ _ ?_; clear hK K
  refine hN11 _ _ _ ?_
  cases k2 : (s.toList == [78, 117, 108, 108]) with
  | true =>
    refine xc_iftrue (by simp [go_sem, hn0, hn1, hn2, k0, k1, k2]) ?_
    exact fin (true) _ hP (by simp [go_sem, hn0, hn1, hn2, k0, k1, k2]) (by simp [go_sem, hn0, hn1, hn2, k0, k1, k2])
  | false =>
  refine xc_iffalse (by simp [go_sem, hn0, hn1, hn2, k0, k1, k2]) ?_
  refine xc_two fun N12 hN12 => ?_
  refine xc_reg2 fun K hK => ?_
  simp only [rall, rsl, gres]
  iterate 2 (refine seqX_hide2 fun R hR => ?_; simp [go_sem, hn0, hn1, hn2, k0, k1, k2]; refine hR _ _ _ ?_; clear hR R)
  rw [seqX_nil]
  refine hK _ _ _ ?_; clear hK K
  refine hN12 _ _ _ ?_
  cases k3 : (s.toList == [78, 85, 76, 76]) with
  | true =>
    refine xc_iftrue (by simp [go_sem, hn0, hn1, hn2, k0, k1, k2, k3]) ?_
    exact fin (true) _ hP (by simp [go_sem, hn0, hn1, hn2, k0, k1, k2, k3]) (by simp [go_sem, hn0, hn1, hn2, k0, k1, k2, k3])
  | false =>
  refine xc_iffalse (by simp [go_sem, hn0, hn1, hn2, k0, k1, k2, k3]) ?_
  refine xc_two fun N13 hN13 => ?_
  refine xc_reg2 fun K hK => ?_
  simp only [rall, rsl, gres]
  iterate 2 (refine seqX_hide2 fun R hR => ?_; simp [go_sem, hn0, hn1, hn2, k0, k1, k2, k3]; refine hR _ _ _ ?_; clear hR R)
  rw [seqX_nil]
  refine hK _ _ _ ?_; clear hK K
  refine hN13 _ _ _ ?_
  cases k4 : (s.toList == [116, 114, 117, 101]) with
  | true =>
    refine xc_iftrue (by simp [go_sem, hn0, hn1, hn2, k0, k1, k2, k3, k4]) ?_
    exact fin (true) _ hP (by simp [go_sem, hn0, hn1, hn2, k0, k1, k2, k3, k4]) (by simp [go_sem, hn0, hn1, hn2, k0, k1, k2, k3, k4])
  | false =>
  refine xc_iffalse (by simp [go_sem, hn0, hn1, hn2, k0, k1, k2, k3, k4]) ?_
  refine xc_two fun N14 hN14 => ?_
  refine xc_reg2 fun K hK => ?_
  simp only [rall, rsl, gres]
  iterate 2 (refine seqX_hide2 fun R hR => ?_; simp [go_sem, hn0, hn1, hn2, k0, k1, k2, k3, k4]; refine hR _ _ _ ?_; clear hR R)
  rw [seqX_nil]
  refine hK _ _ _ ?_; clear hK K
  refine hN14 _ _ _ ?_
  cases k5 : (s.toList == [84, 114, 117, 101]) with
  | true =>
    refine xc_iftrue (by simp [go_sem, hn0, hn1, hn2, k0, k1, k2, k3, k4, k5]) ?_
    exact fin (true) _ hP (by simp [go_sem, hn0, hn1, hn2, k0, k1, k2, k3, k4, k5]) (by simp [go_sem, hn0, hn1, hn2, k0, k1, k2, k3, k4, k5])
  | false =>
  refine xc_iffalse (by simp [go_sem, hn0, hn1, hn2, k0, k1, k2, k3, k4, k5]) ?_
  refine xc_two fun N15 hN15 => ?_
  refine xc_reg2 fun K hK => ?_
  simp only [rall, rsl, gres]
  iterate 2 (refine seqX_hide2 fun R hR => ?_; simp [go_sem, hn0, hn1, hn2, k0, k1, k2, k3, k4, k5]; refine hR _ _ _ ?_; clear hR R)
  rw [seqX_nil]
  refine hK _ _ _ ?_; clear hK K
  refine hN15 _ _ _ ?_
  cases k6 : (s.toList == [84, 82, 85, 69]) with
  | true =>
    refine xc_iftrue (by simp [go_sem, hn0, hn1, hn2, k0, k1, k2, k3, k4, k5, k6]) ?_
    exact fin (true) _ hP (by simp [go_sem, hn0, hn1, hn2, k0, k1, k2, k3, k4, k5, k6]) (by simp [go_sem, hn0, hn1, hn2, k0, k1, k2, k3, k4, k5, k6])
  | false =>
  refine xc_iffalse (by simp [go_sem, hn0, hn1, hn2, k0, k1, k2, k3, k4, k5, k6]) ?_
  refine xc_two fun N16 hN16 => ?_
  refine xc_reg2 fun K hK => ?_
  simp only [rall, rsl, gres]
  iterate 2 (refine seqX_hide2 fun R hR => ?_; simp [go_sem, hn0, hn1, hn2, k0, k1, k2, k3, k4, k5, k6]; refine hR _ _ _ ?_; clear hR R)
  rw [seqX_nil]
  refine hK _ _ _ ?_; clear hK K
  refine hN16 _ _ _ ?_
  cases k7 : (s.toList == [102, 97, 108, 115, 101]) with
  | true =>
    refine xc_iftrue (by simp [go_sem, hn0, hn1, hn2, k0, k1, k2, k3, k4, k5, k6, k7]) ?_
    exact fin (true) _ hP (by simp [go_sem, hn0, hn1, hn2, k0, k1, k2, k3, k4, k5, k6, k7]) (by simp [go_sem, hn0, hn1, hn2, k0, k1, k2, k3, k4, k5, k6, k7])
  | false =>
  refine xc_iffalse (by simp [go_sem, hn0, hn1, hn2, k0, k1, k2, k3, k4, k5, k6, k7]) ?_
  refine xc_two fun N17 hN17 => ?_
  refine xc_reg2 fun K hK => ?_
  simp only [rall, rsl, gres]
  iterate 2 (refine seqX_hide2 fun R hR => ?_; simp [go_sem, hn0, hn1, hn2, k0, k1, k2, k3, k4, k5, k6, k7]; refine hR _ _ _ ?_; clear hR R)
  rw [seqX_nil]
  refine hK _ _ _ ?_; clear hK K
  refine hN17 _ _ _ ?_
  cases k8 : (s.toList == [70, 97, 108, 115, 101]) with
  | true =>
    refine xc_iftrue (by simp [go_sem, hn0, hn1, hn2, k0, k1, k2, k3, k4, k5, k6, k7, k8]) ?_
    exact fin (true) _ hP (by simp [go_sem, hn0, hn1, hn2, k0, k1, k2, k3, k4, k5, k6, k7, k8]) (by simp [go_sem, hn0, hn1, hn2, k0, k1, k2, k3, k4, k5, k6, k7, k8])
  | false =>
  refine xc_iffalse (by simp [go_sem, hn0, hn1, hn2, k0, k1, k2, k3, k4, k5, k6, k7, k8]) ?_
  refine xc_two fun N18 hN18 => ?_
  refine xc_reg2 fun K hK => ?_
  simp only [rall, rsl, gres]
  iterate 2 (refine seqX_hide2 fun R hR => ?_; simp [go_sem, hn0, hn1, hn2, k0, k1, k2, k3, k4, k5, k6, k7, k8]; refine hR _ _ _ ?_; clear hR R)
  rw [seqX_nil]
  refine hK _ _ _ ?_; clear hK K
  refine hN18 _ _ _ ?_
  cases k9 : (s.toList == [70, 65, 76, 83, 69]) with
  | true =>
    refine xc_iftrue (by simp [go_sem, hn0, hn1, hn2, k0, k1, k2, k3, k4, k5, k6, k7, k8, k9]) ?_
    exact fin (true) _ hP (by simp [go_sem, hn0, hn1, hn2, k0, k1, k2, k3, k4, k5, k6, k7, k8, k9]) (by simp [go_sem, hn0, hn1, hn2, k0, k1, k2, k3, k4, k5, k6, k7, k8, k9])
  | false =>
  refine xc_iffalse (by simp [go_sem, hn0, hn1, hn2, k0, k1, k2, k3, k4, k5, k6, k7, k8, k9]) ?_
  refine xc_two fun N19 hN19 => ?_
  refine xc_reg2 fun K hK => ?_
  simp only [rall, rsl, gres]
  iterate 2 (refine seqX_hide2 fun R hR => ?_; simp [go_sem, hn0, hn1, hn2, k0, k1, k2, k3, k4, k5, k6, k7, k8, k9]; refine hR _ _ _ ?_; clear hR R)
  rw [seqX_nil]
  refine hK _ _ _ ?_; clear hK K
  refine hN19 _ _ _ ?_
  cases k10 : (s.toList == [121]) with
  | true =>
    refine xc_iftrue (by simp [go_sem, hn0, hn1, hn2, k0, k1, k2, k3, k4, k5, k6, k7, k8, k9, k10]) ?_
    exact fin (true) _ hP (by simp [go_sem, hn0, hn1, hn2, k0, k1, k2, k3, k4, k5, k6, k7, k8, k9, k10]) (by simp [go_sem, hn0, hn1, hn2, k0, k1, k2, k3, k4, k5, k6, k7, k8, k9, k10])
  | false =>
  refine xc_iffalse (by simp [go_sem, hn0, hn1, hn2, k0, k1, k2, k3, k4, k5, k6, k7, k8, k9, k10]) ?_
  refine xc_two fun N20 hN20 => ?_
  refine xc_reg2 fun K hK => ?_
  simp only [rall, rsl, gres]
  iterate 2 (refine seqX_hide2 fun R hR => ?_; simp [go_sem, hn0, hn1, hn2, k0, k1, k2, k3, k4, k5, k6, k7, k8, k9, k10]; refine hR _ _ _ ?_; clear hR R)
  rw [seqX_nil]
  refine hK _ _ _ ?_; clear hK K
  refine hN20 _ _ _ ?_
  cases k11 : (s.toList == [89]) with
  | true =>
    refine xc_iftrue (by simp [go_sem, hn0, hn1, hn2, k0, k1, k2, k3, k4, k5, k6, k7, k8, k9, k10, k11]) ?_
    exact fin (true) _ hP (by simp [go_sem, hn0, hn1, hn2, k0, k1, k2, k3, k4, k5, k6, k7, k8, k9, k10, k11]) (by simp [go_sem, hn0, hn1, hn2, k0, k1, k2, k3, k4, k5, k6, k7, k8, k9, k10, k11])
  | false =>
  refine xc_iffalse (by simp [go_sem, hn0, hn1, hn2, k0, k1, k2, k3, k4, k5, k6, k7, k8, k9, k10, k11]) ?_
  refine xc_two fun N21 hN21 => ?_
  refine xc_reg2 fun K hK => ?_
  simp only [rall, rsl, gres]
  iterate 2 (refine seqX_hide2 fun R hR => ?_; simp [go_sem, hn0, hn1, hn2, k0, k1, k2, k3, k4, k5, k6, k7, k8, k9, k10, k11]; refine hR _ _ _ ?_; clear hR R)
  rw [seqX_nil]
  refine hK _ _ _ ?_; clear hK K
  refine hN21 _ _ _ ?_
  cases k12 : (s.toList == [121, 101, 115]) with
  | true =>
    refine xc_iftrue (by simp [go_sem, hn0, hn1, hn2, k0, k1, k2, k3, k4, k5, k6, k7, k8, k9, k10, k11, k12]) ?_
    exact fin (true) _ hP (by simp [go_sem, hn0, hn1, hn2, k0, k1, k2, k3, k4, k5, k6, k7, k8, k9, k10, k11, k12]) (by simp [go_sem, hn0, hn1, hn2, k0, k1, k2, k3, k4, k5, k6, k7, k8, k9, k10, k11, k12])
  | false =>
  refine xc_iffalse (by simp [go_sem, hn0, hn1, hn2, k0, k1, k2, k3, k4, k5, k6, k7, k8, k9, k10, k11, k12]) ?_
  refine xc_two fun N22 hN22 => ?_
  refine xc_reg2 fun K hK => ?_
  simp only [rall, rsl, gres]
  iterate 2 (refine seqX_hide2 fun R hR => ?_; simp [go_sem, hn0, hn1, hn2, k0, k1, k2, k3, k4, k5, k6, k7, k8, k9, k10, k11, k12]; refine hR _ _ _ ?_; clear hR R)
  rw [seqX_nil]
  refine hK _ _ _ ?_; clear hK K
  refine hN22 _ _ _ ?_
  cases k13 : (s.toList == [89, 101, 115]) with
  | true =>
    refine xc_iftrue (by simp [go_sem, hn0, hn1, hn2, k0, k1, k2, k3, k4, k5, k6, k7, k8, k9, k10, k11, k12, k13]) ?_
    exact fin (true) _ hP (by simp [go_sem, hn0, hn1, hn2, k0, k1, k2, k3, k4, k5, k6, k7, k8, k9, k10, k11, k12, k13]) (by simp [go_sem, hn0, hn1, hn2, k0, k1, k2, k3, k4, k5, k6, k7, k8, k9, k10, k11, k12, k13])
  | false =>
  refine xc_iffalse (by simp [go_sem, hn0, hn1, hn2, k0, k1, k2, k3, k4, k5, k6, k7, k8, k9, k10, k11, k12, k13]) ?_
  refine xc_two fun N23 hN23 => ?_
  refine xc_reg2 fun K hK => ?_
  simp only [rall, rsl, gres]
  iterate 2 (refine seqX_hide2 fun R hR => ?_; simp [go_sem, hn0, hn1, hn2, k0, k1, k2, k3, k4, k5, k6, k7, k8, k9, k10, k11, k12, k13]; refine hR _ _ _ ?_; clear hR R)
  rw [seqX_nil]
  refine hK _ _ _ ?_; clear hK K
  refine hN23 _ _ _ ?_
  cases k14 : (s.toList == [89, 69, 83]) with
  | true =>
    refine xc_iftrue (by simp [go_sem, hn0, hn1, hn2, k0, k1, k2, k3, k4, k5, k6, k7, k8, k9, k10, k11, k12, k13, k14]) ?_
    exact fin (true) _ hP (by simp [go_sem, hn0, hn1, hn2, k0, k1, k2, k3, k4, k5, k6, k7, k8, k9, k10, k11, k12, k13, k14]) (by simp [go_sem, hn0, hn1, hn2, k0, k1, k2, k3, k4, k5, k6, k7, k8, k9, k10, k11, k12, k13, k14])
  | false =>
  refine xc_iffalse (by simp [go_sem, hn0, hn1, hn2, k0, k1, k2, k3, k4, k5, k6, k7, k8, k9, k10, k11, k12, k13, k14]) ?_
  refine xc_two fun N24 hN24 => ?_
  refine xc_reg2 fun K hK => ?_
  simp only [rall, rsl, gres]
  iterate 2 (refine seqX_hide2 fun R hR => ?_; simp [go_sem, hn0, hn1, hn2, k0, k1, k2, k3, k4, k5, k6, k7, k8, k9, k10, k11, k12, k13, k14]; refine hR _ _ _ ?_; clear hR R)
  rw [seqX_nil]
  refine hK _ _ _ ?_; clear hK K
  refine hN24 _ _ _ ?_
  cases k15 : (s.toList == [111, 110]) with
  | true =>
    refine xc_iftrue (by simp [go_sem, hn0, hn1, hn2, k0, k1, k2, k3, k4, k5, k6, k7, k8, k9, k10, k11, k12, k13, k14, k15]) ?_
    exact fin (true) _ hP (by simp [go_sem, hn0, hn1, hn2, k0, k1, k2, k3, k4, k5, k6, k7, k8, k9, k10, k11, k12, k13, k14, k15]) (by simp [go_sem, hn0, hn1, hn2, k0, k1, k2, k3, k4, k5, k6, k7, k8, k9, k10, k11, k12, k13, k14, k15])
  | false =>
  refine xc_iffalse (by simp [go_sem, hn0, hn1, hn2, k0, k1, k2, k3, k4, k5, k6, k7, k8, k9, k10, k11, k12, k13, k14, k15]) ?_
  refine xc_two fun N25 hN25 => ?_
  refine xc_reg2 fun K hK => ?_
  simp only [rall, rsl, gres]
  iterate 2 (refine seqX_hide2 fun R hR => ?_; simp [go_sem, hn0, hn1, hn2, k0, k1, k2, k3, k4, k5, k6, k7, k8, k9, k10, k11, k12, k13, k14, k15]; refine hR _ _ _ ?_; clear hR R)
  rw [seqX_nil]
  refine hK _ _ _ ?_; clear hK K
  refine hN25 _ _ _ ?_
  cases k16 : (s.toList == [79, 110]) with
  | true =>
    refine xc_iftrue (by simp [go_sem, hn0, hn1, hn2, k0, k1, k2, k3, k4, k5, k6, k7, k8, k9, k10, k11, k12, k13, k14, k15, k16]) ?_
    exact fin (true) _ hP (by simp [go_sem, hn0, hn1, hn2, k0, k1, k2, k3, k4, k5, k6, k7, k8, k9, k10, k11, k12, k13, k14, k15, k16]) (by simp [go_sem, hn0, hn1, hn2, k0, k1, k2, k3, k4, k5, k6, k7, k8, k9, k10, k11, k12, k13, k14, k15, k16])
  | false =>
  refine xc_iffalse (by simp [go_sem, hn0, hn1, hn2, k0, k1, k2, k3, k4, k5, k6, k7, k8, k9, k10, k11, k12, k13, k14, k15, k16]) ?_
  refine xc_two fun N26 hN26 => ?_
  refine xc_reg2 fun K hK => ?_
  simp only [rall, rsl, gres]
  iterate 2 (refine seqX_hide2 fun R hR => ?_; simp [go_sem, hn0, hn1, hn2, k0, k1, k2, k3, k4, k5, k6, k7, k8, k9, k10, k11, k12, k13, k14, k15, k16]; refine hR _ _ _ ?_; clear hR R)
  rw [seqX_nil]
  refine hK _ _ _ ?_; clear hK K
  refine hN26 _ _ _ ?_
  cases k17 : (s.toList == [79, 78]) with
  | true =>
    refine xc_iftrue (by simp [go_sem, hn0, hn1, hn2, k0, k1, k2, k3, k4, k5, k6, k7, k8, k9, k10, k11, k12, k13, k14, k15, k16, k17]) ?_
    exact fin (true) _ hP (by simp [go_sem, hn0, hn1, hn2, k0, k1, k2, k3, k4, k5, k6, k7, k8, k9, k10, k11, k12, k13, k14, k15, k16, k17]) (by simp [go_sem, hn0, hn1, hn2, k0, k1, k2, k3, k4, k5, k6, k7, k8, k9, k10, k11, k12, k13, k14, k15, k16, k17])
  | false =>
  refine xc_iffalse (by simp [go_sem, hn0, hn1, hn2, k0, k1, k2, k3, k4, k5, k6, k7, k8, k9, k10, k11, k12, k13, k14, k15, k16, k17]) ?_
  refine xc_two fun N27 hN27 => ?_
  refine xc_reg2 fun K hK => ?_
  simp only [rall, rsl, gres]
  iterate 2 (refine seqX_hide2 fun R hR => ?_; simp [go_sem, hn0, hn1, hn2, k0, k1, k2, k3, k4, k5, k6, k7, k8, k9, k10, k11, k12, k13, k14, k15, k16, k17]; refine hR _ _ _ ?_; clear hR R)
  rw [seqX_nil]
  refine hK _ _ _ ?_; clear hK K
  refine hN27 _ _ _ ?_
  cases k18 : (s.toList == [110]) with
  | true =>
    refine xc_iftrue (by simp [go_sem, hn0, hn1, hn2, k0, k1, k2, k3, k4, k5, k6, k7, k8, k9, k10, k11, k12, k13, k14, k15, k16, k17, k18]) ?_
    exact fin (true) _ hP (by simp [go_sem, hn0, hn1, hn2, k0, k1, k2, k3, k4, k5, k6, k7, k8, k9, k10, k11, k12, k13, k14, k15, k16, k17, k18]) (by simp [go_sem, hn0, hn1, hn2, k0, k1, k2, k3, k4, k5, k6, k7, k8, k9, k10, k11, k12, k13, k14, k15, k16, k17, k18])
  | false =>
  refine xc_iffalse (by simp [go_sem, hn0, hn1, hn2, k0, k1, k2, k3, k4, k5, k6, k7, k8, k9, k10, k11, k12, k13, k14, k15, k16, k17, k18]) ?_
  refine xc_two fun N28 hN28 => ?_
  refine xc_reg2 fun K hK => ?_
  simp only [rall, rsl, gres]
  iterate 2 (refine seqX_hide2 fun R hR => ?_; simp [go_sem, hn0, hn1, hn2, k0, k1, k2, k3, k4, k5, k6, k7, k8, k9, k10, k11, k12, k13, k14, k15, k16, k17, k18]; refine hR _ _ _ ?_; clear hR R)
  rw [seqX_nil]
  refine hK _ _ _ ?_; clear hK K
  refine hN28 _ _ _ ?_
  cases k19 : (s.toList == [78]) with
  | true =>
    refine xc_iftrue (by simp [go_sem, hn0, hn1, hn2, k0, k1, k2, k3, k4, k5, k6, k7, k8, k9, k10, k11, k12, k13, k14, k15, k16, k17, k18, k19]) ?_
    exact fin (true) _ hP (by simp [go_sem, hn0, hn1, hn2, k0, k1, k2, k3, k4, k5, k6, k7, k8, k9, k10, k11, k12, k13, k14, k15, k16, k17, k18, k19]) (by simp [go_sem, hn0, hn1, hn2, k0, k1, k2, k3, k4, k5, k6, k7, k8, k9, k10, k11, k12, k13, k14, k15, k16, k17, k18, k19])
  | false =>
  refine xc_iffalse (by simp [go_sem, hn0, hn1, hn2, k0, k1, k2, k3, k4, k5, k6, k7, k8, k9, k10, k11, k12, k13, k14, k15, k16, k17, k18, k19]) ?_
  refine xc_two fun N29 hN29 => ?_
  refine xc_reg2 fun K hK => ?_
  simp only [rall, rsl, gres]
  iterate 2 (refine seqX_hide2 fun R hR => ?_; simp [go_sem, hn0, hn1, hn2, k0, k1, k2, k3, k4, k5, k6, k7, k8, k9, k10, k11, k12, k13, k14, k15, k16, k17, k18, k19]; refine hR _ _ _ ?_; clear hR R)
  rw [seqX_nil]
  refine hK _ _ _ ?_; clear hK K
  refine hN29 _ _ _ ?_
  cases k20 : (s.toList == [110, 111]) with
  | true =>
    refine xc_iftrue (by simp [go_sem, hn0, hn1, hn2, k0, k1, k2, k3, k4, k5, k6, k7, k8, k9, k10, k11, k12, k13, k14, k15, k16, k17, k18, k19, k20]) ?_
    exact fin (true) _ hP (by simp [go_sem, hn0, hn1, hn2, k0, k1, k2, k3, k4, k5, k6, k7, k8, k9, k10, k11, k12, k13, k14, k15, k16, k17, k18, k19, k20]) (by simp [go_sem, hn0, hn1, hn2, k0, k1, k2, k3, k4, k5, k6, k7, k8, k9, k10, k11, k12, k13, k14, k15, k16, k17, k18, k19, k20])
  | false =>
  refine xc_iffalse (by simp [go_sem, hn0, hn1, hn2, k0, k1, k2, k3, k4, k5, k6, k7, k8, k9, k10, k11, k12, k13, k14, k15, k16, k17, k18, k19, k20]) ?_
  refine xc_two fun N30 hN30 => ?_
  refine xc_reg2 fun K hK => ?_
  simp only [rall, rsl, gres]
  iterate 2 (refine seqX_hide2 fun R hR => ?_; simp [go_sem, hn0, hn1, hn2, k0, k1, k2, k3, k4, k5, k6, k7, k8, k9, k10, k11, k12, k13, k14, k15, k16, k17, k18, k19, k20]; refine hR _ _ _ ?_; clear hR R)
  rw [seqX_nil]
  refine hK _ _ _ ?_; clear hK K
  refine hN30 _ _ _ ?_
  cases k21 : (s.toList == [78, 111]) with
  | true =>
    refine xc_iftrue (by simp [go_sem, hn0, hn1, hn2, k0, k1, k2, k3, k4, k5, k6, k7, k8, k9, k10, k11, k12, k13, k14, k15, k16, k17, k18, k19, k20, k21]) ?_
    exact fin (true) _ hP (by simp [go_sem, hn0, hn1, hn2, k0, k1, k2, k3, k4, k5, k6, k7, k8, k9, k10, k11, k12, k13, k14, k15, k16, k17, k18, k19, k20, k21]) (by simp [go_sem, hn0, hn1, hn2, k0, k1, k2, k3, k4, k5, k6, k7, k8, k9, k10, k11, k12, k13, k14, k15, k16, k17, k18, k19, k20, k21])
  | false =>
  refine xc_iffalse (by simp [go_sem, hn0, hn1, hn2, k0, k1, k2, k3, k4, k5, k6, k7, k8, k9, k10, k11, k12, k13, k14, k15, k16, k17, k18, k19, k20, k21]) ?_
  refine xc_two fun N31 hN31 => ?_
  refine xc_reg2 fun K hK => ?_
  simp only [rall, rsl, gres]
  iterate 2 (refine seqX_hide2 fun R hR => ?_; simp [go_sem, hn0, hn1, hn2, k0, k1, k2, k3, k4, k5, k6, k7, k8, k9, k10, k11, k12, k13, k14, k15, k16, k17, k18, k19, k20, k21]; refine hR _ _ _ ?_; clear hR R)
  rw [seqX_nil]
  refine hK _ _ _ ?_; clear hK K
  refine hN31 _ _ _ ?_
  cases k22 : (s.toList == [78, 79]) with
  | true =>
    refine xc_iftrue (by simp [go_sem, hn0, hn1, hn2, k0, k1, k2, k3, k4, k5, k6, k7, k8, k9, k10, k11, k12, k13, k14, k15, k16, k17, k18, k19, k20, k21, k22]) ?_
    exact fin (true) _ hP (by simp [go_sem, hn0, hn1, hn2, k0, k1, k2, k3, k4, k5, k6, k7, k8, k9, k10, k11, k12, k13, k14, k15, k16, k17, k18, k19, k20, k21, k22]) (by simp [go_sem, hn0, hn1, hn2, k0, k1, k2, k3, k4, k5, k6, k7, k8, k9, k10, k11, k12, k13, k14, k15, k16, k17, k18, k19, k20, k21, k22])
  | false =>
  refine xc_iffalse (by simp [go_sem, hn0, hn1, hn2, k0, k1, k2, k3, k4, k5, k6, k7, k8, k9, k10, k11, k12, k13, k14, k15, k16, k17, k18, k19, k20, k21, k22]) ?_
  refine xc_two fun N32 hN32 => ?_
  refine xc_reg2 fun K hK => ?_
  simp only [rall, rsl, gres]
  iterate 2 (refine seqX_hide2 fun R hR => ?_; simp [go_sem, hn0, hn1, hn2, k0, k1, k2, k3, k4, k5, k6, k7, k8, k9, k10, k11, k12, k13, k14, k15, k16, k17, k18, k19, k20, k21, k22]; refine hR _ _ _ ?_; clear hR R)
  rw [seqX_nil]
  refine hK _ _ _ ?_; clear hK K
  refine hN32 _ _ _ ?_
  cases k23 : (s.toList == [111, 102, 102]) with
  | true =>
    refine xc_iftrue (by simp [go_sem, hn0, hn1, hn2, k0, k1, k2, k3, k4, k5, k6, k7, k8, k9, k10, k11, k12, k13, k14, k15, k16, k17, k18, k19, k20, k21, k22, k23]) ?_
    exact fin (true) _ hP (by simp [go_sem, hn0, hn1, hn2, k0, k1, k2, k3, k4, k5, k6, k7, k8, k9, k10, k11, k12, k13, k14, k15, k16, k17, k18, k19, k20, k21, k22, k23]) (by simp [go_sem, hn0, hn1, hn2, k0, k1, k2, k3, k4, k5, k6, k7, k8, k9, k10, k11, k12, k13, k14, k15, k16, k17, k18, k19, k20, k21, k22, k23])
  | false =>
  refine xc_iffalse (by simp [go_sem, hn0, hn1, hn2, k0, k1, k2, k3, k4, k5, k6, k7, k8, k9, k10, k11, k12, k13, k14, k15, k16, k17, k18, k19, k20, k21, k22, k23]) ?_
  refine xc_two fun N33 hN33 => ?_
  refine xc_reg2 fun K hK => ?_
  simp only [rall, rsl, gres]
  iterate 2 (refine seqX_hide2 fun R hR => ?_; simp [go_sem, hn0, hn1, hn2, k0, k1, k2, k3, k4, k5, k6, k7, k8, k9, k10, k11, k12, k13, k14, k15, k16, k17, k18, k19, k20, k21, k22, k23]; refine hR _ _ _ ?_; clear hR R)
  rw [seqX_nil]
  refine hK _ _ _ ?_; clear hK K
  refine hN33 _ _ _ ?_
  cases k24 : (s.toList == [79, 102, 102]) with
  | true =>
    refine xc_iftrue (by simp [go_sem, hn0, hn1, hn2, k0, k1, k2, k3, k4, k5, k6, k7, k8, k9, k10, k11, k12, k13, k14, k15, k16, k17, k18, k19, k20, k21, k22, k23, k24]) ?_
    exact fin (true) _ hP (by simp [go_sem, hn0, hn1, hn2, k0, k1, k2, k3, k4, k5, k6, k7, k8, k9, k10, k11, k12, k13, k14, k15, k16, k17, k18, k19, k20, k21, k22, k23, k24]) (by simp [go_sem, hn0, hn1, hn2, k0, k1, k2, k3, k4, k5, k6, k7, k8, k9, k10, k11, k12, k13, k14, k15, k16, k17, k18, k19, k20, k21, k22, k23, k24])
  | false =>
  refine xc_iffalse (by simp [go_sem, hn0, hn1, hn2, k0, k1, k2, k3, k4, k5, k6, k7, k8, k9, k10, k11, k12, k13, k14, k15, k16, k17, k18, k19, k20, k21, k22, k23, k24]) ?_
  refine xc_two fun N34 hN34 => ?_
  refine xc_reg2 fun K hK => ?_
  simp only [rall, rsl, gres]
  iterate 2 (refine seqX_hide2 fun R hR => ?_; simp [go_sem, hn0, hn1, hn2, k0, k1, k2, k3, k4, k5, k6, k7, k8, k9, k10, k11, k12, k13, k14, k15, k16, k17, k18, k19, k20, k21, k22, k23, k24]; refine hR _ _ _ ?_; clear hR R)
  rw [seqX_nil]
  refine hK _ _ _ ?_; clear hK K
  refine hN34 _ _ _ ?_
  cases k25 : (s.toList == [79, 70, 70]) with
  | true =>
    refine xc_iftrue (by simp [go_sem, hn0, hn1, hn2, k0, k1, k2, k3, k4, k5, k6, k7, k8, k9, k10, k11, k12, k13, k14, k15, k16, k17, k18, k19, k20, k21, k22, k23, k24, k25]) ?_
    exact fin (true) _ hP (by simp [go_sem, hn0, hn1, hn2, k0, k1, k2, k3, k4, k5, k6, k7, k8, k9, k10, k11, k12, k13, k14, k15, k16, k17, k18, k19, k20, k21, k22, k23, k24, k25]) (by simp [go_sem, hn0, hn1, hn2, k0, k1, k2, k3, k4, k5, k6, k7, k8, k9, k10, k11, k12, k13, k14, k15, k16, k17, k18, k19, k20, k21, k22, k23, k24, k25])
  | false =>
  refine xc_iffalse (by simp [go_sem, hn0, hn1, hn2, k0, k1, k2, k3, k4, k5, k6, k7, k8, k9, k10, k11, k12, k13, k14, k15, k16, k17, k18, k19, k20, k21, k22, k23, k24, k25]) ?_
  refine xc_two fun N35 hN35 => ?_
  refine xc_reg2 fun K hK => ?_
  simp only [rall, rsl, gres]
  iterate 2 (refine seqX_hide2 fun R hR => ?_; simp [go_sem, hn0, hn1, hn2, k0, k1, k2, k3, k4, k5, k6, k7, k8, k9, k10, k11, k12, k13, k14, k15, k16, k17, k18, k19, k20, k21, k22, k23, k24, k25]; refine hR _ _ _ ?_; clear hR R)
  rw [seqX_nil]
  refine hK _ _ _ ?_; clear hK K
  refine hN35 _ _ _ ?_
  cases k26 : (s.toList == [46, 110, 97, 110]) with
  | true =>
    refine xc_iftrue (by simp [go_sem, hn0, hn1, hn2, k0, k1, k2, k3, k4, k5, k6, k7, k8, k9, k10, k11, k12, k13, k14, k15, k16, k17, k18, k19, k20, k21, k22, k23, k24, k25, k26]) ?_
    exact fin (true) _ hP (by simp [go_sem, hn0, hn1, hn2, k0, k1, k2, k3, k4, k5, k6, k7, k8, k9, k10, k11, k12, k13, k14, k15, k16, k17, k18, k19, k20, k21, k22, k23, k24, k25, k26]) (by simp [go_sem, hn0, hn1, hn2, k0, k1, k2, k3, k4, k5, k6, k7, k8, k9, k10, k11, k12, k13, k14, k15, k16, k17, k18, k19, k20, k21, k22, k23, k24, k25, k26])
  | false =>
  refine xc_iffalse (by simp [go_sem, hn0, hn1, hn2, k0, k1, k2, k3, k4, k5, k6, k7, k8, k9, k10, k11, k12, k13, k14, k15, k16, k17, k18, k19, k20, k21, k22, k23, k24, k25, k26]) ?_
  refine xc_two fun N36 hN36 => ?_
  refine xc_reg2 fun K hK => ?_
  simp only [rall, rsl, gres]
  iterate 2 (refine seqX_hide2 fun R hR => ?_; simp [go_sem, hn0, hn1, hn2, k0, k1, k2, k3, k4, k5, k6, k7, k8, k9, k10, k11, k12, k13, k14, k15, k16, k17, k18, k19, k20, k21, k22, k23, k24, k25, k26]; refine hR _ _ _ ?_; clear hR R)
  rw [seqX_nil]
  refine hK _ _ _ ?_; clear hK K
  refine hN36 _ _ _ ?_
  cases k27 : (s.toList == [46, 78, 97, 78]) with
  | true =>
    refine xc_iftrue (by simp [go_sem, hn0, hn1, hn2, k0, k1, k2, k3, k4, k5, k6, k7, k8, k9, k10, k11, k12, k13, k14, k15, k16, k17, k18, k19, k20, k21, k22, k23, k24, k25, k26, k27]) ?_
    exact fin (true) _ hP (by simp [go_sem, hn0, hn1, hn2, k0, k1, k2, k3, k4, k5, k6, k7, k8, k9, k10, k11, k12, k13, k14, k15, k16, k17, k18, k19, k20, k21, k22, k23, k24, k25, k26, k27]) (by simp [go_sem, hn0, hn1, hn2, k0, k1, k2, k3, k4, k5, k6, k7, k8, k9, k10, k11, k12, k13, k14, k15, k16, k17, k18, k19, k20, k21, k22, k23, k24, k25, k26, k27])
  | false =>
  refine xc_iffalse (by simp [go_sem, hn0, hn1, hn2, k0, k1, k2, k3, k4, k5, k6, k7, k8, k9, k10, k11, k12, k13, k14, k15, k16, k17, k18, k19, k20, k21, k22, k23, k24, k25, k26, k27]) ?_
  refine xc_two fun N37 hN37 => ?_
  refine xc_reg2 fun K hK => ?_
  simp only [rall, rsl, gres]
  iterate 2 (refine seqX_hide2 fun R hR => ?_; simp [go_sem, hn0, hn1, hn2, k0, k1, k2, k3, k4, k5, k6, k7, k8, k9, k10, k11, k12, k13, k14, k15, k16, k17, k18, k19, k20, k21, k22, k23, k24, k25, k26, k27]; refine hR _ _ _ ?_; clear hR R)
  rw [seqX_nil]
  refine hK _ _ _ ?_; clear hK K
  refine hN37 _ _ _ ?_
  cases k28 : (s.toList == [46, 78, 65, 78]) with
  | true =>
    refine xc_iftrue (by simp [go_sem, hn0, hn1, hn2, k0, k1, k2, k3, k4, k5, k6, k7, k8, k9, k10, k11, k12, k13, k14, k15, k16, k17, k18, k19, k20, k21, k22, k23, k24, k25, k26, k27, k28]) ?_
    exact fin (true) _ hP (by simp [go_sem, hn0, hn1, hn2, k0, k1, k2, k3, k4, k5, k6, k7, k8, k9, k10, k11, k12, k13, k14, k15, k16, k17, k18, k19, k20, k21, k22, k23, k24, k25, k26, k27, k28]) (by simp [go_sem, hn0, hn1, hn2, k0, k1, k2, k3, k4, k5, k6, k7, k8, k9, k10, k11, k12, k13, k14, k15, k16, k17, k18, k19, k20, k21, k22, k23, k24, k25, k26, k27, k28])
  | false =>
  refine xc_iffalse (by simp [go_sem, hn0, hn1, hn2, k0, k1, k2, k3, k4, k5, k6, k7, k8, k9, k10, k11, k12, k13, k14, k15, k16, k17, k18, k19, k20, k21, k22, k23, k24, k25, k26, k27, k28]) ?_
  refine xc_two fun N38 hN38 => ?_
  refine xc_reg2 fun K hK => ?_
  simp only [rall, rsl, gres]
  iterate 2 (refine seqX_hide2 fun R hR => ?_; simp [go_sem, hn0, hn1, hn2, k0, k1, k2, k3, k4, k5, k6, k7, k8, k9, k10, k11, k12, k13, k14, k15, k16, k17, k18, k19, k20, k21, k22, k23, k24, k25, k26, k27, k28]; refine hR _ _ _ ?_; clear hR R)
  rw [seqX_nil]
  refine hK _ _ _ ?_; clear hK K
  refine hN38 _ _ _ ?_
  cases k29 : (s.toList == [46, 105, 110, 102]) with
  | true =>
    refine xc_iftrue (by simp [go_sem, hn0, hn1, hn2, k0, k1, k2, k3, k4, k5, k6, k7, k8, k9, k10, k11, k12, k13, k14, k15, k16, k17, k18, k19, k20, k21, k22, k23, k24, k25, k26, k27, k28, k29]) ?_
    exact fin (true) _ hP (by simp [go_sem, hn0, hn1, hn2, k0, k1, k2, k3, k4, k5, k6, k7, k8, k9, k10, k11, k12, k13, k14, k15, k16, k17, k18, k19, k20, k21, k22, k23, k24, k25, k26, k27, k28, k29]) (by simp [go_sem, hn0, hn1, hn2, k0, k1, k2, k3, k4, k5, k6, k7, k8, k9, k10, k11, k12, k13, k14, k15, k16, k17, k18, k19, k20, k21, k22, k23, k24, k25, k26, k27, k28, k29])
  | false =>
  refine xc_iffalse (by simp [go_sem, hn0, hn1, hn2, k0, k1, k2, k3, k4, k5, k6, k7, k8, k9, k10, k11, k12, k13, k14, k15, k16, k17, k18, k19, k20, k21, k22, k23, k24, k25, k26, k27, k28, k29]) ?_
  refine xc_two fun N39 hN39 => ?_
  refine xc_reg2 fun K hK => ?_
  simp only [rall, rsl, gres]
  iterate 2 (refine seqX_hide2 fun R hR => ?_; simp [go_sem, hn0, hn1, hn2, k0, k1, k2, k3, k4, k5, k6, k7, k8, k9, k10, k11, k12, k13, k14, k15, k16, k17, k18, k19, k20, k21, k22, k23, k24, k25, k26, k27, k28, k29]; refine hR _ _ _ ?_; clear hR R)
  rw [seqX_nil]
  refine hK _ _ _ ?_; clear hK K
  refine hN39 _ _ _ ?_
  cases k30 : (s.toList == [46, 73, 110, 102]) with
  | true =>
    refine xc_iftrue (by simp [go_sem, hn0, hn1, hn2, k0, k1, k2, k3, k4, k5, k6, k7, k8, k9, k10, k11, k12, k13, k14, k15, k16, k17, k18, k19, k20, k21, k22, k23, k24, k25, k26, k27, k28, k29, k30]) ?_
    exact fin (true) _ hP (by simp [go_sem, hn0, hn1, hn2, k0, k1, k2, k3, k4, k5, k6, k7, k8, k9, k10, k11, k12, k13, k14, k15, k16, k17, k18, k19, k20, k21, k22, k23, k24, k25, k26, k27, k28, k29, k30]) (by simp [go_sem, hn0, hn1, hn2, k0, k1, k2, k3, k4, k5, k6, k7, k8, k9, k10, k11, k12, k13, k14, k15, k16, k17, k18, k19, k20, k21, k22, k23, k24, k25, k26, k27, k28, k29, k30])
  | false =>
  refine xc_iffalse (by simp [go_sem, hn0, hn1, hn2, k0, k1, k2, k3, k4, k5, k6, k7, k8, k9, k10, k11, k12, k13, k14, k15, k16, k17, k18, k19, k20, k21, k22, k23, k24, k25, k26, k27, k28, k29, k30]) ?_
  refine xc_two fun N40 hN40 => ?_
  refine xc_reg2 fun K hK => ?_
  simp only [rall, rsl, gres]
  iterate 2 (refine seqX_hide2 fun R hR => ?_; simp [go_sem, hn0, hn1, hn2, k0, k1, k2, k3, k4, k5, k6, k7, k8, k9, k10, k11, k12, k13, k14, k15, k16, k17, k18, k19, k20, k21, k22, k23, k24, k25, k26, k27, k28, k29, k30]; refine hR _ _ _ ?_; clear hR R)
  rw [seqX_nil]
  refine hK _ _ _ ?_; clear hK K
  refine hN40 _ _ _ ?_
  cases k31 : (s.toList == [46, 73, 78, 70]) with
  | true =>
    refine xc_iftrue (by simp [go_sem, hn0, hn1, hn2, k0, k1, k2, k3, k4, k5, k6, k7, k8, k9, k10, k11, k12, k13, k14, k15, k16, k17, k18, k19, k20, k21, k22, k23, k24, k25, k26, k27, k28, k29, k30, k31]) ?_
    exact fin (true) _ hP (by simp [go_sem, hn0, hn1, hn2, k0, k1, k2, k3, k4, k5, k6, k7, k8, k9, k10, k11, k12, k13, k14, k15, k16, k17, k18, k19, k20, k21, k22, k23, k24, k25, k26, k27, k28, k29, k30, k31]) (by simp [go_sem, hn0, hn1, hn2, k0, k1, k2, k3, k4, k5, k6, k7, k8, k9, k10, k11, k12, k13, k14, k15, k16, k17, k18, k19, k20, k21, k22, k23, k24, k25, k26, k27, k28, k29, k30, k31])
  | false =>
  refine xc_iffalse (by simp [go_sem, hn0, hn1, hn2, k0, k1, k2, k3, k4, k5, k6, k7, k8, k9, k10, k11, k12, k13, k14, k15, k16, k17, k18, k19, k20, k21, k22, k23, k24, k25, k26, k27, k28, k29, k30, k31]) ?_
  refine xc_two fun N41 hN41 => ?_
  refine xc_reg2 fun K hK => ?_
  simp only [rall, rsl, gres]
  iterate 2 (refine seqX_hide2 fun R hR => ?_; simp [go_sem, hn0, hn1, hn2, k0, k1, k2, k3, k4, k5, k6, k7, k8, k9, k10, k11, k12, k13, k14, k15, k16, k17, k18, k19, k20, k21, k22, k23, k24, k25, k26, k27, k28, k29, k30, k31]; refine hR _ _ _ ?_; clear hR R)
  rw [seqX_nil]
  refine hK _ _ _ ?_; clear hK K
  refine hN41 _ _ _ ?_
  cases k32 : (s.toList == [43, 46, 105, 110, 102]) with
  | true =>
    refine xc_iftrue (by simp [go_sem, hn0, hn1, hn2, k0, k1, k2, k3, k4, k5, k6, k7, k8, k9, k10, k11, k12, k13, k14, k15, k16, k17, k18, k19, k20, k21, k22, k23, k24, k25, k26, k27, k28, k29, k30, k31, k32]) ?_
    exact fin (true) _ hP (by simp [go_sem, hn0, hn1, hn2, k0, k1, k2, k3, k4, k5, k6, k7, k8, k9, k10, k11, k12, k13, k14, k15, k16, k17, k18, k19, k20, k21, k22, k23, k24, k25, k26, k27, k28, k29, k30, k31, k32]) (by simp [go_sem, hn0, hn1, hn2, k0, k1, k2, k3, k4, k5, k6, k7, k8, k9, k10, k11, k12, k13, k14, k15, k16, k17, k18, k19, k20, k21, k22, k23, k24, k25, k26, k27, k28, k29, k30, k31, k32])
  | false =>
  refine xc_iffalse (by simp [go_sem, hn0, hn1, hn2, k0, k1, k2, k3, k4, k5, k6, k7, k8, k9, k10, k11, k12, k13, k14, k15, k16, k17, k18, k19, k20, k21, k22, k23, k24, k25, k26, k27, k28, k29, k30, k31, k32]) ?_
  refine xc_two fun N42 hN42 => ?_
  refine xc_reg2 fun K hK => ?_
  simp only [rall, rsl, gres]
  iterate 2 (refine seqX_hide2 fun R hR => ?_; simp [go_sem, hn0, hn1, hn2, k0, k1, k2, k3, k4, k5, k6, k7, k8, k9, k10, k11, k12, k13, k14, k15, k16, k17, k18, k19, k20, k21, k22, k23, k24, k25, k26, k27, k28, k29, k30, k31, k32]; refine hR _ _ _ ?_; clear hR R)
  rw [seqX_nil]
  refine hK _ _ _ ?_; clear hK K
  refine hN42 _ _ _ ?_
  cases k33 : (s.toList == [43, 46, 73, 110, 102]) with
  | true =>
    refine xc_iftrue (by simp [go_sem, hn0, hn1, hn2, k0, k1, k2, k3, k4, k5, k6, k7, k8, k9, k10, k11, k12, k13, k14, k15, k16, k17, k18, k19, k20, k21, k22, k23, k24, k25, k26, k27, k28, k29, k30, k31, k32, k33]) ?_
    exact fin (true) _ hP (by simp [go_sem, hn0, hn1, hn2, k0, k1, k2, k3, k4, k5, k6, k7, k8, k9, k10, k11, k12, k13, k14, k15, k16, k17, k18, k19, k20, k21, k22, k23, k24, k25, k26, k27, k28, k29, k30, k31, k32, k33]) (by simp [go_sem, hn0, hn1, hn2, k0, k1, k2, k3, k4, k5, k6, k7, k8, k9, k10, k11, k12, k13, k14, k15, k16, k17, k18, k19, k20, k21, k22, k23, k24, k25, k26, k27, k28, k29, k30, k31, k32, k33])
  | false =>
  refine xc_iffalse (by simp [go_sem, hn0, hn1, hn2, k0, k1, k2, k3, k4, k5, k6, k7, k8, k9, k10, k11, k12, k13, k14, k15, k16, k17, k18, k19, k20, k21, k22, k23, k24, k25, k26, k27, k28, k29, k30, k31, k32, k33]) ?_
  refine xc_two fun N43 hN43 => ?_
  refine xc_reg2 fun K hK => ?_
  simp only [rall, rsl, gres]
  iterate 2 (refine seqX_hide2 fun R hR => ?_; simp [go_sem, hn0, hn1, hn2, k0, k1, k2, k3, k4, k5, k6, k7, k8, k9, k10, k11, k12, k13, k14, k15, k16, k17, k18, k19, k20, k21, k22, k23, k24, k25, k26, k27, k28, k29, k30, k31, k32, k33]; refine hR _ _ _ ?_; clear hR R)
  rw [seqX_nil]
  refine hK _ _ _ ?_; clear hK K
  refine hN43 _ _ _ ?_
  cases k34 : (s.toList == [43, 46, 73, 78, 70]) with
  | true =>
    refine xc_iftrue (by simp [go_sem, hn0, hn1, hn2, k0, k1, k2, k3, k4, k5, k6, k7, k8, k9, k10, k11, k12, k13, k14, k15, k16, k17, k18, k19, k20, k21, k22, k23, k24, k25, k26, k27, k28, k29, k30, k31, k32, k33, k34]) ?_
    exact fin (true) _ hP (by simp [go_sem, hn0, hn1, hn2, k0, k1, k2, k3, k4, k5, k6, k7, k8, k9, k10, k11, k12, k13, k14, k15, k16, k17, k18, k19, k20, k21, k22, k23, k24, k25, k26, k27, k28, k29, k30, k31, k32, k33, k34]) (by simp [go_sem, hn0, hn1, hn2, k0, k1, k2, k3, k4, k5, k6, k7, k8, k9, k10, k11, k12, k13, k14, k15, k16, k17, k18, k19, k20, k21, k22, k23, k24, k25, k26, k27, k28, k29, k30, k31, k32, k33, k34])
  | false =>
  refine xc_iffalse (by simp [go_sem, hn0, hn1, hn2, k0, k1, k2, k3, k4, k5, k6, k7, k8, k9, k10, k11, k12, k13, k14, k15, k16, k17, k18, k19, k20, k21, k22, k23, k24, k25, k26, k27, k28, k29, k30, k31, k32, k33, k34]) ?_
  refine xc_two fun N44 hN44 => ?_
  refine xc_reg2 fun K hK => ?_
  simp only [rall, rsl, gres]
  iterate 2 (refine seqX_hide2 fun R hR => ?_; simp [go_sem, hn0, hn1, hn2, k0, k1, k2, k3, k4, k5, k6, k7, k8, k9, k10, k11, k12, k13, k14, k15, k16, k17, k18, k19, k20, k21, k22, k23, k24, k25, k26, k27, k28, k29, k30, k31, k32, k33, k34]; refine hR _ _ _ ?_; clear hR R)
  rw [seqX_nil]
  refine hK _ _ _ ?_; clear hK K
  refine hN44 _ _ _ ?_
  cases k35 : (s.toList == [45, 46, 105, 110, 102]) with
  | true =>
    refine xc_iftrue (by simp [go_sem, hn0, hn1, hn2, k0, k1, k2, k3, k4, k5, k6, k7, k8, k9, k10, k11, k12, k13, k14, k15, k16, k17, k18, k19, k20, k21, k22, k23, k24, k25, k26, k27, k28, k29, k30, k31, k32, k33, k34, k35]) ?_
    exact fin (true) _ hP (by simp [go_sem, hn0, hn1, hn2, k0, k1, k2, k3, k4, k5, k6, k7, k8, k9, k10, k11, k12, k13, k14, k15, k16, k17, k18, k19, k20, k21, k22, k23, k24, k25, k26, k27, k28, k29, k30, k31, k32, k33, k34, k35]) (by simp [go_sem, hn0, hn1, hn2, k0, k1, k2, k3, k4, k5, k6, k7, k8, k9, k10, k11, k12, k13, k14, k15, k16, k17, k18, k19, k20, k21, k22, k23, k24, k25, k26, k27, k28, k29, k30, k31, k32, k33, k34, k35])
  | false =>
  refine xc_iffalse (by simp [go_sem, hn0, hn1, hn2, k0, k1, k2, k3, k4, k5, k6, k7, k8, k9, k10, k11, k12, k13, k14, k15, k16, k17, k18, k19, k20, k21, k22, k23, k24, k25, k26, k27, k28, k29, k30, k31, k32, k33, k34, k35]) ?_
  refine xc_two fun N45 hN45 => ?_
  refine xc_reg2 fun K hK => ?_
  simp only [rall, rsl, gres]
  iterate 2 (refine seqX_hide2 fun R hR => ?_; simp [go_sem, hn0, hn1, hn2, k0, k1, k2, k3, k4, k5, k6, k7, k8, k9, k10, k11, k12, k13, k14, k15, k16, k17, k18, k19, k20, k21, k22, k23, k24, k25, k26, k27, k28, k29, k30, k31, k32, k33, k34, k35]; refine hR _ _ _ ?_; clear hR R)
  rw [seqX_nil]
  refine hK _ _ _ ?_; clear hK K
  refine hN45 _ _ _ ?_
  cases k36 : (s.toList == [45, 46, 73, 110, 102]) with
  | true =>
    refine xc_iftrue (by simp [go_sem, hn0, hn1, hn2, k0, k1, k2, k3, k4, k5, k6, k7, k8, k9, k10, k11, k12, k13, k14, k15, k16, k17, k18, k19, k20, k21, k22, k23, k24, k25, k26, k27, k28, k29, k30, k31, k32, k33, k34, k35, k36]) ?_
    exact fin (true) _ hP (by simp [go_sem, hn0, hn1, hn2, k0, k1, k2, k3, k4, k5, k6, k7, k8, k9, k10, k11, k12, k13, k14, k15, k16, k17, k18, k19, k20, k21, k22, k23, k24, k25, k26, k27, k28, k29, k30, k31, k32, k33, k34, k35, k36]) (by simp [go_sem, hn0, hn1, hn2, k0, k1, k2, k3, k4, k5, k6, k7, k8, k9, k10, k11, k12, k13, k14, k15, k16, k17, k18, k19, k20, k21, k22, k23, k24, k25, k26, k27, k28, k29, k30, k31, k32, k33, k34, k35, k36])
  | false =>
  refine xc_iffalse (by simp [go_sem, hn0, hn1, hn2, k0, k1, k2, k3, k4, k5, k6, k7, k8, k9, k10, k11, k12, k13, k14, k15, k16, k17, k18, k19, k20, k21, k22, k23, k24, k25, k26, k27, k28, k29, k30, k31, k32, k33, k34, k35, k36]) ?_
  refine xc_reg2 fun K hK => ?_
  simp only [rall, rsl, gres]
  iterate 2 (refine seqX_hide2 fun R hR => ?_; simp [go_sem, hn0, hn1, hn2, k0, k1, k2, k3, k4, k5, k6, k7, k8, k9, k10, k11, k12, k13, k14, k15, k16, k17, k18, k19, k20, k21, k22, k23, k24, k25, k26, k27, k28, k29, k30, k31, k32, k33, k34, k35, k36]; refine hR _ _ _ ?_; clear hR R)
  rw [seqX_nil]
  refine hK _ _ _ ?_; clear hK K
  cases k37 : (s.toList == [45, 46, 73, 78, 70]) with
  | true =>
    exact fin (true) _ hP (by simp [go_sem, hn0, hn1, hn2, k0, k1, k2, k3, k4, k5, k6, k7, k8, k9, k10, k11, k12, k13, k14, k15, k16, k17, k18, k19, k20, k21, k22, k23, k24, k25, k26, k27, k28, k29, k30, k31, k32, k33, k34, k35, k36, k37]) (by simp [go_sem, hn0, hn1, hn2, k0, k1, k2, k3, k4, k5, k6, k7, k8, k9, k10, k11, k12, k13, k14, k15, k16, k17, k18, k19, k20, k21, k22, k23, k24, k25, k26, k27, k28, k29, k30, k31, k32, k33, k34, k35, k36, k37])
  | false =>
  exact fin (false) _ hP (by simp [go_sem, hn0, hn1, hn2, k0, k1, k2, k3, k4, k5, k6, k7, k8, k9, k10, k11, k12, k13, k14, k15, k16, k17, k18, k19, k20, k21, k22, k23, k24, k25, k26, k27, k28, k29, k30, k31, k32, k33, k34, k35, k36, k37]) (by simp [go_sem, hn0, hn1, hn2, k0, k1, k2, k3, k4, k5, k6, k7, k8, k9, k10, k11, k12, k13, k14, k15, k16, k17, k18, k19, k20, k21, k22, k23, k24, k25, k26, k27, k28, k29, k30, k31, k32, k33, k34, k35, k36, k37])
set_option maxRecDepth 20000 in
theorem isStr118G (A : View) (p : Nat) (k st : Int) (tag val an : ByteArray) (cv : Value) (h l f : ByteArray) (row col : Int) (hp : A p = some (.cells (ync k st tag val an cv h l f row col) 114 (0, 0))) (h0 : tag ≠ e0) : VCalls Try.prog 118 #[ptr0 p] A fun r A' => r = .bool (decide (k = 8) && decide (tag = tStr)) ∧ A' = A := by
  have c0 := cell_of (i := 0) hp rfl
  have c2 := cell_of (i := 2) hp rfl
  have hb := beq_dec (s := tag) (t := tStr) (l := [33, 33, 115, 116, 114]) (by kernel_rfl)
  have hn1 := (ne_empty h0).1
  have hn2 := (ne_empty h0).2
  refine xcalls Try.func118 rfl (by simp [Try.ntmps118]) ?_
  simp only [Try.f118]
  have hP : Priv A (addrs []) := Priv.nil A
  show xc _ _ _ _ _ _ (ov A [])
  by_cases h8 : k = 8
  · subst h8
    by_cases h9 : tag = tStr
    · have hd : decide (tag = tStr) = true := decide_eq_true h9
      have ht : tStr.toList = [33, 33, 115, 116, 114] := by kernel_rfl
      refine xc_two fun N1 hN1 => ?_
      refine xc_reg2 fun K hK => ?_
      simp only [rall, rsl, gres]
      (refine seqX_hide2 fun R hR => ?_; simp [go_sem, bc hP c0, bc hP c2, hn1, hn2, hb, hd, h9, ht]; refine hR _ _ _ ?_; clear hR R)
      rw [seqX_nil]
      refine hK _ _ _ ?_; clear hK K
      refine hN1 _ _ _ ?_
      refine xc_two fun N2 hN2 => ?_
      refine xc_reg2 fun K hK => ?_
      simp only [rall, rsl, gres]
      iterate 20 (refine seqX_hide2 fun R hR => ?_; simp [go_sem, bc hP c0, bc hP c2, hn1, hn2, hb, hd, h9, ht]; refine hR _ _ _ ?_; clear hR R)
      rw [seqX_nil]
      refine hK _ _ _ ?_; clear hK K
      refine hN2 _ _ _ ?_
      simp [go_sem, bc hP c0, bc hP c2, hn1, hn2, hb, hd, h9, ht]
      rfl
    have hd : decide (tag = tStr) = false := decide_eq_false h9
    refine xc_two fun N1 hN1 => ?_
    refine xc_reg2 fun K hK => ?_
    simp only [rall, rsl, gres]
    (refine seqX_hide2 fun R hR => ?_; simp [go_sem, bc hP c0, bc hP c2, hn1, hn2, hb, hd, h9]; refine hR _ _ _ ?_; clear hR R)
    rw [seqX_nil]
    refine hK _ _ _ ?_; clear hK K
    refine hN1 _ _ _ ?_
    refine xc_two fun N2 hN2 => ?_
    refine xc_reg2 fun K hK => ?_
    simp only [rall, rsl, gres]
    iterate 20 (refine seqX_hide2 fun R hR => ?_; simp [go_sem, bc hP c0, bc hP c2, hn1, hn2, hb, hd, h9]; refine hR _ _ _ ?_; clear hR R)
    rw [seqX_nil]
    refine hK _ _ _ ?_; clear hK K
    refine hN2 _ _ _ ?_
    simp [go_sem, bc hP c0, bc hP c2, hn1, hn2, hb, hd, h9]
    rfl
  have h8b : (k == 8) = false := beq_eq_false_iff_ne.2 h8
  refine xc_two fun N1 hN1 => ?_
  refine xc_reg2 fun K hK => ?_
  simp only [rall, rsl, gres]
  (refine seqX_hide2 fun R hR => ?_; simp [go_sem, bc hP c0, bc hP c2, hn1, hn2, hb, h8, h8b]; refine hR _ _ _ ?_; clear hR R)
  rw [seqX_nil]
  refine hK _ _ _ ?_; clear hK K
  refine hN1 _ _ _ ?_
  refine xc_two fun N2 hN2 => ?_
  refine xc_reg2 fun K hK => ?_
  simp only [rall, rsl, gres]
  iterate 20 (refine seqX_hide2 fun R hR => ?_; simp [go_sem, bc hP c0, bc hP c2, hn1, hn2, hb, h8, h8b]; refine hR _ _ _ ?_; clear hR R)
  rw [seqX_nil]
  refine hK _ _ _ ?_; clear hK K
  refine hN2 _ _ _ ?_
  simp [go_sem, bc hP c0, bc hP c2, hn1, hn2, hb, h8, h8b]
  rfl
set_option maxRecDepth 20000 in
theorem yaml114W (A : View) (p : Nat) (st : Int) (tag val an : ByteArray) (cv : Value) (h l f : ByteArray) (row col : Int) (hp : A p = some (.cells (ync 8 st tag val an cv h l f row col) 114 (0, 0))) (hw : Wd val) : VCalls Try.prog 114 #[ptr0 p] A fun r A' => IsBo r ∧ A' = A := by
  have c0 := cell_of (i := 0) hp rfl
  have c3 := cell_of (i := 3) hp rfl
  refine xcalls Try.func114 rfl (by simp [Try.ntmps114]) ?_
  simp only [Try.f114]
  have hP : Priv A (addrs []) := Priv.nil A
  show xc _ _ _ _ _ _ (ov A [])
  refine xc_two fun N1 hN1 => ?_
  refine xc_reg2 fun K hK => ?_
  simp only [rall, rsl, gres]
  (refine seqX_hide2 fun R hR => ?_; simp [go_sem, bc hP c0, bc hP c3]; refine hR _ _ _ ?_; clear hR R)
  rw [seqX_nil]
  refine hK _ _ _ ?_; clear hK K
  refine hN1 _ _ _ ?_
  refine xc_two fun N2 hN2 => ?_
  refine xc_two fun N3 hN3 => ?_
  refine xc_reg2 fun K hK => ?_
  simp only [rall, rsl, gres]
  iterate 5 (refine seqX_hide2 fun R hR => ?_; simp [go_sem, bc hP c0, bc hP c3]; refine hR _ _ _ ?_; clear hR R)
  rw [seqX_nil]
  refine hK _ _ _ ?_; clear hK K
  refine hN3 _ _ _ ?_
  refine xc_iffalse (by simp [go_sem, bc hP c0, bc hP c3]) ?_
  refine hN2 _ _ _ ?_
  refine xc_two fun N4 hN4 => ?_
  refine xc_reg2 fun K hK => ?_
  simp only [rall, rsl, gres]
  iterate 4 (refine seqX_hide2 fun R hR => ?_; simp [go_sem, bc hP c0, bc hP c3]; refine hR _ _ _ ?_; clear hR R)
  refine seqX_hide2 fun R hR => ?_
  simp [go_sem, bc hP c0, bc hP c3]
  refine call_same hP (nonStr119W A val hw) ?_
  rintro r hr
  refine hR _ _ _ ?_; clear hR R
  (refine seqX_hide2 fun R hR => ?_; simp [go_sem, bc hP c0, bc hP c3]; refine hR _ _ _ ?_; clear hR R)
  rw [seqX_nil]
  refine hK _ _ _ ?_; clear hK K
  refine hN4 _ _ _ ?_
  simp [go_sem, bc hP c0, bc hP c3]
  exact ⟨hr, rfl⟩
set_option maxRecDepth 20000 in
theorem isNil52c (A : View) (q p : Nat) (k st : Int) (tag val an : ByteArray) (cv : Value) (h l f : ByteArray) (row col : Int) (hq : A q = some (.cells (rnc p) 111 (0, 0))) (hp : A p = some (.cells (ync k st tag val an cv h l f row col) 114 (0, 0))) (hk : k ≠ 1) : VCalls Try.prog 93 #[ptr0 q] A fun r A' => r = .bool false ∧ A' = A := by
  refine xcalls Try.func93 rfl (by simp [Try.ntmps93]) ?_
  simp only [Try.f93]
  have hP : Priv A (addrs []) := Priv.nil A
  show xc _ _ _ _ _ _ (ov A [])
  refine xc_two fun N1 hN1 => ?_
  refine xc_reg2 fun K hK => ?_
  simp only [rall, rsl, gres]
  (refine seqX_hide2 fun R hR => ?_; simp [go_sem]; refine hR _ _ _ ?_; clear hR R)
  rw [seqX_nil]
  refine hK _ _ _ ?_; clear hK K
  refine hN1 _ _ _ ?_
  refine xc_two fun N2 hN2 => ?_
  refine xc_reg2 fun K hK => ?_
  simp only [rall, rsl, gres]
  iterate 4 (refine seqX_hide2 fun R hR => ?_; simp [go_sem]; refine hR _ _ _ ?_; clear hR R)
  refine seqX_hide2 fun R hR => ?_
  simp [go_sem]
  refine call_same hP (ynode48 A q p k st tag val an cv h l f row col hq hp hk) ?_
  rintro _ rfl
  refine hR _ _ _ ?_; clear hR R
  iterate 3 (refine seqX_hide2 fun R hR => ?_; simp [go_sem]; refine hR _ _ _ ?_; clear hR R)
  rw [seqX_nil]
  refine hK _ _ _ ?_; clear hK K
  refine hN2 _ _ _ ?_
  simp [go_sem]
  rfl
set_option maxRecDepth 20000 in
theorem tagNull120c (A : View) (p : Nat) (k st : Int) (tag val an : ByteArray) (cv : Value) (h l f : ByteArray) (row col : Int) (hp : A p = some (.cells (ync k st tag val an cv h l f row col) 114 (0, 0))) (ht : tag ≠ tNull) : VCalls Try.prog 120 #[ptr0 p] A fun r A' => r = .bool false ∧ A' = A := by
  have c2 := cell_of (i := 2) hp rfl
  have ht : ¬ tag.toList = [33, 33, 110, 117, 108, 108] := fun e => bytes_ne (show tag ≠ tNull from ht) (e.trans (by kernel_rfl))
  refine xcalls Try.func120 rfl (by simp [Try.ntmps120]) ?_
  simp only [Try.f120]
  have hP : Priv A (addrs []) := Priv.nil A
  show xc _ _ _ _ _ _ (ov A [])
  refine xc_two fun N1 hN1 => ?_
  refine xc_reg2 fun K hK => ?_
  simp only [rall, rsl, gres]
  (refine seqX_hide2 fun R hR => ?_; simp [go_sem, bc hP c2, ht]; refine hR _ _ _ ?_; clear hR R)
  rw [seqX_nil]
  refine hK _ _ _ ?_; clear hK K
  refine hN1 _ _ _ ?_
  refine xc_two fun N2 hN2 => ?_
  refine xc_reg2 fun K hK => ?_
  simp only [rall, rsl, gres]
  iterate 10 (refine seqX_hide2 fun R hR => ?_; simp [go_sem, bc hP c2, ht]; refine hR _ _ _ ?_; clear hR R)
  rw [seqX_nil]
  refine hK _ _ _ ?_; clear hK K
  refine hN2 _ _ _ ?_
  simp [go_sem, bc hP c2, ht]
  rfl
set_option maxRecDepth 20000 in
theorem tagNull116c (A : View) (q p : Nat) (k st : Int) (tag val an : ByteArray) (cv : Value) (h l f : ByteArray) (row col : Int) (hq : A q = some (.cells (rnc p) 111 (0, 0))) (hp : A p = some (.cells (ync k st tag val an cv h l f row col) 114 (0, 0))) (hk : k ≠ 1) (ht : tag ≠ tNull) : VCalls Try.prog 116 #[ptr0 q] A fun r A' => r = .bool false ∧ A' = A := by
  refine xcalls Try.func116 rfl (by simp [Try.ntmps116]) ?_
  simp only [Try.f116]
  have hP : Priv A (addrs []) := Priv.nil A
  show xc _ _ _ _ _ _ (ov A [])
  refine xc_two fun N1 hN1 => ?_
  refine xc_reg2 fun K hK => ?_
  simp only [rall, rsl, gres]
  (refine seqX_hide2 fun R hR => ?_; simp [go_sem]; refine hR _ _ _ ?_; clear hR R)
  rw [seqX_nil]
  refine hK _ _ _ ?_; clear hK K
  refine hN1 _ _ _ ?_
  refine xc_two fun N2 hN2 => ?_
  refine xc_reg2 fun K hK => ?_
  simp only [rall, rsl, gres]
  (refine seqX_hide2 fun R hR => ?_; simp [go_sem]; refine hR _ _ _ ?_; clear hR R)
  refine seqX_hide2 fun R hR => ?_
  simp [go_sem]
  refine call_same hP (isNil52c A q p k st tag val an cv h l f row col hq hp hk) ?_
  rintro _ rfl
  refine hR _ _ _ ?_; clear hR R
  iterate 3 (refine seqX_hide2 fun R hR => ?_; simp [go_sem]; refine hR _ _ _ ?_; clear hR R)
  refine seqX_hide2 fun R hR => ?_
  simp [go_sem]
  refine call_same hP (ynode48 A q p k st tag val an cv h l f row col hq hp hk) ?_
  rintro _ rfl
  refine hR _ _ _ ?_; clear hR R
  refine seqX_hide2 fun R hR => ?_
  simp [go_sem]
  refine call_same hP (tagNull120c A p k st tag val an cv h l f row col hp ht) ?_
  rintro _ rfl
  refine hR _ _ _ ?_; clear hR R
  iterate 2 (refine seqX_hide2 fun R hR => ?_; simp [go_sem]; refine hR _ _ _ ?_; clear hR R)
  rw [seqX_nil]
  refine hK _ _ _ ?_; clear hK K
  refine hN2 _ _ _ ?_
  simp [go_sem]
  rfl
set_option maxRecDepth 20000 in
theorem strVal113G (A : View) (q p : Nat) (k st : Int) (tag val an : ByteArray) (cv : Value) (h l f : ByteArray) (row col : Int) (hq : A q = some (.cells (rnc p) 111 (0, 0))) (hp : A p = some (.cells (ync k st tag val an cv h l f row col) 114 (0, 0))) (hk : k ≠ 1) (h0 : tag ≠ e0) : VCalls Try.prog 113 #[ptr0 q] A fun r A' => r = .bool (decide (k = 8) && decide (tag = tStr)) ∧ A' = A := by
  refine xcalls Try.func113 rfl (by simp [Try.ntmps113]) ?_
  simp only [Try.f113]
  have hP : Priv A (addrs []) := Priv.nil A
  show xc _ _ _ _ _ _ (ov A [])
  refine xc_two fun N1 hN1 => ?_
  refine xc_reg2 fun K hK => ?_
  simp only [rall, rsl, gres]
  (refine seqX_hide2 fun R hR => ?_; simp [go_sem]; refine hR _ _ _ ?_; clear hR R)
  rw [seqX_nil]
  refine hK _ _ _ ?_; clear hK K
  refine hN1 _ _ _ ?_
  refine xc_two fun N2 hN2 => ?_
  refine xc_reg2 fun K hK => ?_
  simp only [rall, rsl, gres]
  (refine seqX_hide2 fun R hR => ?_; simp [go_sem]; refine hR _ _ _ ?_; clear hR R)
  refine seqX_hide2 fun R hR => ?_
  simp [go_sem]
  refine call_same hP (isNil52c A q p k st tag val an cv h l f row col hq hp hk) ?_
  rintro _ rfl
  refine hR _ _ _ ?_; clear hR R
  iterate 3 (refine seqX_hide2 fun R hR => ?_; simp [go_sem]; refine hR _ _ _ ?_; clear hR R)
  refine seqX_hide2 fun R hR => ?_
  simp [go_sem]
  refine call_same hP (ynode48 A q p k st tag val an cv h l f row col hq hp hk) ?_
  rintro _ rfl
  refine hR _ _ _ ?_; clear hR R
  refine seqX_hide2 fun R hR => ?_
  simp [go_sem]
  refine call_same hP (isStr118G A p k st tag val an cv h l f row col hp h0) ?_
  rintro _ rfl
  refine hR _ _ _ ?_; clear hR R
  iterate 2 (refine seqX_hide2 fun R hR => ?_; simp [go_sem]; refine hR _ _ _ ?_; clear hR R)
  rw [seqX_nil]
  refine hK _ _ _ ?_; clear hK K
  refine hN2 _ _ _ ?_
  simp [go_sem]
  rfl
end Go.Proofs.YtpinamipjddobaaV

/- Trees: law 8 (FnRoadElement). -/
import Derived.Test.YtpinamipjddobaaSH
import Derived.Test.YtpinamipjddobaaSE0
namespace Go.Proofs.YtpinamipjddobaaV
open Go.RowKit
set_option linter.unusedSimpArgs false
set_option linter.unusedVariables false
set_option maxRecDepth 20000 in
set_option maxHeartbeats 400000 in
theorem road8 (A : View) (c : Array Value) (t : Tr) (hh : IsTr A t c ∧ SB t) (key value more : ByteArray) (hks : key.size ≤ 1125899906842624) (hvs : value.size ≤ 1125899906842624) (hms : more.size ≤ 1125899906842624) : VCalls Try.prog 8 #[.agg c, .string key, .string value, .string more] A fun r A' => r = .bool true ∧ A ≤ A' := by
  obtain ⟨hc, hsb⟩ := hh
  have hcz := hc.size
  have hco := hc.ones
  obtain ⟨bb, bc0, hc11, htr⟩ := hc.at11 (by rw [hcz]; decide)
  refine xcalls Try.func8 rfl (by simp [Try.ntmps8]) ?_
  simp only [Try.f8]
  have hP : Priv A (addrs []) := Priv.nil A
  show xc _ _ _ _ _ _ (ov A [])
  refine xc_two fun N1 hN1 => ?_
  refine xc_reg2 fun K hK => ?_
  simp only [rall, rsl, gres]
  refine seqX_hide2 fun R hR => ?_
  simp [go_sem, hcz, hco, hc11]
  intro q4 hq4
  replace hP := hP.cons hq4
  clear hq4
  refine hR _ _ _ ?_; clear hR R
  (refine seqX_hide2 fun R hR => ?_; simp [go_sem, hcz, hco, hc11]; refine hR _ _ _ ?_; clear hR R)
  rw [seqX_nil]
  refine hK _ _ _ ?_; clear hK K
  refine hN1 _ _ _ ?_
  refine xc_two fun N2 hN2 => ?_
  refine xc_two fun N3 hN3 => ?_
  refine xc_reg2 fun K hK => ?_
  simp only [rall, rsl, gres]
  (refine seqX_hide2 fun R hR => ?_; simp [go_sem, hcz, hco, hc11]; refine hR _ _ _ ?_; clear hR R)
  refine seqX_hide2 fun R hR => ?_
  simp [go_sem, hcz, hco, hc11]
  refine call_ov hP (fits8 A t c hc) ?_
  clear hP
  rintro _ A1 ⟨⟨b, rfl, hb8⟩, hA1⟩ hP
  cases b with
  | false =>
    refine hR _ _ _ ?_; clear hR R
    iterate 16 (refine seqX_hide2 fun R hR => ?_; simp [go_sem, hcz, hco, hc11]; refine hR _ _ _ ?_; clear hR R)
    rw [seqX_nil]
    refine hK _ _ _ ?_; clear hK K
    refine hN3 _ _ _ ?_
    refine xc_iftrue (by simp [go_sem, hcz, hco, hc11]) ?_
    refine xc_two fun N4 hN4 => ?_
    refine xc_reg2 fun K hK => ?_
    simp only [rall, rsl, gres]
    (refine seqX_hide2 fun R hR => ?_; simp [go_sem, hcz, hco, hc11]; refine hR _ _ _ ?_; clear hR R)
    rw [seqX_nil]
    refine hK _ _ _ ?_; clear hK K
    refine hN4 _ _ _ ?_
    simp [go_sem, hcz, hco, hc11]
    exact View.le_trans hA1 (le_ov hP)
  | true =>
  replace hb8 := hb8 rfl
  by_cases h1 : key.size ≤ 2147483647
  rotate_left
  · have z1 : (2147483647 : Int) < key.size := by omega
    refine hR _ _ _ ?_; clear hR R
    iterate 16 (refine seqX_hide2 fun R hR => ?_; simp [go_sem, hcz, hco, hc11, z1]; refine hR _ _ _ ?_; clear hR R)
    rw [seqX_nil]
    refine hK _ _ _ ?_; clear hK K
    refine hN3 _ _ _ ?_
    refine xc_iftrue (by simp [go_sem, hcz, hco, hc11, z1]) ?_
    refine xc_two fun N4 hN4 => ?_
    refine xc_reg2 fun K hK => ?_
    simp only [rall, rsl, gres]
    (refine seqX_hide2 fun R hR => ?_; simp [go_sem, hcz, hco, hc11, z1]; refine hR _ _ _ ?_; clear hR R)
    rw [seqX_nil]
    refine hK _ _ _ ?_; clear hK K
    refine hN4 _ _ _ ?_
    simp [go_sem, hcz, hco, hc11, z1]
    exact View.le_trans hA1 (le_ov hP)
  have z1 : ¬ (2147483647 : Int) < key.size := by omega
  by_cases h2 : value.size ≤ 2147483647
  rotate_left
  · have z2 : (2147483647 : Int) < value.size := by omega
    refine hR _ _ _ ?_; clear hR R
    iterate 16 (refine seqX_hide2 fun R hR => ?_; simp [go_sem, hcz, hco, hc11, z1, z2]; refine hR _ _ _ ?_; clear hR R)
    rw [seqX_nil]
    refine hK _ _ _ ?_; clear hK K
    refine hN3 _ _ _ ?_
    refine xc_iftrue (by simp [go_sem, hcz, hco, hc11, z1, z2]) ?_
    refine xc_two fun N4 hN4 => ?_
    refine xc_reg2 fun K hK => ?_
    simp only [rall, rsl, gres]
    (refine seqX_hide2 fun R hR => ?_; simp [go_sem, hcz, hco, hc11, z1, z2]; refine hR _ _ _ ?_; clear hR R)
    rw [seqX_nil]
    refine hK _ _ _ ?_; clear hK K
    refine hN4 _ _ _ ?_
    simp [go_sem, hcz, hco, hc11, z1, z2]
    exact View.le_trans hA1 (le_ov hP)
  have z2 : ¬ (2147483647 : Int) < value.size := by omega
  by_cases h3 : more.size ≤ 2147483647
  rotate_left
  · have z3 : (2147483647 : Int) < more.size := by omega
    refine hR _ _ _ ?_; clear hR R
    iterate 16 (refine seqX_hide2 fun R hR => ?_; simp [go_sem, hcz, hco, hc11, z1, z2, z3]; refine hR _ _ _ ?_; clear hR R)
    rw [seqX_nil]
    refine hK _ _ _ ?_; clear hK K
    refine hN3 _ _ _ ?_
    refine xc_iftrue (by simp [go_sem, hcz, hco, hc11, z1, z2, z3]) ?_
    refine xc_two fun N4 hN4 => ?_
    refine xc_reg2 fun K hK => ?_
    simp only [rall, rsl, gres]
    (refine seqX_hide2 fun R hR => ?_; simp [go_sem, hcz, hco, hc11, z1, z2, z3]; refine hR _ _ _ ?_; clear hR R)
    rw [seqX_nil]
    refine hK _ _ _ ?_; clear hK K
    refine hN4 _ _ _ ?_
    simp [go_sem, hcz, hco, hc11, z1, z2, z3]
    exact View.le_trans hA1 (le_ov hP)
  have z3 : ¬ (2147483647 : Int) < more.size := by omega
  refine hR _ _ _ ?_; clear hR R
  iterate 16 (refine seqX_hide2 fun R hR => ?_; simp [go_sem, hcz, hco, hc11, z1, z2, z3]; refine hR _ _ _ ?_; clear hR R)
  rw [seqX_nil]
  refine hK _ _ _ ?_; clear hK K
  refine hN3 _ _ _ ?_
  refine xc_iffalse (by simp [go_sem, hcz, hco, hc11, z1, z2, z3]) ?_
  refine hN2 _ _ _ ?_
  refine xc_two fun N4 hN4 => ?_
  refine xc_two fun N5 hN5 => ?_
  refine xc_reg2 fun K hK => ?_
  simp only [rall, rsl, gres]
  (refine seqX_hide2 fun R hR => ?_; simp [go_sem, hcz, hco, hc11, z1, z2, z3]; refine hR _ _ _ ?_; clear hR R)
  refine seqX_hide2 fun R hR => ?_
  simp [go_sem, hcz, hco, hc11, z1, z2, z3]
  refine call_ov hP (tfIs13 A1 t c 2 (hc.le hA1) hsb) ?_
  clear hP
  rintro _ A2 ⟨⟨b, rfl, hbt⟩, hA2⟩ hP
  have hA := View.le_trans hA1 hA2
  cases b with
  | false =>
    refine hR _ _ _ ?_; clear hR R
    iterate 3 (refine seqX_hide2 fun R hR => ?_; simp [go_sem, hcz, hco, hc11, z1, z2, z3]; refine hR _ _ _ ?_; clear hR R)
    refine seqX_hide2 fun R hR => ?_
    simp [go_sem, hcz, hco, hc11, z1, z2, z3]
    refine hR _ _ _ ?_; clear hR R
    iterate 4 (refine seqX_hide2 fun R hR => ?_; simp [go_sem, hcz, hco, hc11, z1, z2, z3]; refine hR _ _ _ ?_; clear hR R)
    refine seqX_hide2 fun R hR => ?_
    simp [go_sem, hcz, hco, hc11, z1, z2, z3]
    refine hR _ _ _ ?_; clear hR R
    iterate 4 (refine seqX_hide2 fun R hR => ?_; simp [go_sem, hcz, hco, hc11, z1, z2, z3]; refine hR _ _ _ ?_; clear hR R)
    refine seqX_hide2 fun R hR => ?_
    simp [go_sem, hcz, hco, hc11, z1, z2, z3]
    refine hR _ _ _ ?_; clear hR R
    iterate 7 (refine seqX_hide2 fun R hR => ?_; simp [go_sem, hcz, hco, hc11, z1, z2, z3]; refine hR _ _ _ ?_; clear hR R)
    rw [seqX_nil]
    refine hK _ _ _ ?_; clear hK K
    refine hN5 _ _ _ ?_
    refine xc_iftrue (by simp [go_sem, hcz, hco, hc11, z1, z2, z3]) ?_
    refine xc_two fun N6 hN6 => ?_
    refine xc_reg2 fun K hK => ?_
    simp only [rall, rsl, gres]
    (refine seqX_hide2 fun R hR => ?_; simp [go_sem, hcz, hco, hc11, z1, z2, z3]; refine hR _ _ _ ?_; clear hR R)
    rw [seqX_nil]
    refine hK _ _ _ ?_; clear hK K
    refine hN6 _ _ _ ?_
    simp [go_sem, hcz, hco, hc11, z1, z2, z3]
    exact View.le_trans hA (le_ov hP)
  | true =>
  obtain ⟨hk, hpl, hnd⟩ := hbt rfl
  refine hR _ _ _ ?_; clear hR R
  iterate 3 (refine seqX_hide2 fun R hR => ?_; simp [go_sem, hcz, hco, hc11, z1, z2, z3]; refine hR _ _ _ ?_; clear hR R)
  refine seqX_hide2 fun R hR => ?_
  simp [go_sem, hcz, hco, hc11, z1, z2, z3]
  refine call_same hP (word6 A2 key hks) ?_
  rintro _ ⟨b, rfl, hbk⟩
  cases b with
  | false =>
    refine hR _ _ _ ?_; clear hR R
    iterate 4 (refine seqX_hide2 fun R hR => ?_; simp [go_sem, hcz, hco, hc11, z1, z2, z3]; refine hR _ _ _ ?_; clear hR R)
    refine seqX_hide2 fun R hR => ?_
    simp [go_sem, hcz, hco, hc11, z1, z2, z3]
    refine hR _ _ _ ?_; clear hR R
    iterate 4 (refine seqX_hide2 fun R hR => ?_; simp [go_sem, hcz, hco, hc11, z1, z2, z3]; refine hR _ _ _ ?_; clear hR R)
    refine seqX_hide2 fun R hR => ?_
    simp [go_sem, hcz, hco, hc11, z1, z2, z3]
    refine hR _ _ _ ?_; clear hR R
    iterate 7 (refine seqX_hide2 fun R hR => ?_; simp [go_sem, hcz, hco, hc11, z1, z2, z3]; refine hR _ _ _ ?_; clear hR R)
    rw [seqX_nil]
    refine hK _ _ _ ?_; clear hK K
    refine hN5 _ _ _ ?_
    refine xc_iftrue (by simp [go_sem, hcz, hco, hc11, z1, z2, z3]) ?_
    refine xc_two fun N6 hN6 => ?_
    refine xc_reg2 fun K hK => ?_
    simp only [rall, rsl, gres]
    (refine seqX_hide2 fun R hR => ?_; simp [go_sem, hcz, hco, hc11, z1, z2, z3]; refine hR _ _ _ ?_; clear hR R)
    rw [seqX_nil]
    refine hK _ _ _ ?_; clear hK K
    refine hN6 _ _ _ ?_
    simp [go_sem, hcz, hco, hc11, z1, z2, z3]
    exact View.le_trans hA (le_ov hP)
  | true =>
  have hwk := hbk rfl
  refine hR _ _ _ ?_; clear hR R
  iterate 4 (refine seqX_hide2 fun R hR => ?_; simp [go_sem, hcz, hco, hc11, z1, z2, z3]; refine hR _ _ _ ?_; clear hR R)
  refine seqX_hide2 fun R hR => ?_
  simp [go_sem, hcz, hco, hc11, z1, z2, z3]
  refine call_same hP (word6 A2 value hvs) ?_
  rintro _ ⟨b, rfl, hbv⟩
  cases b with
  | false =>
    refine hR _ _ _ ?_; clear hR R
    iterate 4 (refine seqX_hide2 fun R hR => ?_; simp [go_sem, hcz, hco, hc11, z1, z2, z3]; refine hR _ _ _ ?_; clear hR R)
    refine seqX_hide2 fun R hR => ?_
    simp [go_sem, hcz, hco, hc11, z1, z2, z3]
    refine hR _ _ _ ?_; clear hR R
    iterate 7 (refine seqX_hide2 fun R hR => ?_; simp [go_sem, hcz, hco, hc11, z1, z2, z3]; refine hR _ _ _ ?_; clear hR R)
    rw [seqX_nil]
    refine hK _ _ _ ?_; clear hK K
    refine hN5 _ _ _ ?_
    refine xc_iftrue (by simp [go_sem, hcz, hco, hc11, z1, z2, z3]) ?_
    refine xc_two fun N6 hN6 => ?_
    refine xc_reg2 fun K hK => ?_
    simp only [rall, rsl, gres]
    (refine seqX_hide2 fun R hR => ?_; simp [go_sem, hcz, hco, hc11, z1, z2, z3]; refine hR _ _ _ ?_; clear hR R)
    rw [seqX_nil]
    refine hK _ _ _ ?_; clear hK K
    refine hN6 _ _ _ ?_
    simp [go_sem, hcz, hco, hc11, z1, z2, z3]
    exact View.le_trans hA (le_ov hP)
  | true =>
  have hwv := hbv rfl
  refine hR _ _ _ ?_; clear hR R
  iterate 4 (refine seqX_hide2 fun R hR => ?_; simp [go_sem, hcz, hco, hc11, z1, z2, z3]; refine hR _ _ _ ?_; clear hR R)
  refine seqX_hide2 fun R hR => ?_
  simp [go_sem, hcz, hco, hc11, z1, z2, z3]
  refine call_same hP (word6 A2 more hms) ?_
  rintro _ ⟨b, rfl, hbm⟩
  cases b with
  | false =>
    refine hR _ _ _ ?_; clear hR R
    iterate 7 (refine seqX_hide2 fun R hR => ?_; simp [go_sem, hcz, hco, hc11, z1, z2, z3]; refine hR _ _ _ ?_; clear hR R)
    rw [seqX_nil]
    refine hK _ _ _ ?_; clear hK K
    refine hN5 _ _ _ ?_
    refine xc_iftrue (by simp [go_sem, hcz, hco, hc11, z1, z2, z3]) ?_
    refine xc_two fun N6 hN6 => ?_
    refine xc_reg2 fun K hK => ?_
    simp only [rall, rsl, gres]
    (refine seqX_hide2 fun R hR => ?_; simp [go_sem, hcz, hco, hc11, z1, z2, z3]; refine hR _ _ _ ?_; clear hR R)
    rw [seqX_nil]
    refine hK _ _ _ ?_; clear hK K
    refine hN6 _ _ _ ?_
    simp [go_sem, hcz, hco, hc11, z1, z2, z3]
    exact View.le_trans hA (le_ov hP)
  | true =>
  have hwm := hbm rfl
  by_cases hne : more = key
  · skip
    refine hR _ _ _ ?_; clear hR R
    iterate 7 (refine seqX_hide2 fun R hR => ?_; simp [go_sem, hcz, hco, hc11, z1, z2, z3, hne]; refine hR _ _ _ ?_; clear hR R)
    rw [seqX_nil]
    refine hK _ _ _ ?_; clear hK K
    refine hN5 _ _ _ ?_
    refine xc_iftrue (by simp [go_sem, hcz, hco, hc11, z1, z2, z3, hne]) ?_
    refine xc_two fun N6 hN6 => ?_
    refine xc_reg2 fun K hK => ?_
    simp only [rall, rsl, gres]
    (refine seqX_hide2 fun R hR => ?_; simp [go_sem, hcz, hco, hc11, z1, z2, z3, hne]; refine hR _ _ _ ?_; clear hR R)
    rw [seqX_nil]
    refine hK _ _ _ ?_; clear hK K
    refine hN6 _ _ _ ?_
    simp [go_sem, hcz, hco, hc11, z1, z2, z3, hne]
    exact View.le_trans hA (le_ov hP)
  have hne2 := bytes_ne hne
  refine hR _ _ _ ?_; clear hR R
  iterate 7 (refine seqX_hide2 fun R hR => ?_; simp [go_sem, hcz, hco, hc11, z1, z2, z3, hne, hne2]; refine hR _ _ _ ?_; clear hR R)
  rw [seqX_nil]
  refine hK _ _ _ ?_; clear hK K
  refine hN5 _ _ _ ?_
  refine xc_iffalse (by simp [go_sem, hcz, hco, hc11, z1, z2, z3, hne, hne2]) ?_
  refine hN4 _ _ _ ?_
  refine xc_two fun N6 hN6 => ?_
  refine xc_two fun N7 hN7 => ?_
  refine xc_reg2 fun K hK => ?_
  simp only [rall, rsl, gres]
  iterate 4 (refine seqX_hide2 fun R hR => ?_; simp [go_sem, hcz, hco, hc11, z1, z2, z3, hne, hne2]; refine hR _ _ _ ?_; clear hR R)
  rw [seqX_nil]
  refine hK _ _ _ ?_; clear hK K
  refine hN7 _ _ _ ?_
  rw [xc_block]
  rw [xc_loop]
  refine vloopK (fun k' e ds A' => ∃ (i : Nat) (D : View), k' = t.kids.length - i ∧ ds = [] ∧ A' = ov D [(q4, .cells c 24 (0, 0))] ∧ Priv D [q4] ∧ e 1 = .string key ∧ e 2 = .string value ∧ e 3 = .string more ∧ e 4 = .pointer (some ⟨q4, 0, none⟩) ∧ e 71 = .slice bb t.kids.length bc0 ∧ e 72 = .int .i64 t.kids.length ∧ e 73 = .int .i64 i ∧ (i ≤ t.kids.length) ∧ (A ≤ D) ∧ (∀ j (h : j < t.kids.length), j < i → ¬ (t.kids[j].kind = 8 ∧ t.kids[j].tag = tNull) ∧ (t.kids[j].kind = 8 ∨ t.kids[j].kids.length ≠ 0))) _ ⟨0, A2, rfl, rfl, rfl, hP, by simp [go_sem, hcz, hco, hc11, z1, z2, z3, hne, hne2], by simp [go_sem, hcz, hco, hc11, z1, z2, z3, hne, hne2], by simp [go_sem, hcz, hco, hc11, z1, z2, z3, hne, hne2], by simp [go_sem, hcz, hco, hc11, z1, z2, z3, hne, hne2], by simp [go_sem, hcz, hco, hc11, z1, z2, z3, hne, hne2], by simp [go_sem, hcz, hco, hc11, z1, z2, z3, hne, hne2], by simp [go_sem, hcz, hco, hc11, z1, z2, z3, hne, hne2], by omega, hA, fun j h hj => by omega⟩ ?_
  clear hP
  rintro k' e ds _ ⟨i, D, rfl, rfl, rfl, hP, g1, g2, g3, g4, g71, g72, g73, hil, hAD, hnn⟩ J1 X1 hJ1 hX1
  refine xc_sound _ ?_
  have hw1 : IntKind.i64.wrap ((i : Int) + 1) = ((i + 1 : Nat) : Int) := by rw [wrap_in (by omega) (by omega)]; omega
  by_cases hi : i < t.kids.length
  · have hii : (i : Int) < t.kids.length := by omega
    obtain ⟨bs, cap, f1, hel1⟩ := htr
    simp only [Value.slice.injEq, true_and] at f1
    obtain ⟨hb1, hbc1⟩ := f1
    obtain ⟨a1, ci, ha1, u1, hci⟩ := hel1 i hi
    rw [ha1] at hb1
    subst hb1
    have u1 := le_cells hAD _ _ _ u1
    have hci := hci.le hAD
    have hz1 := hci.size
    have ho1 := hci.ones
    have hci0 := hci.at0 (by rw [hz1]; decide)
    obtain ⟨bi, ci0, hc11i, -⟩ := hci.at11 (by rw [hz1]; decide)
    refine xc_two fun N8 hN8 => ?_
    refine xc_reg2 fun K hK => ?_
    simp only [rall, rsl, gres]
    (refine seqX_hide2 fun R hR => ?_; simp [go_sem, hcz, hco, hc11, z1, z2, z3, hne, hne2, g1, g2, g3, g4, g71, g72, g73, hi, hii, hw1, hz1, ho1, hci0, hc11i, bcs hP u1]; refine hR _ _ _ ?_; clear hR R)
    rw [seqX_nil]
    refine hK _ _ _ ?_; clear hK K
    refine hN8 _ _ _ ?_
    refine xc_two fun N9 hN9 => ?_
    refine xc_iftrue (by simp [go_sem, hcz, hco, hc11, z1, z2, z3, hne, hne2, g1, g2, g3, g4, g71, g72, g73, hi, hii, hw1, hz1, ho1, hci0, hc11i, bcs hP u1]) ?_
    refine hN9 _ _ _ ?_
    refine xc_two fun N10 hN10 => ?_
    rw [xc_block]
    refine xc_two fun N11 hN11 => ?_
    refine xc_reg2 fun K hK => ?_
    simp only [rall, rsl, gres]
    iterate 2 (refine seqX_hide2 fun R hR => ?_; simp [go_sem, hcz, hco, hc11, z1, z2, z3, hne, hne2, g1, g2, g3, g4, g71, g72, g73, hi, hii, hw1, hz1, ho1, hci0, hc11i, bcs hP u1]; refine hR _ _ _ ?_; clear hR R)
    refine seqX_hide2 fun R hR => ?_
    simp [go_sem, hcz, hco, hc11, z1, z2, z3, hne, hne2, g1, g2, g3, g4, g71, g72, g73, hi, hii, hw1, hz1, ho1, hci0, hc11i, bcs hP u1]
    intro q10 hq10
    replace hP := hP.cons hq10
    clear hq10
    have d104 : q10 ≠ q4 := (hP.ne q4 (by simp [addrs])).1
    have d410 : q4 ≠ q10 := (hP.ne q4 (by simp [addrs])).2
    refine hR _ _ _ ?_; clear hR R
    refine seqX_hide2 fun R hR => ?_
    simp [go_sem, hcz, hco, hc11, z1, z2, z3, hne, hne2, g1, g2, g3, g4, g71, g72, g73, hi, hii, hw1, hz1, ho1, hci0, hc11i, bcs hP u1, d104, d410]
    refine hR _ _ _ ?_; clear hR R
    rw [seqX_nil]
    refine hK _ _ _ ?_; clear hK K
    refine hN11 _ _ _ ?_
    refine xc_two fun N12 hN12 => ?_
    refine xc_reg2 fun K hK => ?_
    simp only [rall, rsl, gres]
    (refine seqX_hide2 fun R hR => ?_; simp [go_sem, hcz, hco, hc11, z1, z2, z3, hne, hne2, g1, g2, g3, g4, g71, g72, g73, hi, hii, hw1, hz1, ho1, hci0, hc11i, bcs hP u1, d104, d410]; refine hR _ _ _ ?_; clear hR R)
    refine seqX_hide2 fun R hR => ?_
    simp [go_sem, hcz, hco, hc11, z1, z2, z3, hne, hne2, g1, g2, g3, g4, g71, g72, g73, hi, hii, hw1, hz1, ho1, hci0, hc11i, bcs hP u1, d104, d410]
    refine call_ov hP (isNull16 D _ ci hci) ?_
    clear hP
    rintro _ D2 ⟨⟨b, rfl, hb⟩, hD2⟩ hP
    have hAD2 := View.le_trans hAD hD2
    cases b with
    | true =>
      refine hR _ _ _ ?_; clear hR R
      iterate 11 (refine seqX_hide2 fun R hR => ?_; simp [go_sem, hcz, hco, hc11, z1, z2, z3, hne, hne2, g1, g2, g3, g4, g71, g72, g73, hi, hii, hw1, hz1, ho1, hci0, hc11i, d104, d410]; refine hR _ _ _ ?_; clear hR R)
      rw [seqX_nil]
      refine hK _ _ _ ?_; clear hK K
      refine hN12 _ _ _ ?_
      refine xc_iftrue (by simp [go_sem, hcz, hco, hc11, z1, z2, z3, hne, hne2, g1, g2, g3, g4, g71, g72, g73, hi, hii, hw1, hz1, ho1, hci0, hc11i, d104, d410]) ?_
      refine xc_two fun N13 hN13 => ?_
      refine xc_reg2 fun K hK => ?_
      simp only [rall, rsl, gres]
      (refine seqX_hide2 fun R hR => ?_; simp [go_sem, hcz, hco, hc11, z1, z2, z3, hne, hne2, g1, g2, g3, g4, g71, g72, g73, hi, hii, hw1, hz1, ho1, hci0, hc11i, d104, d410]; refine hR _ _ _ ?_; clear hR R)
      rw [seqX_nil]
      refine hK _ _ _ ?_; clear hK K
      refine hN13 _ _ _ ?_
      refine hX1 _ _ _ _ ?_
      simp [go_sem, hcz, hco, hc11, z1, z2, z3, hne, hne2, g1, g2, g3, g4, g71, g72, g73, hi, hii, hw1, hz1, ho1, hci0, hc11i, d104, d410]
      exact View.le_trans hAD2 (le_ov hP)
    | false =>
    have hb := hb rfl
    by_cases hk8 : t.kids[i].kind = 8
    · skip
      refine hR _ _ _ ?_; clear hR R
      iterate 11 (refine seqX_hide2 fun R hR => ?_; simp [go_sem, hcz, hco, hc11, z1, z2, z3, hne, hne2, g1, g2, g3, g4, g71, g72, g73, hi, hii, hw1, hz1, ho1, hci0, hc11i, d104, d410, hk8]; refine hR _ _ _ ?_; clear hR R)
      rw [seqX_nil]
      refine hK _ _ _ ?_; clear hK K
      refine hN12 _ _ _ ?_
      refine xc_iffalse (by simp [go_sem, hcz, hco, hc11, z1, z2, z3, hne, hne2, g1, g2, g3, g4, g71, g72, g73, hi, hii, hw1, hz1, ho1, hci0, hc11i, d104, d410, hk8]) ?_
      refine hN10 _ _ _ ?_
      refine xc_reg2 fun K hK => ?_
      simp only [rall, rsl, gres]
      iterate 2 (refine seqX_hide2 fun R hR => ?_; simp [go_sem, hcz, hco, hc11, z1, z2, z3, hne, hne2, g1, g2, g3, g4, g71, g72, g73, hi, hii, hw1, hz1, ho1, hci0, hc11i, d104, d410, hk8]; refine hR _ _ _ ?_; clear hR R)
      rw [seqX_nil]
      refine hK _ _ _ ?_; clear hK K
      refine sink_goal 0 hP rfl fun hPn lq10 nq10 => ?_
      clear hP; have hP := hPn; clear hPn
      simp only [List.eraseIdx_cons_zero, List.eraseIdx_cons_succ, addrs_cons, addrs_nil] at hP ⊢
      have hnn2 : ∀ j (h : j < t.kids.length), j < i + 1 → ¬ (t.kids[j].kind = 8 ∧ t.kids[j].tag = tNull) ∧ (t.kids[j].kind = 8 ∨ t.kids[j].kids.length ≠ 0) := fun j h hj => by
        rcases Nat.lt_or_eq_of_le (Nat.le_of_lt_succ hj) with h2 | h2
        · exact hnn j h h2
        · subst h2; exact ⟨hb, .inl hk8⟩
      refine hJ1 (t.kids.length - (i + 1)) _ _ _ (by omega) ⟨i + 1, _, rfl, rfl, rfl, hP, by simp [go_sem, hcz, hco, hc11, z1, z2, z3, hne, hne2, g1, g2, g3, g4, g71, g72, g73, hi, hii, hw1, hz1, ho1, hci0, hc11i, d104, d410, hk8], by simp [go_sem, hcz, hco, hc11, z1, z2, z3, hne, hne2, g1, g2, g3, g4, g71, g72, g73, hi, hii, hw1, hz1, ho1, hci0, hc11i, d104, d410, hk8], by simp [go_sem, hcz, hco, hc11, z1, z2, z3, hne, hne2, g1, g2, g3, g4, g71, g72, g73, hi, hii, hw1, hz1, ho1, hci0, hc11i, d104, d410, hk8], by simp [go_sem, hcz, hco, hc11, z1, z2, z3, hne, hne2, g1, g2, g3, g4, g71, g72, g73, hi, hii, hw1, hz1, ho1, hci0, hc11i, d104, d410, hk8], by simp [go_sem, hcz, hco, hc11, z1, z2, z3, hne, hne2, g1, g2, g3, g4, g71, g72, g73, hi, hii, hw1, hz1, ho1, hci0, hc11i, d104, d410, hk8], by simp [go_sem, hcz, hco, hc11, z1, z2, z3, hne, hne2, g1, g2, g3, g4, g71, g72, g73, hi, hii, hw1, hz1, ho1, hci0, hc11i, d104, d410, hk8], by simp [go_sem, hcz, hco, hc11, z1, z2, z3, hne, hne2, g1, g2, g3, g4, g71, g72, g73, hi, hii, hw1, hz1, ho1, hci0, hc11i, d104, d410, hk8], by omega, View.le_trans hAD2 lq10, hnn2⟩
    have hkb : (t.kids[i].kind != 8) = true := bne_iff_ne.2 hk8
    by_cases hk0 : t.kids[i].kids.length = 0
    · have hkn : t.kids[i].kids = [] := List.eq_nil_of_length_eq_zero hk0
      refine hR _ _ _ ?_; clear hR R
      iterate 11 (refine seqX_hide2 fun R hR => ?_; simp [go_sem, hcz, hco, hc11, z1, z2, z3, hne, hne2, g1, g2, g3, g4, g71, g72, g73, hi, hii, hw1, hz1, ho1, hci0, hc11i, d104, d410, hk8, hkb, hk0, hkn]; refine hR _ _ _ ?_; clear hR R)
      rw [seqX_nil]
      refine hK _ _ _ ?_; clear hK K
      refine hN12 _ _ _ ?_
      refine xc_iftrue (by simp [go_sem, hcz, hco, hc11, z1, z2, z3, hne, hne2, g1, g2, g3, g4, g71, g72, g73, hi, hii, hw1, hz1, ho1, hci0, hc11i, d104, d410, hk8, hkb, hk0, hkn]) ?_
      refine xc_two fun N13 hN13 => ?_
      refine xc_reg2 fun K hK => ?_
      simp only [rall, rsl, gres]
      (refine seqX_hide2 fun R hR => ?_; simp [go_sem, hcz, hco, hc11, z1, z2, z3, hne, hne2, g1, g2, g3, g4, g71, g72, g73, hi, hii, hw1, hz1, ho1, hci0, hc11i, d104, d410, hk8, hkb, hk0, hkn]; refine hR _ _ _ ?_; clear hR R)
      rw [seqX_nil]
      refine hK _ _ _ ?_; clear hK K
      refine hN13 _ _ _ ?_
      refine hX1 _ _ _ _ ?_
      simp [go_sem, hcz, hco, hc11, z1, z2, z3, hne, hne2, g1, g2, g3, g4, g71, g72, g73, hi, hii, hw1, hz1, ho1, hci0, hc11i, d104, d410, hk8, hkb, hk0, hkn]
      exact View.le_trans hAD2 (le_ov hP)
    have hkn : ¬ t.kids[i].kids = [] := fun e => hk0 (by rw [e]; rfl)
    have hki : ¬ (t.kids[i].kids.length : Int) = 0 := by omega
    refine hR _ _ _ ?_; clear hR R
    iterate 11 (refine seqX_hide2 fun R hR => ?_; simp [go_sem, hcz, hco, hc11, z1, z2, z3, hne, hne2, g1, g2, g3, g4, g71, g72, g73, hi, hii, hw1, hz1, ho1, hci0, hc11i, d104, d410, hk8, hkb, hk0, hkn, hki]; refine hR _ _ _ ?_; clear hR R)
    rw [seqX_nil]
    refine hK _ _ _ ?_; clear hK K
    refine hN12 _ _ _ ?_
    refine xc_iffalse (by simp [go_sem, hcz, hco, hc11, z1, z2, z3, hne, hne2, g1, g2, g3, g4, g71, g72, g73, hi, hii, hw1, hz1, ho1, hci0, hc11i, d104, d410, hk8, hkb, hk0, hkn, hki]) ?_
    refine hN10 _ _ _ ?_
    refine xc_reg2 fun K hK => ?_
    simp only [rall, rsl, gres]
    iterate 2 (refine seqX_hide2 fun R hR => ?_; simp [go_sem, hcz, hco, hc11, z1, z2, z3, hne, hne2, g1, g2, g3, g4, g71, g72, g73, hi, hii, hw1, hz1, ho1, hci0, hc11i, d104, d410, hk8, hkb, hk0, hkn, hki]; refine hR _ _ _ ?_; clear hR R)
    rw [seqX_nil]
    refine hK _ _ _ ?_; clear hK K
    refine sink_goal 0 hP rfl fun hPn lq10 nq10 => ?_
    clear hP; have hP := hPn; clear hPn
    simp only [List.eraseIdx_cons_zero, List.eraseIdx_cons_succ, addrs_cons, addrs_nil] at hP ⊢
    have hnn2 : ∀ j (h : j < t.kids.length), j < i + 1 → ¬ (t.kids[j].kind = 8 ∧ t.kids[j].tag = tNull) ∧ (t.kids[j].kind = 8 ∨ t.kids[j].kids.length ≠ 0) := fun j h hj => by
      rcases Nat.lt_or_eq_of_le (Nat.le_of_lt_succ hj) with h2 | h2
      · exact hnn j h h2
      · subst h2; exact ⟨hb, .inr hk0⟩
    refine hJ1 (t.kids.length - (i + 1)) _ _ _ (by omega) ⟨i + 1, _, rfl, rfl, rfl, hP, by simp [go_sem, hcz, hco, hc11, z1, z2, z3, hne, hne2, g1, g2, g3, g4, g71, g72, g73, hi, hii, hw1, hz1, ho1, hci0, hc11i, d104, d410, hk8, hkb, hk0, hkn, hki], by simp [go_sem, hcz, hco, hc11, z1, z2, z3, hne, hne2, g1, g2, g3, g4, g71, g72, g73, hi, hii, hw1, hz1, ho1, hci0, hc11i, d104, d410, hk8, hkb, hk0, hkn, hki], by simp [go_sem, hcz, hco, hc11, z1, z2, z3, hne, hne2, g1, g2, g3, g4, g71, g72, g73, hi, hii, hw1, hz1, ho1, hci0, hc11i, d104, d410, hk8, hkb, hk0, hkn, hki], by simp [go_sem, hcz, hco, hc11, z1, z2, z3, hne, hne2, g1, g2, g3, g4, g71, g72, g73, hi, hii, hw1, hz1, ho1, hci0, hc11i, d104, d410, hk8, hkb, hk0, hkn, hki], by simp [go_sem, hcz, hco, hc11, z1, z2, z3, hne, hne2, g1, g2, g3, g4, g71, g72, g73, hi, hii, hw1, hz1, ho1, hci0, hc11i, d104, d410, hk8, hkb, hk0, hkn, hki], by simp [go_sem, hcz, hco, hc11, z1, z2, z3, hne, hne2, g1, g2, g3, g4, g71, g72, g73, hi, hii, hw1, hz1, ho1, hci0, hc11i, d104, d410, hk8, hkb, hk0, hkn, hki], by simp [go_sem, hcz, hco, hc11, z1, z2, z3, hne, hne2, g1, g2, g3, g4, g71, g72, g73, hi, hii, hw1, hz1, ho1, hci0, hc11i, d104, d410, hk8, hkb, hk0, hkn, hki], by omega, View.le_trans hAD2 lq10, hnn2⟩
  have hii : ¬ (i : Int) < t.kids.length := by omega
  have hkids : ∀ x ∈ t.kids, EN x ∧ (x.kind = 4 → x.kids.length % 2 = 0) := fun x hx => by
    obtain ⟨j, hj, rfl⟩ := List.getElem_of_mem hx
    obtain ⟨g1, g2⟩ := hnn j hj (by omega)
    have g3 := (hpl.kid3 hx).nn1 g1
    refine ⟨⟨g3.1, g3.2, fun e => ?_⟩, fun e => ?_⟩
    · rcases g2 with g2 | g2
      · omega
      · exact g2
    · rcases (hpl.kid3 hx).kinds with ⟨g4, -⟩ | ⟨g4, -⟩ | ⟨-, -, -, g4⟩
      · omega
      · omega
      · exact g4
  have htag : t.tag ≠ tNull := (hpl.nn1 fun e => by have := e.1; omega).2
  have hkn : ∀ s ∈ [key], s ≠ e0 := fun s hs e => by
    rw [List.mem_singleton] at hs
    subst hs
    exact hwk.1 (by rw [e]; rfl)
  have hvn : ∀ s ∈ [value], s ≠ e0 := fun s hs e => by
    rw [List.mem_singleton] at hs
    subst hs
    exact hwv.1 (by rw [e]; rfl)
  refine xc_two fun N8 hN8 => ?_
  refine xc_reg2 fun K hK => ?_
  simp only [rall, rsl, gres]
  (refine seqX_hide2 fun R hR => ?_; simp [go_sem, hcz, hco, hc11, z1, z2, z3, hne, hne2, g1, g2, g3, g4, g71, g72, g73, hi, hii]; refine hR _ _ _ ?_; clear hR R)
  rw [seqX_nil]
  refine hK _ _ _ ?_; clear hK K
  refine hN8 _ _ _ ?_
  refine xc_two fun N9 hN9 => ?_
  refine xc_iffalse (by simp [go_sem, hcz, hco, hc11, z1, z2, z3, hne, hne2, g1, g2, g3, g4, g71, g72, g73, hi, hii]) ?_
  refine hX1 _ _ _ _ ?_
  refine hN6 _ _ _ ?_
  refine xc_two fun N10 hN10 => ?_
  refine xc_reg2 fun K hK => ?_
  simp only [rall, rsl, gres]
  iterate 2 (refine seqX_hide2 fun R hR => ?_; simp [go_sem, hcz, hco, hc11, z1, z2, z3, hne, hne2, g1, g2, g3, g4, g71, g72, g73, hi, hii]; refine hR _ _ _ ?_; clear hR R)
  refine seqX_hide2 fun R hR => ?_
  simp [go_sem, hcz, hco, hc11, z1, z2, z3, hne, hne2, g1, g2, g3, g4, g71, g72, g73, hi, hii]
  intro q93 hq93
  replace hP := hP.cons hq93
  clear hq93
  have d934 : q93 ≠ q4 := (hP.ne q4 (by simp [addrs])).1
  have d493 : q4 ≠ q93 := (hP.ne q4 (by simp [addrs])).2
  refine hR _ _ _ ?_; clear hR R
  (refine seqX_hide2 fun R hR => ?_; simp [go_sem, hcz, hco, hc11, z1, z2, z3, hne, hne2, g1, g2, g3, g4, g71, g72, g73, hi, hii, d934, d493]; refine hR _ _ _ ?_; clear hR R)
  refine seqX_hide2 fun R hR => ?_
  simp [go_sem, hcz, hco, hc11, z1, z2, z3, hne, hne2, g1, g2, g3, g4, g71, g72, g73, hi, hii, d934, d493]
  refine call_ov hP (text16 D value) ?_
  clear hP
  rintro _ D2 ⟨rfl, hD2⟩ hP
  refine hR _ _ _ ?_; clear hR R
  refine seqX_hide2 fun R hR => ?_
  simp [go_sem, hcz, hco, hc11, z1, z2, z3, hne, hne2, g1, g2, g3, g4, g71, g72, g73, hi, hii, d934, d493]
  refine call_ov hP (text16 D2 vRed) ?_
  clear hP
  rintro _ D3 ⟨rfl, hD3⟩ hP
  refine hR _ _ _ ?_; clear hR R
  refine seqX_hide2 fun R hR => ?_
  simp [go_sem, hcz, hco, hc11, z1, z2, z3, hne, hne2, g1, g2, g3, g4, g71, g72, g73, hi, hii, d934, d493]
  intro q97 hq97
  replace hP := hP.cons hq97
  clear hq97
  have d9793 : q97 ≠ q93 := (hP.ne q93 (by simp [addrs])).1
  have d9397 : q93 ≠ q97 := (hP.ne q93 (by simp [addrs])).2
  have d974 : q97 ≠ q4 := (hP.ne q4 (by simp [addrs])).1
  have d497 : q4 ≠ q97 := (hP.ne q4 (by simp [addrs])).2
  refine hR _ _ _ ?_; clear hR R
  refine seqX_hide2 fun R hR => ?_
  simp [go_sem, hcz, hco, hc11, z1, z2, z3, hne, hne2, g1, g2, g3, g4, g71, g72, g73, hi, hii, d934, d493, d9793, d9397, d974, d497]
  have hf := elT_fit key value more
  have hek : EN (elT key value more) ∧ ((elT key value more).kind = 4 → (elT key value more).kids.length % 2 = 0) := ⟨⟨by show (4 : Int) ≠ 1; decide, by show tMap ≠ tNull; exact by decide, fun _ => by rw [elT_kids]; simp⟩, fun _ => by rw [elT_kids]; simp⟩
  have hkk1 : ∀ x ∈ (resT (fitK [key] [value]) [(elT key value more)] t.kids), EN x ∧ (x.kind = 4 → x.kids.length % 2 = 0) := fun x hx => by
    rcases resT_mem hx with hx | hx
    · exact hkids x hx
    · rw [List.mem_singleton] at hx
      subst hx
      exact hek
  have hpt1 : PT 12 (t.setK (resT (fitK [key] [value]) [(elT key value more)] t.kids)) := hpl.pt.setK fun x hx => by
    rcases resT_mem hx with hx | hx
    · exact hpl.pt.kid hx
    · rw [List.mem_singleton] at hx
      subst hx
      exact elT_pt _ _ _
  have hns := nds_res5 (elT_nds key value more) (fun x (hx : (fitK [key] [value]) x = true) => fit_three hx) t.kids
  have hn1 : nds (t.setK (resT (fitK [key] [value]) [(elT key value more)] t.kids)) ≤ 400 := by
    have := nds_kids1 t
    rw [nds_setK1]
    omega
  have hkd1 : (t.setK (resT (fitK [key] [value]) [(elT key value more)] t.kids)).kind = 2 := (t.setK_kind _).trans hk
  have htg1 : (t.setK (resT (fitK [key] [value]) [(elT key value more)] t.kids)).tag ≠ tNull := by rw [t.setK_tag]; exact htag
  have hk2s : ∀ x ∈ (setT (fitK [key] [value]) [] (resT (fitK [key] [value]) [(elT key value more)] t.kids)), x ∈ (resT (fitK [key] [value]) [(elT key value more)] t.kids) := fun x hx => by
    rcases setT_mem hx with hx | hx
    · exact hx.1
    · cases hx
  have hpt2 : PT 12 (t.setK (setT (fitK [key] [value]) [] (resT (fitK [key] [value]) [(elT key value more)] t.kids))) := hpl.pt.setK fun x hx => by
    have := hpt1.kid (x := x) (by rw [t.setK_kids]; exact hk2s x hx)
    exact this
  have hn2 : nds (t.setK (setT (fitK [key] [value]) [] (resT (fitK [key] [value]) [(elT key value more)] t.kids))) ≤ 400 := by
    have := nds_gone (fitK [key] [value]) (resT (fitK [key] [value]) [(elT key value more)] t.kids)
    rw [nds_setK1] at hn1 ⊢
    omega
  have hkd2 : (t.setK (setT (fitK [key] [value]) [] (resT (fitK [key] [value]) [(elT key value more)] t.kids))).kind = 2 := (t.setK_kind _).trans hk
  have htg2 : (t.setK (setT (fitK [key] [value]) [] (resT (fitK [key] [value]) [(elT key value more)] t.kids))).tag ≠ tNull := by rw [t.setK_tag]; exact htag
  have hlt : ((setT (fitK [key] [value]) [] (resT (fitK [key] [value]) [(elT key value more)] t.kids))).length < ((resT (fitK [key] [value]) [(elT key value more)] t.kids)).length := gone_lt (any_resT hf _)
  have hpe : ∀ x, some (elT key value more) = some x → PT 12 x ∧ nds x ≤ 400 ∧ x.kind ≠ 1 ∧ x.tag ≠ tNull := fun x hx => by
    cases hx
    exact ⟨elT_pt12 _ _ _, by rw [elT_nds]; decide, hek.1.1, hek.1.2.1⟩
  obtain ⟨eq97, hPn, nq97⟩ := sinkI (A := D3) (L := [(q97, .cells #[.int .i64 8, .int .i64 0, .string tStr, .string value, .string e0, .string e0, .string e0, .string e0, .int .i64 0, .int .i64 0, .int .i64 (-1), .slice none 0 0, .int .i64 8, .int .i64 0, .string tStr, .string vRed, .string e0, .string e0, .string e0, .string e0, .int .i64 0, .int .i64 0, .int .i64 (-1), .slice none 0 0] 24 (0, 0)), (q93, .cells #[.string key, .string more] 9 (0, 0)), (q4, .cells c 24 (0, 0))]) 0 hP rfl
  rw [eq97]
  clear eq97 hP; have hP := hPn; clear hPn
  simp only [List.eraseIdx_cons_zero, List.eraseIdx_cons_succ, addrs_cons, addrs_nil] at hP ⊢
  have lq97 : D3 ≤ D3.set q97 (.cells #[.int .i64 8, .int .i64 0, .string tStr, .string value, .string e0, .string e0, .string e0, .string e0, .int .i64 0, .int .i64 0, .int .i64 (-1), .slice none 0 0, .int .i64 8, .int .i64 0, .string tStr, .string vRed, .string e0, .string e0, .string e0, .string e0, .int .i64 0, .int .i64 0, .int .i64 (-1), .slice none 0 0] 24 (0, 0)) := le_set nq97
  have ht97 : Trs (D3.set q97 (.cells #[.int .i64 8, .int .i64 0, .string tStr, .string value, .string e0, .string e0, .string e0, .string e0, .int .i64 0, .int .i64 0, .int .i64 (-1), .slice none 0 0, .int .i64 8, .int .i64 0, .string tStr, .string vRed, .string e0, .string e0, .string e0, .string e0, .int .i64 0, .int .i64 0, .int .i64 (-1), .slice none 0 0] 24 (0, 0))) (.slice (some ⟨q97, 0, none⟩) 2 2) [tn value, tn vRed] := two_trs (set_at _ _ _)
  generalize D3.set q97 (.cells #[.int .i64 8, .int .i64 0, .string tStr, .string value, .string e0, .string e0, .string e0, .string e0, .int .i64 0, .int .i64 0, .int .i64 (-1), .slice none 0 0, .int .i64 8, .int .i64 0, .string tStr, .string vRed, .string e0, .string e0, .string e0, .string e0, .int .i64 0, .int .i64 0, .int .i64 (-1), .slice none 0 0] 24 (0, 0)) = D4 at hP lq97 ht97 ⊢
  obtain ⟨eq93, hPn, nq93⟩ := sinkI (A := D4) (L := [(q93, .cells #[.string key, .string more] 9 (0, 0)), (q4, .cells c 24 (0, 0))]) 0 hP rfl
  rw [eq93]
  clear eq93 hP; have hP := hPn; clear hPn
  simp only [List.eraseIdx_cons_zero, List.eraseIdx_cons_succ, addrs_cons, addrs_nil] at hP ⊢
  have lq93 : D4 ≤ D4.set q93 (.cells #[.string key, .string more] 9 (0, 0)) := le_set nq93
  have hk93 : Texts (D4.set q93 (.cells #[.string key, .string more] 9 (0, 0))) (.slice (some ⟨q93, 0, none⟩) 2 2) [key, more] := .inl ⟨_, 2, rfl, cells_block (set_at _ _ _) rfl⟩
  generalize D4.set q93 (.cells #[.string key, .string more] 9 (0, 0)) = D5 at hP lq93 hk93 ⊢
  refine call_ov hP (mapNode15 D5 [key, more] [tn value, tn vRed] _ _ hk93 (ht97.le lq93) rfl (by simp)) ?_
  clear hP
  rintro _ D6 ⟨c98, rfl, hc98, hD6⟩ hP
  replace hc98 : IsTr D6 (elT key value more) c98 := hc98
  have hz98 := hc98.size
  have ho98 := hc98.ones
  refine hR _ _ _ ?_; clear hR R
  refine seqX_hide2 fun R hR => ?_
  simp [go_sem, hcz, hco, hc11, z1, z2, z3, hne, hne2, g1, g2, g3, g4, g71, g72, g73, hi, hii, d934, d493, d9793, d9397, d974, d497, hz98, ho98]
  intro q11 hq11
  replace hP := hP.cons hq11
  clear hq11
  have d114 : q11 ≠ q4 := (hP.ne q4 (by simp [addrs])).1
  have d411 : q4 ≠ q11 := (hP.ne q4 (by simp [addrs])).2
  refine hR _ _ _ ?_; clear hR R
  refine seqX_hide2 fun R hR => ?_
  simp [go_sem, hcz, hco, hc11, z1, z2, z3, hne, hne2, g1, g2, g3, g4, g71, g72, g73, hi, hii, d934, d493, d9793, d9397, d974, d497, hz98, ho98, d114, d411]
  refine hR _ _ _ ?_; clear hR R
  rw [seqX_nil]
  refine hK _ _ _ ?_; clear hK K
  refine hN10 _ _ _ ?_
  refine xc_two fun N11 hN11 => ?_
  refine xc_reg2 fun K hK => ?_
  simp only [rall, rsl, gres]
  (refine seqX_hide2 fun R hR => ?_; simp [go_sem, hcz, hco, hc11, z1, z2, z3, hne, hne2, g1, g2, g3, g4, g71, g72, g73, hi, hii, d934, d493, d9793, d9397, d974, d497, hz98, ho98, d114, d411]; refine hR _ _ _ ?_; clear hR R)
  refine seqX_hide2 fun R hR => ?_
  simp [go_sem, hcz, hco, hc11, z1, z2, z3, hne, hne2, g1, g2, g3, g4, g71, g72, g73, hi, hii, d934, d493, d9793, d9397, d974, d497, hz98, ho98, d114, d411]
  intro q100 hq100
  replace hP := hP.cons hq100
  clear hq100
  have d10011 : q100 ≠ q11 := (hP.ne q11 (by simp [addrs])).1
  have d11100 : q11 ≠ q100 := (hP.ne q11 (by simp [addrs])).2
  have d1004 : q100 ≠ q4 := (hP.ne q4 (by simp [addrs])).1
  have d4100 : q4 ≠ q100 := (hP.ne q4 (by simp [addrs])).2
  refine hR _ _ _ ?_; clear hR R
  (refine seqX_hide2 fun R hR => ?_; simp [go_sem, hcz, hco, hc11, z1, z2, z3, hne, hne2, g1, g2, g3, g4, g71, g72, g73, hi, hii, d934, d493, d9793, d9397, d974, d497, hz98, ho98, d114, d411, d10011, d11100, d1004, d4100]; refine hR _ _ _ ?_; clear hR R)
  refine seqX_hide2 fun R hR => ?_
  simp [go_sem, hcz, hco, hc11, z1, z2, z3, hne, hne2, g1, g2, g3, g4, g71, g72, g73, hi, hii, d934, d493, d9793, d9397, d974, d497, hz98, ho98, d114, d411, d10011, d11100, d1004, d4100]
  intro q102 hq102
  replace hP := hP.cons hq102
  clear hq102
  have d102100 : q102 ≠ q100 := (hP.ne q100 (by simp [addrs])).1
  have d100102 : q100 ≠ q102 := (hP.ne q100 (by simp [addrs])).2
  have d10211 : q102 ≠ q11 := (hP.ne q11 (by simp [addrs])).1
  have d11102 : q11 ≠ q102 := (hP.ne q11 (by simp [addrs])).2
  have d1024 : q102 ≠ q4 := (hP.ne q4 (by simp [addrs])).1
  have d4102 : q4 ≠ q102 := (hP.ne q4 (by simp [addrs])).2
  refine hR _ _ _ ?_; clear hR R
  iterate 2 (refine seqX_hide2 fun R hR => ?_; simp [go_sem, hcz, hco, hc11, z1, z2, z3, hne, hne2, g1, g2, g3, g4, g71, g72, g73, hi, hii, d934, d493, d9793, d9397, d974, d497, hz98, ho98, d114, d411, d10011, d11100, d1004, d4100, d102100, d100102, d10211, d11102, d1024, d4102]; refine hR _ _ _ ?_; clear hR R)
  rw [seqX_nil]
  refine hK _ _ _ ?_; clear hK K
  refine hN11 _ _ _ ?_
  refine xc_two fun N12 hN12 => ?_
  obtain ⟨eq102, hPn, nq102⟩ := sinkI (A := D6) (L := [(q102, .cells #[.string value] 9 (0, 0)), (q100, .cells #[.string key] 9 (0, 0)), (q11, .cells c98 24 (0, 0)), (q4, .cells c 24 (0, 0))]) 0 hP rfl
  rw [eq102]
  clear eq102 hP; have hP := hPn; clear hPn
  simp only [List.eraseIdx_cons_zero, List.eraseIdx_cons_succ, addrs_cons, addrs_nil] at hP ⊢
  have lq102 : D6 ≤ D6.set q102 (.cells #[.string value] 9 (0, 0)) := le_set nq102
  have hv7 : Texts (D6.set q102 (.cells #[.string value] 9 (0, 0))) (.slice (some ⟨q102, 0, none⟩) 1 1) [value] := one_texts (set_at _ _ _)
  generalize D6.set q102 (.cells #[.string value] 9 (0, 0)) = D7 at hP lq102 hv7 ⊢
  obtain ⟨eq100, hPn, nq100⟩ := sinkI (A := D7) (L := [(q100, .cells #[.string key] 9 (0, 0)), (q11, .cells c98 24 (0, 0)), (q4, .cells c 24 (0, 0))]) 0 hP rfl
  rw [eq100]
  clear eq100 hP; have hP := hPn; clear hPn
  simp only [List.eraseIdx_cons_zero, List.eraseIdx_cons_succ, addrs_cons, addrs_nil] at hP ⊢
  have lq100 : D7 ≤ D7.set q100 (.cells #[.string key] 9 (0, 0)) := le_set nq100
  have hk8' : Texts (D7.set q100 (.cells #[.string key] 9 (0, 0))) (.slice (some ⟨q100, 0, none⟩) 1 1) [key] := one_texts (set_at _ _ _)
  generalize D7.set q100 (.cells #[.string key] 9 (0, 0)) = D8 at hP lq100 hk8' ⊢
  have hv8 := hv7.le lq100
  have hc8 := hc98.le (View.le_trans lq102 lq100)
  have hA8 : A ≤ D8 := View.le_trans hAD (View.le_trans hD2 (View.le_trans hD3 (View.le_trans lq97 (View.le_trans lq93 (View.le_trans hD6 (View.le_trans lq102 lq100))))))
  rw [xc_draws]
  refine vdrawK [(0, true), (1, true), (2, true), (3, true), (4, true), (5, false), (6, true), (7, true), (8, true), (9, true), (10, true), (11, false), (12, true), (13, true)] (ov D8 [(q11, .cells c98 24 (0, 0)), (q4, .cells c 24 (0, 0))]) mixed (by kernel_rfl) (View.le_refl _) fun K hK => ?_
  simp only [rsl, gres]
  iterate 2 (refine seqR_hide fun R hR => ?_; simp [go_sem, hcz, hco, hc11, z1, z2, z3, hne, hne2, g1, g2, g3, g4, g71, g72, g73, hi, hii, d934, d493, d9793, d9397, d974, d497, hz98, ho98, d114, d411, d10011, d11100, d1004, d4100, d102100, d100102, d10211, d11102, d1024, d4102]; refine hR _ _ _ ?_; clear hR R)
  refine seqR_hide fun R hR => ?_
  simp [go_sem, hcz, hco, hc11, z1, z2, z3, hne, hne2, g1, g2, g3, g4, g71, g72, g73, hi, hii, d934, d493, d9793, d9397, d974, d497, hz98, ho98, d114, d411, d10011, d11100, d1004, d4100, d102100, d100102, d10211, d11102, d1024, d4102]
  refine call_ov hP (one11 D8 (elT key value more) _ hc8) ?_
  clear hP
  rintro v1 D9 ⟨hv1, hD9⟩ hP
  obtain ⟨b1, k1, rfl⟩ := hv1.slice
  have hA9 := View.le_trans hA8 hD9
  refine ⟨ov_mono hD9, hR _ _ _ ?_⟩; clear hR R
  iterate 2 (refine seqR_hide fun R hR => ?_; simp [go_sem, hcz, hco, hc11, z1, z2, z3, hne, hne2, g1, g2, g3, g4, g71, g72, g73, hi, hii, d934, d493, d9793, d9397, d974, d497, hz98, ho98, d114, d411, d10011, d11100, d1004, d4100, d102100, d100102, d10211, d11102, d1024, d4102]; refine hR _ _ _ ?_; clear hR R)
  refine seqR_hide fun R hR => ?_
  simp [go_sem, hcz, hco, hc11, z1, z2, z3, hne, hne2, g1, g2, g3, g4, g71, g72, g73, hi, hii, d934, d493, d9793, d9397, d974, d497, hz98, ho98, d114, d411, d10011, d11100, d1004, d4100, d102100, d100102, d10211, d11102, d1024, d4102]
  refine call_ov hP (setElem34 D9 t (some (elT key value more)) 12 c _ _ _ [key] [value] (hc.le hA9) hpl.pt (by omega) (by omega) hk htag hv1 hpe (hk8'.le hD9) (hv8.le hD9) rfl (by simp) (by simp) hkn hvn hkids) ?_
  clear hP
  rintro _ D10 ⟨c1, fv1, rfl, hc1, hfv1, hD10⟩ hP
  replace hc1 : IsTr D10 (t.setK (resT (fitK [key] [value]) [(elT key value more)] t.kids)) c1 := hc1
  obtain ⟨b2, k2, rfl⟩ := hfv1.slice
  have hz1 := hc1.size
  have ho1 := hc1.ones
  have hA10 := View.le_trans hA9 hD10
  have hK10 := View.le_trans hD9 hD10
  refine hR _ _ _ ?_; clear hR R
  iterate 4 (refine seqR_hide fun R hR => ?_; simp [go_sem, hcz, hco, hc11, z1, z2, z3, hne, hne2, g1, g2, g3, g4, g71, g72, g73, hi, hii, d934, d493, d9793, d9397, d974, d497, hz98, ho98, d114, d411, d10011, d11100, d1004, d4100, d102100, d100102, d10211, d11102, d1024, d4102, hz1, ho1]; refine hR _ _ _ ?_; clear hR R)
  refine seqR_hide fun R hR => ?_
  simp [go_sem, hcz, hco, hc11, z1, z2, z3, hne, hne2, g1, g2, g3, g4, g71, g72, g73, hi, hii, d934, d493, d9793, d9397, d974, d497, hz98, ho98, d114, d411, d10011, d11100, d1004, d4100, d102100, d100102, d10211, d11102, d1024, d4102, hz1, ho1]
  intro q14 hq14
  replace hP := hP.cons hq14
  clear hq14
  have d1411 : q14 ≠ q11 := (hP.ne q11 (by simp [addrs])).1
  have d1114 : q11 ≠ q14 := (hP.ne q11 (by simp [addrs])).2
  have d144 : q14 ≠ q4 := (hP.ne q4 (by simp [addrs])).1
  have d414 : q4 ≠ q14 := (hP.ne q4 (by simp [addrs])).2
  refine hR _ _ _ ?_; clear hR R
  refine seqR_hide fun R hR => ?_
  simp [go_sem, hcz, hco, hc11, z1, z2, z3, hne, hne2, g1, g2, g3, g4, g71, g72, g73, hi, hii, d934, d493, d9793, d9397, d974, d497, hz98, ho98, d114, d411, d10011, d11100, d1004, d4100, d102100, d100102, d10211, d11102, d1024, d4102, hz1, ho1, d1411, d1114, d144, d414]
  refine hR _ _ _ ?_; clear hR R
  iterate 2 (refine seqR_hide fun R hR => ?_; simp [go_sem, hcz, hco, hc11, z1, z2, z3, hne, hne2, g1, g2, g3, g4, g71, g72, g73, hi, hii, d934, d493, d9793, d9397, d974, d497, hz98, ho98, d114, d411, d10011, d11100, d1004, d4100, d102100, d100102, d10211, d11102, d1024, d4102, hz1, ho1, d1411, d1114, d144, d414]; refine hR _ _ _ ?_; clear hR R)
  rw [seqR_nil]
  refine hK _ _ _ ?_; clear hK K
  refine hN12 _ _ _ ?_
  refine xc_two fun N13 hN13 => ?_
  refine xc_reg2 fun K hK => ?_
  simp only [rall, rsl, gres]
  iterate 3 (refine seqX_hide2 fun R hR => ?_; simp [go_sem, hcz, hco, hc11, z1, z2, z3, hne, hne2, g1, g2, g3, g4, g71, g72, g73, hi, hii, d934, d493, d9793, d9397, d974, d497, hz98, ho98, d114, d411, d10011, d11100, d1004, d4100, d102100, d100102, d10211, d11102, d1024, d4102, hz1, ho1, d1411, d1114, d144, d414]; refine hR _ _ _ ?_; clear hR R)
  refine seqX_hide2 fun R hR => ?_
  simp [go_sem, hcz, hco, hc11, z1, z2, z3, hne, hne2, g1, g2, g3, g4, g71, g72, g73, hi, hii, d934, d493, d9793, d9397, d974, d497, hz98, ho98, d114, d411, d10011, d11100, d1004, d4100, d102100, d100102, d10211, d11102, d1024, d4102, hz1, ho1, d1411, d1114, d144, d414]
  refine call_ov hP (matchElem35 D10 (t.setK (resT (fitK [key] [value]) [(elT key value more)] t.kids)) 12 c1 _ _ [key] [value] hc1 hpt1 hn1 (by omega) hkd1 htg1 (hk8'.le hK10) (hv8.le hK10) rfl (by simp) (by simp) hkn (by rw [t.setK_kids]; exact hkk1)) ?_
  clear hP
  rintro _ D11 ⟨c2, fv2, rfl, hc2, hfv2, hD11⟩ hP
  rw [t.setK_kids, find_resT hf] at hfv2
  replace hfv2 : Trs D11 fv2 [(elT key value more)] := hfv2
  obtain ⟨b3, k3, rfl⟩ := hfv2.slice
  have hz2 := hc2.size
  have ho2 := hc2.ones
  have hK11 := View.le_trans hK10 hD11
  refine hR _ _ _ ?_; clear hR R
  iterate 4 (refine seqX_hide2 fun R hR => ?_; simp [go_sem, hcz, hco, hc11, z1, z2, z3, hne, hne2, g1, g2, g3, g4, g71, g72, g73, hi, hii, d934, d493, d9793, d9397, d974, d497, hz98, ho98, d114, d411, d10011, d11100, d1004, d4100, d102100, d100102, d10211, d11102, d1024, d4102, hz1, ho1, d1411, d1114, d144, d414, hz2, ho2]; refine hR _ _ _ ?_; clear hR R)
  refine seqX_hide2 fun R hR => ?_
  simp [go_sem, hcz, hco, hc11, z1, z2, z3, hne, hne2, g1, g2, g3, g4, g71, g72, g73, hi, hii, d934, d493, d9793, d9397, d974, d497, hz98, ho98, d114, d411, d10011, d11100, d1004, d4100, d102100, d100102, d10211, d11102, d1024, d4102, hz1, ho1, d1411, d1114, d144, d414, hz2, ho2]
  intro q17 hq17
  replace hP := hP.cons hq17
  clear hq17
  have d1714 : q17 ≠ q14 := (hP.ne q14 (by simp [addrs])).1
  have d1417 : q14 ≠ q17 := (hP.ne q14 (by simp [addrs])).2
  have d1711 : q17 ≠ q11 := (hP.ne q11 (by simp [addrs])).1
  have d1117 : q11 ≠ q17 := (hP.ne q11 (by simp [addrs])).2
  have d174 : q17 ≠ q4 := (hP.ne q4 (by simp [addrs])).1
  have d417 : q4 ≠ q17 := (hP.ne q4 (by simp [addrs])).2
  refine hR _ _ _ ?_; clear hR R
  refine seqX_hide2 fun R hR => ?_
  simp [go_sem, hcz, hco, hc11, z1, z2, z3, hne, hne2, g1, g2, g3, g4, g71, g72, g73, hi, hii, d934, d493, d9793, d9397, d974, d497, hz98, ho98, d114, d411, d10011, d11100, d1004, d4100, d102100, d100102, d10211, d11102, d1024, d4102, hz1, ho1, d1411, d1114, d144, d414, hz2, ho2, d1714, d1417, d1711, d1117, d174, d417]
  refine hR _ _ _ ?_; clear hR R
  iterate 2 (refine seqX_hide2 fun R hR => ?_; simp [go_sem, hcz, hco, hc11, z1, z2, z3, hne, hne2, g1, g2, g3, g4, g71, g72, g73, hi, hii, d934, d493, d9793, d9397, d974, d497, hz98, ho98, d114, d411, d10011, d11100, d1004, d4100, d102100, d100102, d10211, d11102, d1024, d4102, hz1, ho1, d1411, d1114, d144, d414, hz2, ho2, d1714, d1417, d1711, d1117, d174, d417]; refine hR _ _ _ ?_; clear hR R)
  rw [seqX_nil]
  refine hK _ _ _ ?_; clear hK K
  refine hN13 _ _ _ ?_
  refine xc_two fun N14 hN14 => ?_
  rw [xc_draws]
  refine vdrawK [(0, true), (1, true), (2, true), (3, true), (4, true), (5, false), (6, true), (7, true), (8, true), (9, true), (10, true), (11, false), (12, true), (13, true)] (ov D11 [(q17, .cells c2 24 (0, 0)), (q14, .cells c1 24 (0, 0)), (q11, .cells c98 24 (0, 0)), (q4, .cells c 24 (0, 0))]) mixed (by kernel_rfl) (View.le_refl _) fun K hK => ?_
  simp only [rsl, gres]
  iterate 2 (refine seqR_hide fun R hR => ?_; simp [go_sem, hcz, hco, hc11, z1, z2, z3, hne, hne2, g1, g2, g3, g4, g71, g72, g73, hi, hii, d934, d493, d9793, d9397, d974, d497, hz98, ho98, d114, d411, d10011, d11100, d1004, d4100, d102100, d100102, d10211, d11102, d1024, d4102, hz1, ho1, d1411, d1114, d144, d414, hz2, ho2, d1714, d1417, d1711, d1117, d174, d417]; refine hR _ _ _ ?_; clear hR R)
  refine seqR_hide fun R hR => ?_
  simp [go_sem, hcz, hco, hc11, z1, z2, z3, hne, hne2, g1, g2, g3, g4, g71, g72, g73, hi, hii, d934, d493, d9793, d9397, d974, d497, hz98, ho98, d114, d411, d10011, d11100, d1004, d4100, d102100, d100102, d10211, d11102, d1024, d4102, hz1, ho1, d1411, d1114, d144, d414, hz2, ho2, d1714, d1417, d1711, d1117, d174, d417]
  refine call_ov hP (one11 D11 (elT key value more) _ (hc8.le hK11)) ?_
  clear hP
  rintro v3 D12 ⟨hv3, hD12⟩ hP
  obtain ⟨b4, k4, rfl⟩ := hv3.slice
  have hK12 := View.le_trans hK11 hD12
  have hT12 := View.le_trans hD11 hD12
  refine ⟨ov_mono hD12, hR _ _ _ ?_⟩; clear hR R
  iterate 2 (refine seqR_hide fun R hR => ?_; simp [go_sem, hcz, hco, hc11, z1, z2, z3, hne, hne2, g1, g2, g3, g4, g71, g72, g73, hi, hii, d934, d493, d9793, d9397, d974, d497, hz98, ho98, d114, d411, d10011, d11100, d1004, d4100, d102100, d100102, d10211, d11102, d1024, d4102, hz1, ho1, d1411, d1114, d144, d414, hz2, ho2, d1714, d1417, d1711, d1117, d174, d417]; refine hR _ _ _ ?_; clear hR R)
  refine seqR_hide fun R hR => ?_
  simp [go_sem, hcz, hco, hc11, z1, z2, z3, hne, hne2, g1, g2, g3, g4, g71, g72, g73, hi, hii, d934, d493, d9793, d9397, d974, d497, hz98, ho98, d114, d411, d10011, d11100, d1004, d4100, d102100, d100102, d10211, d11102, d1024, d4102, hz1, ho1, d1411, d1114, d144, d414, hz2, ho2, d1714, d1417, d1711, d1117, d174, d417]
  refine call_ov hP (setElem34 D12 (t.setK (resT (fitK [key] [value]) [(elT key value more)] t.kids)) (some (elT key value more)) 12 c1 _ _ _ [key] [value] (hc1.le hT12) hpt1 hn1 (by omega) hkd1 htg1 hv3 hpe (hk8'.le hK12) (hv8.le hK12) rfl (by simp) (by simp) hkn hvn (by rw [t.setK_kids]; exact hkk1)) ?_
  clear hP
  rintro _ D13 ⟨c3, fv3, rfl, hc3, hfv3, hD13⟩ hP
  replace hc3 : IsTr D13 (t.setK (resT (fitK [key] [value]) [(elT key value more)] t.kids)) c3 := by
    rw [t.setK_kids, t.setK_setK] at hc3
    have h9 : resT (fitK [key] [value]) (opt1 (some (elT key value more))) (resT (fitK [key] [value]) [(elT key value more)] t.kids) = (resT (fitK [key] [value]) [(elT key value more)] t.kids) := resT_twice hf _
    rw [h9] at hc3
    exact hc3
  obtain ⟨b5, k5, rfl⟩ := hfv3.slice
  have hz3 := hc3.size
  have ho3 := hc3.ones
  have hK13 := View.le_trans hK12 hD13
  have hT13 := View.le_trans hT12 hD13
  refine hR _ _ _ ?_; clear hR R
  iterate 4 (refine seqR_hide fun R hR => ?_; simp [go_sem, hcz, hco, hc11, z1, z2, z3, hne, hne2, g1, g2, g3, g4, g71, g72, g73, hi, hii, d934, d493, d9793, d9397, d974, d497, hz98, ho98, d114, d411, d10011, d11100, d1004, d4100, d102100, d100102, d10211, d11102, d1024, d4102, hz1, ho1, d1411, d1114, d144, d414, hz2, ho2, d1714, d1417, d1711, d1117, d174, d417, hz3, ho3]; refine hR _ _ _ ?_; clear hR R)
  refine seqR_hide fun R hR => ?_
  simp [go_sem, hcz, hco, hc11, z1, z2, z3, hne, hne2, g1, g2, g3, g4, g71, g72, g73, hi, hii, d934, d493, d9793, d9397, d974, d497, hz98, ho98, d114, d411, d10011, d11100, d1004, d4100, d102100, d100102, d10211, d11102, d1024, d4102, hz1, ho1, d1411, d1114, d144, d414, hz2, ho2, d1714, d1417, d1711, d1117, d174, d417, hz3, ho3]
  intro q20 hq20
  replace hP := hP.cons hq20
  clear hq20
  have d2017 : q20 ≠ q17 := (hP.ne q17 (by simp [addrs])).1
  have d1720 : q17 ≠ q20 := (hP.ne q17 (by simp [addrs])).2
  have d2014 : q20 ≠ q14 := (hP.ne q14 (by simp [addrs])).1
  have d1420 : q14 ≠ q20 := (hP.ne q14 (by simp [addrs])).2
  have d2011 : q20 ≠ q11 := (hP.ne q11 (by simp [addrs])).1
  have d1120 : q11 ≠ q20 := (hP.ne q11 (by simp [addrs])).2
  have d204 : q20 ≠ q4 := (hP.ne q4 (by simp [addrs])).1
  have d420 : q4 ≠ q20 := (hP.ne q4 (by simp [addrs])).2
  refine hR _ _ _ ?_; clear hR R
  refine seqR_hide fun R hR => ?_
  simp [go_sem, hcz, hco, hc11, z1, z2, z3, hne, hne2, g1, g2, g3, g4, g71, g72, g73, hi, hii, d934, d493, d9793, d9397, d974, d497, hz98, ho98, d114, d411, d10011, d11100, d1004, d4100, d102100, d100102, d10211, d11102, d1024, d4102, hz1, ho1, d1411, d1114, d144, d414, hz2, ho2, d1714, d1417, d1711, d1117, d174, d417, hz3, ho3, d2017, d1720, d2014, d1420, d2011, d1120, d204, d420]
  refine hR _ _ _ ?_; clear hR R
  iterate 2 (refine seqR_hide fun R hR => ?_; simp [go_sem, hcz, hco, hc11, z1, z2, z3, hne, hne2, g1, g2, g3, g4, g71, g72, g73, hi, hii, d934, d493, d9793, d9397, d974, d497, hz98, ho98, d114, d411, d10011, d11100, d1004, d4100, d102100, d100102, d10211, d11102, d1024, d4102, hz1, ho1, d1411, d1114, d144, d414, hz2, ho2, d1714, d1417, d1711, d1117, d174, d417, hz3, ho3, d2017, d1720, d2014, d1420, d2011, d1120, d204, d420]; refine hR _ _ _ ?_; clear hR R)
  rw [seqR_nil]
  refine hK _ _ _ ?_; clear hK K
  refine hN14 _ _ _ ?_
  refine xc_two fun N15 hN15 => ?_
  refine xc_reg2 fun K hK => ?_
  simp only [rall, rsl, gres]
  iterate 3 (refine seqX_hide2 fun R hR => ?_; simp [go_sem, hcz, hco, hc11, z1, z2, z3, hne, hne2, g1, g2, g3, g4, g71, g72, g73, hi, hii, d934, d493, d9793, d9397, d974, d497, hz98, ho98, d114, d411, d10011, d11100, d1004, d4100, d102100, d100102, d10211, d11102, d1024, d4102, hz1, ho1, d1411, d1114, d144, d414, hz2, ho2, d1714, d1417, d1711, d1117, d174, d417, hz3, ho3, d2017, d1720, d2014, d1420, d2011, d1120, d204, d420]; refine hR _ _ _ ?_; clear hR R)
  refine seqX_hide2 fun R hR => ?_
  simp [go_sem, hcz, hco, hc11, z1, z2, z3, hne, hne2, g1, g2, g3, g4, g71, g72, g73, hi, hii, d934, d493, d9793, d9397, d974, d497, hz98, ho98, d114, d411, d10011, d11100, d1004, d4100, d102100, d100102, d10211, d11102, d1024, d4102, hz1, ho1, d1411, d1114, d144, d414, hz2, ho2, d1714, d1417, d1711, d1117, d174, d417, hz3, ho3, d2017, d1720, d2014, d1420, d2011, d1120, d204, d420]
  refine call_ov hP (setElem34 D13 (t.setK (resT (fitK [key] [value]) [(elT key value more)] t.kids)) none 12 c1 _ _ _ [key] [value] (hc1.le hT13) hpt1 hn1 (by omega) hkd1 htg1 (Elems.nil _ _ _) (fun x hx => by cases hx) (hk8'.le hK13) (hv8.le hK13) rfl (by simp) (by simp) hkn hvn (by rw [t.setK_kids]; exact hkk1)) ?_
  clear hP
  rintro _ D14 ⟨c4, fv4, rfl, hc4, hfv4, hD14⟩ hP
  replace hc4 : IsTr D14 (t.setK (setT (fitK [key] [value]) [] (resT (fitK [key] [value]) [(elT key value more)] t.kids))) c4 := by
    rw [t.setK_kids, t.setK_setK] at hc4
    have h9 : resT (fitK [key] [value]) (opt1 none) (resT (fitK [key] [value]) [(elT key value more)] t.kids) = (setT (fitK [key] [value]) [] (resT (fitK [key] [value]) [(elT key value more)] t.kids)) := resT_nil _ _
    rw [h9] at hc4
    exact hc4
  obtain ⟨b6, k6, rfl⟩ := hfv4.slice
  have hz4 := hc4.size
  have ho4 := hc4.ones
  have hK14 := View.le_trans hK13 hD14
  have hT14 := View.le_trans hT13 hD14
  refine hR _ _ _ ?_; clear hR R
  iterate 4 (refine seqX_hide2 fun R hR => ?_; simp [go_sem, hcz, hco, hc11, z1, z2, z3, hne, hne2, g1, g2, g3, g4, g71, g72, g73, hi, hii, d934, d493, d9793, d9397, d974, d497, hz98, ho98, d114, d411, d10011, d11100, d1004, d4100, d102100, d100102, d10211, d11102, d1024, d4102, hz1, ho1, d1411, d1114, d144, d414, hz2, ho2, d1714, d1417, d1711, d1117, d174, d417, hz3, ho3, d2017, d1720, d2014, d1420, d2011, d1120, d204, d420, hz4, ho4]; refine hR _ _ _ ?_; clear hR R)
  refine seqX_hide2 fun R hR => ?_
  simp [go_sem, hcz, hco, hc11, z1, z2, z3, hne, hne2, g1, g2, g3, g4, g71, g72, g73, hi, hii, d934, d493, d9793, d9397, d974, d497, hz98, ho98, d114, d411, d10011, d11100, d1004, d4100, d102100, d100102, d10211, d11102, d1024, d4102, hz1, ho1, d1411, d1114, d144, d414, hz2, ho2, d1714, d1417, d1711, d1117, d174, d417, hz3, ho3, d2017, d1720, d2014, d1420, d2011, d1120, d204, d420, hz4, ho4]
  intro q23 hq23
  replace hP := hP.cons hq23
  clear hq23
  have d2320 : q23 ≠ q20 := (hP.ne q20 (by simp [addrs])).1
  have d2023 : q20 ≠ q23 := (hP.ne q20 (by simp [addrs])).2
  have d2317 : q23 ≠ q17 := (hP.ne q17 (by simp [addrs])).1
  have d1723 : q17 ≠ q23 := (hP.ne q17 (by simp [addrs])).2
  have d2314 : q23 ≠ q14 := (hP.ne q14 (by simp [addrs])).1
  have d1423 : q14 ≠ q23 := (hP.ne q14 (by simp [addrs])).2
  have d2311 : q23 ≠ q11 := (hP.ne q11 (by simp [addrs])).1
  have d1123 : q11 ≠ q23 := (hP.ne q11 (by simp [addrs])).2
  have d234 : q23 ≠ q4 := (hP.ne q4 (by simp [addrs])).1
  have d423 : q4 ≠ q23 := (hP.ne q4 (by simp [addrs])).2
  refine hR _ _ _ ?_; clear hR R
  refine seqX_hide2 fun R hR => ?_
  simp [go_sem, hcz, hco, hc11, z1, z2, z3, hne, hne2, g1, g2, g3, g4, g71, g72, g73, hi, hii, d934, d493, d9793, d9397, d974, d497, hz98, ho98, d114, d411, d10011, d11100, d1004, d4100, d102100, d100102, d10211, d11102, d1024, d4102, hz1, ho1, d1411, d1114, d144, d414, hz2, ho2, d1714, d1417, d1711, d1117, d174, d417, hz3, ho3, d2017, d1720, d2014, d1420, d2011, d1120, d204, d420, hz4, ho4, d2320, d2023, d2317, d1723, d2314, d1423, d2311, d1123, d234, d423]
  refine hR _ _ _ ?_; clear hR R
  iterate 2 (refine seqX_hide2 fun R hR => ?_; simp [go_sem, hcz, hco, hc11, z1, z2, z3, hne, hne2, g1, g2, g3, g4, g71, g72, g73, hi, hii, d934, d493, d9793, d9397, d974, d497, hz98, ho98, d114, d411, d10011, d11100, d1004, d4100, d102100, d100102, d10211, d11102, d1024, d4102, hz1, ho1, d1411, d1114, d144, d414, hz2, ho2, d1714, d1417, d1711, d1117, d174, d417, hz3, ho3, d2017, d1720, d2014, d1420, d2011, d1120, d204, d420, hz4, ho4, d2320, d2023, d2317, d1723, d2314, d1423, d2311, d1123, d234, d423]; refine hR _ _ _ ?_; clear hR R)
  rw [seqX_nil]
  refine hK _ _ _ ?_; clear hK K
  refine hN15 _ _ _ ?_
  refine xc_two fun N16 hN16 => ?_
  refine xc_reg2 fun K hK => ?_
  simp only [rall, rsl, gres]
  iterate 3 (refine seqX_hide2 fun R hR => ?_; simp [go_sem, hcz, hco, hc11, z1, z2, z3, hne, hne2, g1, g2, g3, g4, g71, g72, g73, hi, hii, d934, d493, d9793, d9397, d974, d497, hz98, ho98, d114, d411, d10011, d11100, d1004, d4100, d102100, d100102, d10211, d11102, d1024, d4102, hz1, ho1, d1411, d1114, d144, d414, hz2, ho2, d1714, d1417, d1711, d1117, d174, d417, hz3, ho3, d2017, d1720, d2014, d1420, d2011, d1120, d204, d420, hz4, ho4, d2320, d2023, d2317, d1723, d2314, d1423, d2311, d1123, d234, d423]; refine hR _ _ _ ?_; clear hR R)
  refine seqX_hide2 fun R hR => ?_
  simp [go_sem, hcz, hco, hc11, z1, z2, z3, hne, hne2, g1, g2, g3, g4, g71, g72, g73, hi, hii, d934, d493, d9793, d9397, d974, d497, hz98, ho98, d114, d411, d10011, d11100, d1004, d4100, d102100, d100102, d10211, d11102, d1024, d4102, hz1, ho1, d1411, d1114, d144, d414, hz2, ho2, d1714, d1417, d1711, d1117, d174, d417, hz3, ho3, d2017, d1720, d2014, d1420, d2011, d1120, d204, d420, hz4, ho4, d2320, d2023, d2317, d1723, d2314, d1423, d2311, d1123, d234, d423]
  refine call_ov hP (matchElem35 D14 (t.setK (setT (fitK [key] [value]) [] (resT (fitK [key] [value]) [(elT key value more)] t.kids))) 12 c4 _ _ [key] [value] hc4 hpt2 hn2 (by omega) hkd2 htg2 (hk8'.le hK14) (hv8.le hK14) rfl (by simp) (by simp) hkn (by rw [t.setK_kids]; exact fun x hx => hkk1 x (hk2s x hx))) ?_
  clear hP
  rintro _ D15 ⟨c5, fv5, rfl, hc5, hfv5, hD15⟩ hP
  rw [t.setK_kids, find_gone] at hfv5
  replace hfv5 : Trs D15 fv5 [] := hfv5
  obtain ⟨b7, k7, rfl⟩ := hfv5.slice
  have hz5 := hc5.size
  have ho5 := hc5.ones
  have hK15 := View.le_trans hK14 hD15
  have hT15 := View.le_trans hT14 hD15
  have hw0 : IntKind.i64.wrap 0 = 0 := by rw [wrap_in (by omega) (by omega)]
  refine hR _ _ _ ?_; clear hR R
  iterate 4 (refine seqX_hide2 fun R hR => ?_; simp [go_sem, hcz, hco, hc11, z1, z2, z3, hne, hne2, g1, g2, g3, g4, g71, g72, g73, hi, hii, d934, d493, d9793, d9397, d974, d497, hz98, ho98, d114, d411, d10011, d11100, d1004, d4100, d102100, d100102, d10211, d11102, d1024, d4102, hz1, ho1, d1411, d1114, d144, d414, hz2, ho2, d1714, d1417, d1711, d1117, d174, d417, hz3, ho3, d2017, d1720, d2014, d1420, d2011, d1120, d204, d420, hz4, ho4, d2320, d2023, d2317, d1723, d2314, d1423, d2311, d1123, d234, d423, hz5, ho5, hw0]; refine hR _ _ _ ?_; clear hR R)
  refine seqX_hide2 fun R hR => ?_
  simp [go_sem, hcz, hco, hc11, z1, z2, z3, hne, hne2, g1, g2, g3, g4, g71, g72, g73, hi, hii, d934, d493, d9793, d9397, d974, d497, hz98, ho98, d114, d411, d10011, d11100, d1004, d4100, d102100, d100102, d10211, d11102, d1024, d4102, hz1, ho1, d1411, d1114, d144, d414, hz2, ho2, d1714, d1417, d1711, d1117, d174, d417, hz3, ho3, d2017, d1720, d2014, d1420, d2011, d1120, d204, d420, hz4, ho4, d2320, d2023, d2317, d1723, d2314, d1423, d2311, d1123, d234, d423, hz5, ho5, hw0]
  intro q26 hq26
  replace hP := hP.cons hq26
  clear hq26
  have d2623 : q26 ≠ q23 := (hP.ne q23 (by simp [addrs])).1
  have d2326 : q23 ≠ q26 := (hP.ne q23 (by simp [addrs])).2
  have d2620 : q26 ≠ q20 := (hP.ne q20 (by simp [addrs])).1
  have d2026 : q20 ≠ q26 := (hP.ne q20 (by simp [addrs])).2
  have d2617 : q26 ≠ q17 := (hP.ne q17 (by simp [addrs])).1
  have d1726 : q17 ≠ q26 := (hP.ne q17 (by simp [addrs])).2
  have d2614 : q26 ≠ q14 := (hP.ne q14 (by simp [addrs])).1
  have d1426 : q14 ≠ q26 := (hP.ne q14 (by simp [addrs])).2
  have d2611 : q26 ≠ q11 := (hP.ne q11 (by simp [addrs])).1
  have d1126 : q11 ≠ q26 := (hP.ne q11 (by simp [addrs])).2
  have d264 : q26 ≠ q4 := (hP.ne q4 (by simp [addrs])).1
  have d426 : q4 ≠ q26 := (hP.ne q4 (by simp [addrs])).2
  refine hR _ _ _ ?_; clear hR R
  refine seqX_hide2 fun R hR => ?_
  simp [go_sem, hcz, hco, hc11, z1, z2, z3, hne, hne2, g1, g2, g3, g4, g71, g72, g73, hi, hii, d934, d493, d9793, d9397, d974, d497, hz98, ho98, d114, d411, d10011, d11100, d1004, d4100, d102100, d100102, d10211, d11102, d1024, d4102, hz1, ho1, d1411, d1114, d144, d414, hz2, ho2, d1714, d1417, d1711, d1117, d174, d417, hz3, ho3, d2017, d1720, d2014, d1420, d2011, d1120, d204, d420, hz4, ho4, d2320, d2023, d2317, d1723, d2314, d1423, d2311, d1123, d234, d423, hz5, ho5, hw0, d2623, d2326, d2620, d2026, d2617, d1726, d2614, d1426, d2611, d1126, d264, d426]
  refine hR _ _ _ ?_; clear hR R
  iterate 2 (refine seqX_hide2 fun R hR => ?_; simp [go_sem, hcz, hco, hc11, z1, z2, z3, hne, hne2, g1, g2, g3, g4, g71, g72, g73, hi, hii, d934, d493, d9793, d9397, d974, d497, hz98, ho98, d114, d411, d10011, d11100, d1004, d4100, d102100, d100102, d10211, d11102, d1024, d4102, hz1, ho1, d1411, d1114, d144, d414, hz2, ho2, d1714, d1417, d1711, d1117, d174, d417, hz3, ho3, d2017, d1720, d2014, d1420, d2011, d1120, d204, d420, hz4, ho4, d2320, d2023, d2317, d1723, d2314, d1423, d2311, d1123, d234, d423, hz5, ho5, hw0, d2623, d2326, d2620, d2026, d2617, d1726, d2614, d1426, d2611, d1126, d264, d426]; refine hR _ _ _ ?_; clear hR R)
  rw [seqX_nil]
  refine hK _ _ _ ?_; clear hK K
  refine hN16 _ _ _ ?_
  refine xc_two fun N17 hN17 => ?_
  refine xc_reg2 fun K hK => ?_
  simp only [rall, rsl, gres]
  iterate 13 (refine seqX_hide2 fun R hR => ?_; simp [go_sem, hcz, hco, hc11, z1, z2, z3, hne, hne2, g1, g2, g3, g4, g71, g72, g73, hi, hii, d934, d493, d9793, d9397, d974, d497, hz98, ho98, d114, d411, d10011, d11100, d1004, d4100, d102100, d100102, d10211, d11102, d1024, d4102, hz1, ho1, d1411, d1114, d144, d414, hz2, ho2, d1714, d1417, d1711, d1117, d174, d417, hz3, ho3, d2017, d1720, d2014, d1420, d2011, d1120, d204, d420, hz4, ho4, d2320, d2023, d2317, d1723, d2314, d1423, d2311, d1123, d234, d423, hz5, ho5, hw0, d2623, d2326, d2620, d2026, d2617, d1726, d2614, d1426, d2611, d1126, d264, d426]; refine hR _ _ _ ?_; clear hR R)
  refine seqX_hide2 fun R hR => ?_
  simp [go_sem, hcz, hco, hc11, z1, z2, z3, hne, hne2, g1, g2, g3, g4, g71, g72, g73, hi, hii, d934, d493, d9793, d9397, d974, d497, hz98, ho98, d114, d411, d10011, d11100, d1004, d4100, d102100, d100102, d10211, d11102, d1024, d4102, hz1, ho1, d1411, d1114, d144, d414, hz2, ho2, d1714, d1417, d1711, d1117, d174, d417, hz3, ho3, d2017, d1720, d2014, d1420, d2011, d1120, d204, d420, hz4, ho4, d2320, d2023, d2317, d1723, d2314, d1423, d2311, d1123, d234, d423, hz5, ho5, hw0, d2623, d2326, d2620, d2026, d2617, d1726, d2614, d1426, d2611, d1126, d264, d426]
  obtain ⟨b8, k8, hx4, -⟩ := hc4.at11 (by rw [hz4]; decide)
  obtain ⟨b9, k9, hx1, -⟩ := hc1.at11 (by rw [hz1]; decide)
  rw [t.setK_kids] at hx4 hx1
  have hlti : (((setT (fitK [key] [value]) [] (resT (fitK [key] [value]) [(elT key value more)] t.kids))).length : Int) < ((resT (fitK [key] [value]) [(elT key value more)] t.kids)).length := by omega
  refine call_ov hP (one11 D15 (elT key value more) _ (hc8.le hK15)) ?_
  clear hP
  rintro v6 D16 ⟨hv6, hD16⟩ hP
  obtain ⟨b10, k10, rfl⟩ := hv6.slice
  refine hR _ _ _ ?_; clear hR R
  refine seqX_hide2 fun R hR => ?_
  simp [go_sem, hcz, hco, hc11, z1, z2, z3, hne, hne2, g1, g2, g3, g4, g71, g72, g73, hi, hii, d934, d493, d9793, d9397, d974, d497, hz98, ho98, d114, d411, d10011, d11100, d1004, d4100, d102100, d100102, d10211, d11102, d1024, d4102, hz1, ho1, d1411, d1114, d144, d414, hz2, ho2, d1714, d1417, d1711, d1117, d174, d417, hz3, ho3, d2017, d1720, d2014, d1420, d2011, d1120, d204, d420, hz4, ho4, d2320, d2023, d2317, d1723, d2314, d1423, d2311, d1123, d234, d423, hz5, ho5, hw0, d2623, d2326, d2620, d2026, d2617, d1726, d2614, d1426, d2611, d1126, d264, d426, hx4, hx1, hlt, hlti]
  refine call_ov hP (sames27 D16 _ _ [(elT key value more)] (hfv2.le (View.le_trans hD12 (View.le_trans hD13 (View.le_trans hD14 (View.le_trans hD15 hD16))))) hv6 (by simp) (fun x hx => by rw [List.mem_singleton] at hx; subst hx; rw [elT_nds]; decide)) ?_
  clear hP
  rintro _ D17 ⟨rfl, hD17⟩ hP
  refine hR _ _ _ ?_; clear hR R
  iterate 4 (refine seqX_hide2 fun R hR => ?_; simp [go_sem, hcz, hco, hc11, z1, z2, z3, hne, hne2, g1, g2, g3, g4, g71, g72, g73, hi, hii, d934, d493, d9793, d9397, d974, d497, hz98, ho98, d114, d411, d10011, d11100, d1004, d4100, d102100, d100102, d10211, d11102, d1024, d4102, hz1, ho1, d1411, d1114, d144, d414, hz2, ho2, d1714, d1417, d1711, d1117, d174, d417, hz3, ho3, d2017, d1720, d2014, d1420, d2011, d1120, d204, d420, hz4, ho4, d2320, d2023, d2317, d1723, d2314, d1423, d2311, d1123, d234, d423, hz5, ho5, hw0, d2623, d2326, d2620, d2026, d2617, d1726, d2614, d1426, d2611, d1126, d264, d426, hx4, hx1, hlt, hlti]; refine hR _ _ _ ?_; clear hR R)
  refine seqX_hide2 fun R hR => ?_
  simp [go_sem, hcz, hco, hc11, z1, z2, z3, hne, hne2, g1, g2, g3, g4, g71, g72, g73, hi, hii, d934, d493, d9793, d9397, d974, d497, hz98, ho98, d114, d411, d10011, d11100, d1004, d4100, d102100, d100102, d10211, d11102, d1024, d4102, hz1, ho1, d1411, d1114, d144, d414, hz2, ho2, d1714, d1417, d1711, d1117, d174, d417, hz3, ho3, d2017, d1720, d2014, d1420, d2011, d1120, d204, d420, hz4, ho4, d2320, d2023, d2317, d1723, d2314, d1423, d2311, d1123, d234, d423, hz5, ho5, hw0, d2623, d2326, d2620, d2026, d2617, d1726, d2614, d1426, d2611, d1126, d264, d426, hx4, hx1, hlt, hlti]
  refine call_ov hP (same14 (t.setK (resT (fitK [key] [value]) [(elT key value more)] t.kids)) D17 _ c1 c3 (hc1.le (View.le_trans hT15 (View.le_trans hD16 hD17))) (hc3.le (View.le_trans hD14 (View.le_trans hD15 (View.le_trans hD16 hD17)))) (Same.refl _) (by omega)) ?_
  clear hP
  rintro _ D18 ⟨rfl, hD18⟩ hP
  refine hR _ _ _ ?_; clear hR R
  iterate 16 (refine seqX_hide2 fun R hR => ?_; simp [go_sem, hcz, hco, hc11, z1, z2, z3, hne, hne2, g1, g2, g3, g4, g71, g72, g73, hi, hii, d934, d493, d9793, d9397, d974, d497, hz98, ho98, d114, d411, d10011, d11100, d1004, d4100, d102100, d100102, d10211, d11102, d1024, d4102, hz1, ho1, d1411, d1114, d144, d414, hz2, ho2, d1714, d1417, d1711, d1117, d174, d417, hz3, ho3, d2017, d1720, d2014, d1420, d2011, d1120, d204, d420, hz4, ho4, d2320, d2023, d2317, d1723, d2314, d1423, d2311, d1123, d234, d423, hz5, ho5, hw0, d2623, d2326, d2620, d2026, d2617, d1726, d2614, d1426, d2611, d1126, d264, d426, hx4, hx1, hlt, hlti]; refine hR _ _ _ ?_; clear hR R)
  rw [seqX_nil]
  refine hK _ _ _ ?_; clear hK K
  refine hN17 _ _ _ ?_
  simp [go_sem, hcz, hco, hc11, z1, z2, z3, hne, hne2, g1, g2, g3, g4, g71, g72, g73, hi, hii, d934, d493, d9793, d9397, d974, d497, hz98, ho98, d114, d411, d10011, d11100, d1004, d4100, d102100, d100102, d10211, d11102, d1024, d4102, hz1, ho1, d1411, d1114, d144, d414, hz2, ho2, d1714, d1417, d1711, d1117, d174, d417, hz3, ho3, d2017, d1720, d2014, d1420, d2011, d1120, d204, d420, hz4, ho4, d2320, d2023, d2317, d1723, d2314, d1423, d2311, d1123, d234, d423, hz5, ho5, hw0, d2623, d2326, d2620, d2026, d2617, d1726, d2614, d1426, d2611, d1126, d264, d426, hx4, hx1, hlt, hlti]
  exact View.le_trans hA8 (View.le_trans hK15 (View.le_trans hD16 (View.le_trans hD17 (View.le_trans hD18 (le_ov hP)))))
theorem law8 (W : World) (c : Array Value) (t : Tr) (hh : IsTr (full W) t c ∧ SB t) (key : ByteArray) (hk : key.size ≤ 140737488351232) (value : ByteArray) (hv : value.size ≤ 140737488351232) (more : ByteArray) (hm : more.size ≤ 140737488351232) : VCalls Try.prog 8 #[.agg c, .string key, .string value, .string more] (full W) fun r A' => r = .bool true ∧ full W ≤ A' := road8 (full W) c t hh key value more (by omega) (by omega) (by omega)
end Go.Proofs.YtpinamipjddobaaV

/- Trees: law 1 (FnRoadSetTwo). -/
import Derived.Test.YtpinamipjddobaaHF
import Derived.Test.YtpinamipjddobaaRQ0
import Derived.Test.YtpinamipjddobaaPL0
import Derived.Test.YtpinamipjddobaaRJ
namespace Go.Proofs.YtpinamipjddobaaV
open Go.RowKit
set_option linter.unusedSimpArgs false
set_option linter.unusedVariables false
theorem PT.mono : ∀ {lv lv' : Nat} {t : Tr}, PT lv t → lv ≤ lv' → PT lv' t
  | lv, lv', .mk k st tag val an h l f row col al kids, e, hle => by
    rw [PT] at e ⊢
    exact ⟨by have := e.1; omega, e.2.1, e.2.2.1, fun j hj => PT.mono (e.2.2.2 j hj) (by omega)⟩
termination_by _ _ v => SizeOf.sizeOf v
decreasing_by
  have := List.sizeOf_lt_of_mem (List.getElem_mem hj)
  simp
  omega
theorem PL.val {lv : Nat} {t : Tr} (h : PL lv t) : t.tag ≠ e0 ∧ (t.tag = tStr → t.kind = 8 ∧ Wd t.value) := by
  obtain ⟨k, st, tag, val, an, hh, l, f, row, col, al, kids, rfl⟩ := t.ex
  rw [PL] at h
  obtain ⟨-, -, h | h | h, -⟩ := h
  · obtain ⟨h1, -, h2 | h2 | h2⟩ := h
    · exact ⟨by show tag ≠ e0; rw [h2.1]; decide, fun e => absurd (h2.1.symm.trans e) (by decide)⟩
    · exact ⟨by show tag ≠ e0; rw [h2.1]; decide, fun _ => ⟨h1, h2.2⟩⟩
    · exact ⟨by show tag ≠ e0; rw [h2.1]; decide, fun e => absurd (h2.1.symm.trans e) (by decide)⟩
  · exact ⟨by show tag ≠ e0; rw [h.2.1]; decide, fun e => absurd (h.2.1.symm.trans e) (by decide)⟩
  · exact ⟨by show tag ≠ e0; rw [h.2.1]; decide, fun e => absurd (h.2.1.symm.trans e) (by decide)⟩
theorem PL.key {lv : Nat} {t : Tr} (h : PL lv t) (hk : t.kind = 4) {i : Nat} (hi : i < t.kids.length) (he : i % 2 = 0) : Wd (t.kids[i]).value := by
  have hx := h.kid3 (List.getElem_mem hi)
  refine (hx.val.2 ?_).2
  obtain ⟨k, st, tag, val, an, hh, l, f, row, col, al, kids, rfl⟩ := t.ex
  rw [PL] at h
  replace hk : k = 4 := hk
  obtain ⟨-, -, h, -⟩ := h
  rcases h with h | h | h
  · omega
  · omega
  · exact h.2.2.2.2.1 i hi he
theorem wd_ne {s : ByteArray} (h : Wd s) : s ≠ e0 := fun e => h.1 (by rw [e]; rfl)
theorem fldI_of {l : List Tr} {s : ByteArray} {x : Tr} (h : fld l s = some x) : ∃ j, fldI l s = some j := by
  cases hj : fldI l s with
  | none => rw [fldI_none hj] at h; cases h
  | some j => exact ⟨j, rfl⟩
theorem setKid_comm (t x y : Tr) {i j : Nat} (h : i ≠ j) : (t.setKid i x).setKid j y = (t.setKid j y).setKid i x := by
  obtain ⟨k, st, tag, val, an, hh, l, f, row, col, al, kids, rfl⟩ := t.ex
  show Tr.mk k st tag val an hh l f row col al ((kids.set i x).set j y) = Tr.mk k st tag val an hh l f row col al ((kids.set j y).set i x)
  rw [List.set_comm _ _ h]
set_option maxRecDepth 20000 in
set_option maxHeartbeats 400000 in
theorem road3 (A : View) (c : Array Value) (t : Tr) (hh : IsTr A t c ∧ SB t) (one two : ByteArray) (h1s : one.size ≤ 1125899906842624) (h2s : two.size ≤ 1125899906842624) (cv : Array Value) (v : Tr) (hv : IsTr A v cv ∧ SB v) (cw : Array Value) (w : Tr) (hw : IsTr A w cw ∧ SB w) : VCalls Try.prog 3 #[.agg c, .string one, .string two, .agg cv, .agg cw] A fun r A' => r = .bool true ∧ A ≤ A' := by
  obtain ⟨hc, hsb⟩ := hh
  obtain ⟨hcv, hsv⟩ := hv
  obtain ⟨hcw, hsw⟩ := hw
  have hcz := hc.size
  have hco := hc.ones
  have hvz := hcv.size
  have hvo := hcv.ones
  have hwz := hcw.size
  have hwo := hcw.ones
  refine xcalls Try.func3 rfl (by simp [Try.ntmps3]) ?_
  simp only [Try.f3]
  have hP : Priv A (addrs []) := Priv.nil A
  show xc _ _ _ _ _ _ (ov A [])
  refine xc_two fun N1 hN1 => ?_
  refine xc_reg2 fun K hK => ?_
  simp only [rall, rsl, gres]
  refine seqX_hide2 fun R hR => ?_
  simp [go_sem, hcz, hco, hvz, hvo, hwz, hwo]
  intro q5 hq5
  replace hP := hP.cons hq5
  clear hq5
  refine hR _ _ _ ?_; clear hR R
  refine seqX_hide2 fun R hR => ?_
  simp [go_sem, hcz, hco, hvz, hvo, hwz, hwo]
  intro q8 hq8
  replace hP := hP.cons hq8
  clear hq8
  have d85 : q8 ≠ q5 := (hP.ne q5 (by simp [addrs])).1
  have d58 : q5 ≠ q8 := (hP.ne q5 (by simp [addrs])).2
  refine hR _ _ _ ?_; clear hR R
  refine seqX_hide2 fun R hR => ?_
  simp [go_sem, hcz, hco, hvz, hvo, hwz, hwo, d85, d58]
  intro q9 hq9
  replace hP := hP.cons hq9
  clear hq9
  have d98 : q9 ≠ q8 := (hP.ne q8 (by simp [addrs])).1
  have d89 : q8 ≠ q9 := (hP.ne q8 (by simp [addrs])).2
  have d95 : q9 ≠ q5 := (hP.ne q5 (by simp [addrs])).1
  have d59 : q5 ≠ q9 := (hP.ne q5 (by simp [addrs])).2
  refine hR _ _ _ ?_; clear hR R
  (refine seqX_hide2 fun R hR => ?_; simp [go_sem, hcz, hco, hvz, hvo, hwz, hwo, d85, d58, d98, d89, d95, d59]; refine hR _ _ _ ?_; clear hR R)
  rw [seqX_nil]
  refine hK _ _ _ ?_; clear hK K
  refine hN1 _ _ _ ?_
  refine xc_two fun N2 hN2 => ?_
  refine xc_two fun N3 hN3 => ?_
  refine xc_reg2 fun K hK => ?_
  simp only [rall, rsl, gres]
  (refine seqX_hide2 fun R hR => ?_; simp [go_sem, hcz, hco, hvz, hvo, hwz, hwo, d85, d58, d98, d89, d95, d59]; refine hR _ _ _ ?_; clear hR R)
  refine seqX_hide2 fun R hR => ?_
  simp [go_sem, hcz, hco, hvz, hvo, hwz, hwo, d85, d58, d98, d89, d95, d59]
  refine call_ov hP (fits8 A t c hc) ?_
  clear hP
  rintro _ A1 ⟨⟨b, rfl, hb8⟩, hA1⟩ hP
  cases b with
  | false =>
    refine hR _ _ _ ?_; clear hR R
    iterate 13 (refine seqX_hide2 fun R hR => ?_; simp [go_sem, hcz, hco, hvz, hvo, hwz, hwo, d85, d58, d98, d89, d95, d59]; refine hR _ _ _ ?_; clear hR R)
    refine seqX_hide2 fun R hR => ?_
    simp [go_sem, hcz, hco, hvz, hvo, hwz, hwo, d85, d58, d98, d89, d95, d59]
    refine hR _ _ _ ?_; clear hR R
    iterate 4 (refine seqX_hide2 fun R hR => ?_; simp [go_sem, hcz, hco, hvz, hvo, hwz, hwo, d85, d58, d98, d89, d95, d59]; refine hR _ _ _ ?_; clear hR R)
    refine seqX_hide2 fun R hR => ?_
    simp [go_sem, hcz, hco, hvz, hvo, hwz, hwo, d85, d58, d98, d89, d95, d59]
    refine hR _ _ _ ?_; clear hR R
    iterate 2 (refine seqX_hide2 fun R hR => ?_; simp [go_sem, hcz, hco, hvz, hvo, hwz, hwo, d85, d58, d98, d89, d95, d59]; refine hR _ _ _ ?_; clear hR R)
    rw [seqX_nil]
    refine hK _ _ _ ?_; clear hK K
    refine hN3 _ _ _ ?_
    refine xc_iftrue (by simp [go_sem, hcz, hco, hvz, hvo, hwz, hwo, d85, d58, d98, d89, d95, d59]) ?_
    refine xc_two fun N4 hN4 => ?_
    refine xc_reg2 fun K hK => ?_
    simp only [rall, rsl, gres]
    (refine seqX_hide2 fun R hR => ?_; simp [go_sem, hcz, hco, hvz, hvo, hwz, hwo, d85, d58, d98, d89, d95, d59]; refine hR _ _ _ ?_; clear hR R)
    rw [seqX_nil]
    refine hK _ _ _ ?_; clear hK K
    refine hN4 _ _ _ ?_
    simp [go_sem, hcz, hco, hvz, hvo, hwz, hwo, d85, d58, d98, d89, d95, d59]
    exact View.le_trans hA1 (le_ov hP)
  | true =>
  replace hb8 := hb8 rfl
  by_cases z1c : one.size ≤ 2147483647
  rotate_left
  · have z1 : (2147483647 : Int) < one.size := by omega
    refine hR _ _ _ ?_; clear hR R
    iterate 13 (refine seqX_hide2 fun R hR => ?_; simp [go_sem, hcz, hco, hvz, hvo, hwz, hwo, d85, d58, d98, d89, d95, d59, z1]; refine hR _ _ _ ?_; clear hR R)
    refine seqX_hide2 fun R hR => ?_
    simp [go_sem, hcz, hco, hvz, hvo, hwz, hwo, d85, d58, d98, d89, d95, d59, z1]
    refine hR _ _ _ ?_; clear hR R
    iterate 4 (refine seqX_hide2 fun R hR => ?_; simp [go_sem, hcz, hco, hvz, hvo, hwz, hwo, d85, d58, d98, d89, d95, d59, z1]; refine hR _ _ _ ?_; clear hR R)
    refine seqX_hide2 fun R hR => ?_
    simp [go_sem, hcz, hco, hvz, hvo, hwz, hwo, d85, d58, d98, d89, d95, d59, z1]
    refine hR _ _ _ ?_; clear hR R
    iterate 2 (refine seqX_hide2 fun R hR => ?_; simp [go_sem, hcz, hco, hvz, hvo, hwz, hwo, d85, d58, d98, d89, d95, d59, z1]; refine hR _ _ _ ?_; clear hR R)
    rw [seqX_nil]
    refine hK _ _ _ ?_; clear hK K
    refine hN3 _ _ _ ?_
    refine xc_iftrue (by simp [go_sem, hcz, hco, hvz, hvo, hwz, hwo, d85, d58, d98, d89, d95, d59, z1]) ?_
    refine xc_two fun N4 hN4 => ?_
    refine xc_reg2 fun K hK => ?_
    simp only [rall, rsl, gres]
    (refine seqX_hide2 fun R hR => ?_; simp [go_sem, hcz, hco, hvz, hvo, hwz, hwo, d85, d58, d98, d89, d95, d59, z1]; refine hR _ _ _ ?_; clear hR R)
    rw [seqX_nil]
    refine hK _ _ _ ?_; clear hK K
    refine hN4 _ _ _ ?_
    simp [go_sem, hcz, hco, hvz, hvo, hwz, hwo, d85, d58, d98, d89, d95, d59, z1]
    exact View.le_trans hA1 (le_ov hP)
  have z1 : ¬ (2147483647 : Int) < one.size := by omega
  by_cases z2c : two.size ≤ 2147483647
  rotate_left
  · have z2 : (2147483647 : Int) < two.size := by omega
    refine hR _ _ _ ?_; clear hR R
    iterate 13 (refine seqX_hide2 fun R hR => ?_; simp [go_sem, hcz, hco, hvz, hvo, hwz, hwo, d85, d58, d98, d89, d95, d59, z1, z2]; refine hR _ _ _ ?_; clear hR R)
    refine seqX_hide2 fun R hR => ?_
    simp [go_sem, hcz, hco, hvz, hvo, hwz, hwo, d85, d58, d98, d89, d95, d59, z1, z2]
    refine hR _ _ _ ?_; clear hR R
    iterate 4 (refine seqX_hide2 fun R hR => ?_; simp [go_sem, hcz, hco, hvz, hvo, hwz, hwo, d85, d58, d98, d89, d95, d59, z1, z2]; refine hR _ _ _ ?_; clear hR R)
    refine seqX_hide2 fun R hR => ?_
    simp [go_sem, hcz, hco, hvz, hvo, hwz, hwo, d85, d58, d98, d89, d95, d59, z1, z2]
    refine hR _ _ _ ?_; clear hR R
    iterate 2 (refine seqX_hide2 fun R hR => ?_; simp [go_sem, hcz, hco, hvz, hvo, hwz, hwo, d85, d58, d98, d89, d95, d59, z1, z2]; refine hR _ _ _ ?_; clear hR R)
    rw [seqX_nil]
    refine hK _ _ _ ?_; clear hK K
    refine hN3 _ _ _ ?_
    refine xc_iftrue (by simp [go_sem, hcz, hco, hvz, hvo, hwz, hwo, d85, d58, d98, d89, d95, d59, z1, z2]) ?_
    refine xc_two fun N4 hN4 => ?_
    refine xc_reg2 fun K hK => ?_
    simp only [rall, rsl, gres]
    (refine seqX_hide2 fun R hR => ?_; simp [go_sem, hcz, hco, hvz, hvo, hwz, hwo, d85, d58, d98, d89, d95, d59, z1, z2]; refine hR _ _ _ ?_; clear hR R)
    rw [seqX_nil]
    refine hK _ _ _ ?_; clear hK K
    refine hN4 _ _ _ ?_
    simp [go_sem, hcz, hco, hvz, hvo, hwz, hwo, d85, d58, d98, d89, d95, d59, z1, z2]
    exact View.le_trans hA1 (le_ov hP)
  have z2 : ¬ (2147483647 : Int) < two.size := by omega
  refine hR _ _ _ ?_; clear hR R
  iterate 13 (refine seqX_hide2 fun R hR => ?_; simp [go_sem, hcz, hco, hvz, hvo, hwz, hwo, d85, d58, d98, d89, d95, d59, z1, z2]; refine hR _ _ _ ?_; clear hR R)
  refine seqX_hide2 fun R hR => ?_
  simp [go_sem, hcz, hco, hvz, hvo, hwz, hwo, d85, d58, d98, d89, d95, d59, z1, z2]
  refine call_ov hP (fits8 A1 v cv (hcv.le hA1)) ?_
  clear hP
  rintro _ A2 ⟨⟨b, rfl, hb8v⟩, hA2⟩ hP
  have hA := View.le_trans hA1 hA2
  cases b with
  | false =>
    refine hR _ _ _ ?_; clear hR R
    iterate 4 (refine seqX_hide2 fun R hR => ?_; simp [go_sem, hcz, hco, hvz, hvo, hwz, hwo, d85, d58, d98, d89, d95, d59, z1, z2]; refine hR _ _ _ ?_; clear hR R)
    refine seqX_hide2 fun R hR => ?_
    simp [go_sem, hcz, hco, hvz, hvo, hwz, hwo, d85, d58, d98, d89, d95, d59, z1, z2]
    refine hR _ _ _ ?_; clear hR R
    iterate 2 (refine seqX_hide2 fun R hR => ?_; simp [go_sem, hcz, hco, hvz, hvo, hwz, hwo, d85, d58, d98, d89, d95, d59, z1, z2]; refine hR _ _ _ ?_; clear hR R)
    rw [seqX_nil]
    refine hK _ _ _ ?_; clear hK K
    refine hN3 _ _ _ ?_
    refine xc_iftrue (by simp [go_sem, hcz, hco, hvz, hvo, hwz, hwo, d85, d58, d98, d89, d95, d59, z1, z2]) ?_
    refine xc_two fun N4 hN4 => ?_
    refine xc_reg2 fun K hK => ?_
    simp only [rall, rsl, gres]
    (refine seqX_hide2 fun R hR => ?_; simp [go_sem, hcz, hco, hvz, hvo, hwz, hwo, d85, d58, d98, d89, d95, d59, z1, z2]; refine hR _ _ _ ?_; clear hR R)
    rw [seqX_nil]
    refine hK _ _ _ ?_; clear hK K
    refine hN4 _ _ _ ?_
    simp [go_sem, hcz, hco, hvz, hvo, hwz, hwo, d85, d58, d98, d89, d95, d59, z1, z2]
    exact View.le_trans hA (le_ov hP)
  | true =>
  refine hR _ _ _ ?_; clear hR R
  iterate 4 (refine seqX_hide2 fun R hR => ?_; simp [go_sem, hcz, hco, hvz, hvo, hwz, hwo, d85, d58, d98, d89, d95, d59, z1, z2]; refine hR _ _ _ ?_; clear hR R)
  refine seqX_hide2 fun R hR => ?_
  simp [go_sem, hcz, hco, hvz, hvo, hwz, hwo, d85, d58, d98, d89, d95, d59, z1, z2]
  refine call_ov hP (fits8 A2 w cw (hcw.le hA)) ?_
  clear hP
  rintro _ A3 ⟨⟨b, rfl, hb8w⟩, hA3⟩ hP
  replace hA := View.le_trans hA hA3
  cases b with
  | false =>
    refine hR _ _ _ ?_; clear hR R
    iterate 2 (refine seqX_hide2 fun R hR => ?_; simp [go_sem, hcz, hco, hvz, hvo, hwz, hwo, d85, d58, d98, d89, d95, d59, z1, z2]; refine hR _ _ _ ?_; clear hR R)
    rw [seqX_nil]
    refine hK _ _ _ ?_; clear hK K
    refine hN3 _ _ _ ?_
    refine xc_iftrue (by simp [go_sem, hcz, hco, hvz, hvo, hwz, hwo, d85, d58, d98, d89, d95, d59, z1, z2]) ?_
    refine xc_two fun N4 hN4 => ?_
    refine xc_reg2 fun K hK => ?_
    simp only [rall, rsl, gres]
    (refine seqX_hide2 fun R hR => ?_; simp [go_sem, hcz, hco, hvz, hvo, hwz, hwo, d85, d58, d98, d89, d95, d59, z1, z2]; refine hR _ _ _ ?_; clear hR R)
    rw [seqX_nil]
    refine hK _ _ _ ?_; clear hK K
    refine hN4 _ _ _ ?_
    simp [go_sem, hcz, hco, hvz, hvo, hwz, hwo, d85, d58, d98, d89, d95, d59, z1, z2]
    exact View.le_trans hA (le_ov hP)
  | true =>
  refine hR _ _ _ ?_; clear hR R
  iterate 2 (refine seqX_hide2 fun R hR => ?_; simp [go_sem, hcz, hco, hvz, hvo, hwz, hwo, d85, d58, d98, d89, d95, d59, z1, z2]; refine hR _ _ _ ?_; clear hR R)
  rw [seqX_nil]
  refine hK _ _ _ ?_; clear hK K
  refine hN3 _ _ _ ?_
  refine xc_iffalse (by simp [go_sem, hcz, hco, hvz, hvo, hwz, hwo, d85, d58, d98, d89, d95, d59, z1, z2]) ?_
  refine hN2 _ _ _ ?_
  refine xc_two fun N4 hN4 => ?_
  refine xc_two fun N5 hN5 => ?_
  refine xc_reg2 fun K hK => ?_
  simp only [rall, rsl, gres]
  (refine seqX_hide2 fun R hR => ?_; simp [go_sem, hcz, hco, hvz, hvo, hwz, hwo, d85, d58, d98, d89, d95, d59, z1, z2]; refine hR _ _ _ ?_; clear hR R)
  refine seqX_hide2 fun R hR => ?_
  simp [go_sem, hcz, hco, hvz, hvo, hwz, hwo, d85, d58, d98, d89, d95, d59, z1, z2]
  refine call_ov hP (tfIs13 A3 t c 4 (hc.le hA) hsb) ?_
  clear hP
  rintro _ A4 ⟨⟨b, rfl, hbt⟩, hA4⟩ hP
  replace hA := View.le_trans hA hA4
  cases b with
  | false =>
    refine hR _ _ _ ?_; clear hR R
    iterate 9 (refine seqX_hide2 fun R hR => ?_; simp [go_sem, hcz, hco, hvz, hvo, hwz, hwo, d85, d58, d98, d89, d95, d59, z1, z2]; refine hR _ _ _ ?_; clear hR R)
    refine seqX_hide2 fun R hR => ?_
    simp [go_sem, hcz, hco, hvz, hvo, hwz, hwo, d85, d58, d98, d89, d95, d59, z1, z2]
    refine hR _ _ _ ?_; clear hR R
    iterate 5 (refine seqX_hide2 fun R hR => ?_; simp [go_sem, hcz, hco, hvz, hvo, hwz, hwo, d85, d58, d98, d89, d95, d59, z1, z2]; refine hR _ _ _ ?_; clear hR R)
    refine seqX_hide2 fun R hR => ?_
    simp [go_sem, hcz, hco, hvz, hvo, hwz, hwo, d85, d58, d98, d89, d95, d59, z1, z2]
    refine hR _ _ _ ?_; clear hR R
    iterate 4 (refine seqX_hide2 fun R hR => ?_; simp [go_sem, hcz, hco, hvz, hvo, hwz, hwo, d85, d58, d98, d89, d95, d59, z1, z2]; refine hR _ _ _ ?_; clear hR R)
    refine seqX_hide2 fun R hR => ?_
    simp [go_sem, hcz, hco, hvz, hvo, hwz, hwo, d85, d58, d98, d89, d95, d59, z1, z2]
    refine hR _ _ _ ?_; clear hR R
    iterate 4 (refine seqX_hide2 fun R hR => ?_; simp [go_sem, hcz, hco, hvz, hvo, hwz, hwo, d85, d58, d98, d89, d95, d59, z1, z2]; refine hR _ _ _ ?_; clear hR R)
    refine seqX_hide2 fun R hR => ?_
    simp [go_sem, hcz, hco, hvz, hvo, hwz, hwo, d85, d58, d98, d89, d95, d59, z1, z2]
    refine hR _ _ _ ?_; clear hR R
    iterate 4 (refine seqX_hide2 fun R hR => ?_; simp [go_sem, hcz, hco, hvz, hvo, hwz, hwo, d85, d58, d98, d89, d95, d59, z1, z2]; refine hR _ _ _ ?_; clear hR R)
    refine seqX_hide2 fun R hR => ?_
    simp [go_sem, hcz, hco, hvz, hvo, hwz, hwo, d85, d58, d98, d89, d95, d59, z1, z2]
    refine hR _ _ _ ?_; clear hR R
    iterate 3 (refine seqX_hide2 fun R hR => ?_; simp [go_sem, hcz, hco, hvz, hvo, hwz, hwo, d85, d58, d98, d89, d95, d59, z1, z2]; refine hR _ _ _ ?_; clear hR R)
    refine seqX_hide2 fun R hR => ?_
    simp [go_sem, hcz, hco, hvz, hvo, hwz, hwo, d85, d58, d98, d89, d95, d59, z1, z2]
    refine hR _ _ _ ?_; clear hR R
    (refine seqX_hide2 fun R hR => ?_; simp [go_sem, hcz, hco, hvz, hvo, hwz, hwo, d85, d58, d98, d89, d95, d59, z1, z2]; refine hR _ _ _ ?_; clear hR R)
    rw [seqX_nil]
    refine hK _ _ _ ?_; clear hK K
    refine hN5 _ _ _ ?_
    refine xc_iftrue (by simp [go_sem, hcz, hco, hvz, hvo, hwz, hwo, d85, d58, d98, d89, d95, d59, z1, z2]) ?_
    refine xc_two fun N6 hN6 => ?_
    refine xc_reg2 fun K hK => ?_
    simp only [rall, rsl, gres]
    (refine seqX_hide2 fun R hR => ?_; simp [go_sem, hcz, hco, hvz, hvo, hwz, hwo, d85, d58, d98, d89, d95, d59, z1, z2]; refine hR _ _ _ ?_; clear hR R)
    rw [seqX_nil]
    refine hK _ _ _ ?_; clear hK K
    refine hN6 _ _ _ ?_
    simp [go_sem, hcz, hco, hvz, hvo, hwz, hwo, d85, d58, d98, d89, d95, d59, z1, z2]
    exact View.le_trans hA (le_ov hP)
  | true =>
  obtain ⟨hk, hpl, hnd⟩ := hbt rfl
  by_cases hne : one = two
  · skip
    refine hR _ _ _ ?_; clear hR R
    iterate 9 (refine seqX_hide2 fun R hR => ?_; simp [go_sem, hcz, hco, hvz, hvo, hwz, hwo, d85, d58, d98, d89, d95, d59, z1, z2, hne]; refine hR _ _ _ ?_; clear hR R)
    refine seqX_hide2 fun R hR => ?_
    simp [go_sem, hcz, hco, hvz, hvo, hwz, hwo, d85, d58, d98, d89, d95, d59, z1, z2, hne]
    refine hR _ _ _ ?_; clear hR R
    iterate 5 (refine seqX_hide2 fun R hR => ?_; simp [go_sem, hcz, hco, hvz, hvo, hwz, hwo, d85, d58, d98, d89, d95, d59, z1, z2, hne]; refine hR _ _ _ ?_; clear hR R)
    refine seqX_hide2 fun R hR => ?_
    simp [go_sem, hcz, hco, hvz, hvo, hwz, hwo, d85, d58, d98, d89, d95, d59, z1, z2, hne]
    refine hR _ _ _ ?_; clear hR R
    iterate 4 (refine seqX_hide2 fun R hR => ?_; simp [go_sem, hcz, hco, hvz, hvo, hwz, hwo, d85, d58, d98, d89, d95, d59, z1, z2, hne]; refine hR _ _ _ ?_; clear hR R)
    refine seqX_hide2 fun R hR => ?_
    simp [go_sem, hcz, hco, hvz, hvo, hwz, hwo, d85, d58, d98, d89, d95, d59, z1, z2, hne]
    refine hR _ _ _ ?_; clear hR R
    iterate 4 (refine seqX_hide2 fun R hR => ?_; simp [go_sem, hcz, hco, hvz, hvo, hwz, hwo, d85, d58, d98, d89, d95, d59, z1, z2, hne]; refine hR _ _ _ ?_; clear hR R)
    refine seqX_hide2 fun R hR => ?_
    simp [go_sem, hcz, hco, hvz, hvo, hwz, hwo, d85, d58, d98, d89, d95, d59, z1, z2, hne]
    refine hR _ _ _ ?_; clear hR R
    iterate 4 (refine seqX_hide2 fun R hR => ?_; simp [go_sem, hcz, hco, hvz, hvo, hwz, hwo, d85, d58, d98, d89, d95, d59, z1, z2, hne]; refine hR _ _ _ ?_; clear hR R)
    refine seqX_hide2 fun R hR => ?_
    simp [go_sem, hcz, hco, hvz, hvo, hwz, hwo, d85, d58, d98, d89, d95, d59, z1, z2, hne]
    refine hR _ _ _ ?_; clear hR R
    iterate 3 (refine seqX_hide2 fun R hR => ?_; simp [go_sem, hcz, hco, hvz, hvo, hwz, hwo, d85, d58, d98, d89, d95, d59, z1, z2, hne]; refine hR _ _ _ ?_; clear hR R)
    refine seqX_hide2 fun R hR => ?_
    simp [go_sem, hcz, hco, hvz, hvo, hwz, hwo, d85, d58, d98, d89, d95, d59, z1, z2, hne]
    refine hR _ _ _ ?_; clear hR R
    (refine seqX_hide2 fun R hR => ?_; simp [go_sem, hcz, hco, hvz, hvo, hwz, hwo, d85, d58, d98, d89, d95, d59, z1, z2, hne]; refine hR _ _ _ ?_; clear hR R)
    rw [seqX_nil]
    refine hK _ _ _ ?_; clear hK K
    refine hN5 _ _ _ ?_
    refine xc_iftrue (by simp [go_sem, hcz, hco, hvz, hvo, hwz, hwo, d85, d58, d98, d89, d95, d59, z1, z2, hne]) ?_
    refine xc_two fun N6 hN6 => ?_
    refine xc_reg2 fun K hK => ?_
    simp only [rall, rsl, gres]
    (refine seqX_hide2 fun R hR => ?_; simp [go_sem, hcz, hco, hvz, hvo, hwz, hwo, d85, d58, d98, d89, d95, d59, z1, z2, hne]; refine hR _ _ _ ?_; clear hR R)
    rw [seqX_nil]
    refine hK _ _ _ ?_; clear hK K
    refine hN6 _ _ _ ?_
    simp [go_sem, hcz, hco, hvz, hvo, hwz, hwo, d85, d58, d98, d89, d95, d59, z1, z2, hne]
    exact View.le_trans hA (le_ov hP)
  have hne2 := bytes_ne hne
  have hne3 : (one.toList == two.toList) = false := beq_eq_false_iff_ne.2 hne2
  refine hR _ _ _ ?_; clear hR R
  iterate 9 (refine seqX_hide2 fun R hR => ?_; simp [go_sem, hcz, hco, hvz, hvo, hwz, hwo, d85, d58, d98, d89, d95, d59, z1, z2, hne, hne2, hne3]; refine hR _ _ _ ?_; clear hR R)
  refine seqX_hide2 fun R hR => ?_
  simp [go_sem, hcz, hco, hvz, hvo, hwz, hwo, d85, d58, d98, d89, d95, d59, z1, z2, hne, hne2, hne3]
  have hkl : t.kids.length ≤ 1000000 := by have := nds_kl9 t; omega
  have hev := hpl.ev2 hk
  refine call_ov hP (place14 A4 t c one (hc.le hA) hk hkl) ?_
  clear hP
  rintro r A5 ⟨hr, hA5⟩ hP
  replace hA := View.le_trans hA hA5
  rcases hr with ⟨-, -, rfl⟩ | ⟨i0, hi0, hpc0, hfl0, rfl⟩
  · have y0 : (-1 : Int) < 0 := by decide
    refine hR _ _ _ ?_; clear hR R
    iterate 5 (refine seqX_hide2 fun R hR => ?_; simp [go_sem, hcz, hco, hvz, hvo, hwz, hwo, d85, d58, d98, d89, d95, d59, z1, z2, hne, hne2, hne3, y0]; refine hR _ _ _ ?_; clear hR R)
    refine seqX_hide2 fun R hR => ?_
    simp [go_sem, hcz, hco, hvz, hvo, hwz, hwo, d85, d58, d98, d89, d95, d59, z1, z2, hne, hne2, hne3, y0]
    refine hR _ _ _ ?_; clear hR R
    iterate 4 (refine seqX_hide2 fun R hR => ?_; simp [go_sem, hcz, hco, hvz, hvo, hwz, hwo, d85, d58, d98, d89, d95, d59, z1, z2, hne, hne2, hne3, y0]; refine hR _ _ _ ?_; clear hR R)
    refine seqX_hide2 fun R hR => ?_
    simp [go_sem, hcz, hco, hvz, hvo, hwz, hwo, d85, d58, d98, d89, d95, d59, z1, z2, hne, hne2, hne3, y0]
    refine hR _ _ _ ?_; clear hR R
    iterate 4 (refine seqX_hide2 fun R hR => ?_; simp [go_sem, hcz, hco, hvz, hvo, hwz, hwo, d85, d58, d98, d89, d95, d59, z1, z2, hne, hne2, hne3, y0]; refine hR _ _ _ ?_; clear hR R)
    refine seqX_hide2 fun R hR => ?_
    simp [go_sem, hcz, hco, hvz, hvo, hwz, hwo, d85, d58, d98, d89, d95, d59, z1, z2, hne, hne2, hne3, y0]
    refine hR _ _ _ ?_; clear hR R
    iterate 4 (refine seqX_hide2 fun R hR => ?_; simp [go_sem, hcz, hco, hvz, hvo, hwz, hwo, d85, d58, d98, d89, d95, d59, z1, z2, hne, hne2, hne3, y0]; refine hR _ _ _ ?_; clear hR R)
    refine seqX_hide2 fun R hR => ?_
    simp [go_sem, hcz, hco, hvz, hvo, hwz, hwo, d85, d58, d98, d89, d95, d59, z1, z2, hne, hne2, hne3, y0]
    refine hR _ _ _ ?_; clear hR R
    iterate 3 (refine seqX_hide2 fun R hR => ?_; simp [go_sem, hcz, hco, hvz, hvo, hwz, hwo, d85, d58, d98, d89, d95, d59, z1, z2, hne, hne2, hne3, y0]; refine hR _ _ _ ?_; clear hR R)
    refine seqX_hide2 fun R hR => ?_
    simp [go_sem, hcz, hco, hvz, hvo, hwz, hwo, d85, d58, d98, d89, d95, d59, z1, z2, hne, hne2, hne3, y0]
    refine hR _ _ _ ?_; clear hR R
    (refine seqX_hide2 fun R hR => ?_; simp [go_sem, hcz, hco, hvz, hvo, hwz, hwo, d85, d58, d98, d89, d95, d59, z1, z2, hne, hne2, hne3, y0]; refine hR _ _ _ ?_; clear hR R)
    rw [seqX_nil]
    refine hK _ _ _ ?_; clear hK K
    refine hN5 _ _ _ ?_
    refine xc_iftrue (by simp [go_sem, hcz, hco, hvz, hvo, hwz, hwo, d85, d58, d98, d89, d95, d59, z1, z2, hne, hne2, hne3, y0]) ?_
    refine xc_two fun N6 hN6 => ?_
    refine xc_reg2 fun K hK => ?_
    simp only [rall, rsl, gres]
    (refine seqX_hide2 fun R hR => ?_; simp [go_sem, hcz, hco, hvz, hvo, hwz, hwo, d85, d58, d98, d89, d95, d59, z1, z2, hne, hne2, hne3, y0]; refine hR _ _ _ ?_; clear hR R)
    rw [seqX_nil]
    refine hK _ _ _ ?_; clear hK K
    refine hN6 _ _ _ ?_
    simp [go_sem, hcz, hco, hvz, hvo, hwz, hwo, d85, d58, d98, d89, d95, d59, z1, z2, hne, hne2, hne3, y0]
    exact View.le_trans hA (le_ov hP)
  have x0 : ¬ (i0 : Int) < 0 := by omega
  refine hR _ _ _ ?_; clear hR R
  iterate 5 (refine seqX_hide2 fun R hR => ?_; simp [go_sem, hcz, hco, hvz, hvo, hwz, hwo, d85, d58, d98, d89, d95, d59, z1, z2, hne, hne2, hne3, x0]; refine hR _ _ _ ?_; clear hR R)
  refine seqX_hide2 fun R hR => ?_
  simp [go_sem, hcz, hco, hvz, hvo, hwz, hwo, d85, d58, d98, d89, d95, d59, z1, z2, hne, hne2, hne3, x0]
  refine call_ov hP (place14 A5 t c two (hc.le hA) hk hkl) ?_
  clear hP
  rintro r A6 ⟨hr, hA6⟩ hP
  replace hA := View.le_trans hA hA6
  rcases hr with ⟨-, -, rfl⟩ | ⟨i1, hi1, hpc1, hfl1, rfl⟩
  · have y1 : (-1 : Int) < 0 := by decide
    refine hR _ _ _ ?_; clear hR R
    iterate 4 (refine seqX_hide2 fun R hR => ?_; simp [go_sem, hcz, hco, hvz, hvo, hwz, hwo, d85, d58, d98, d89, d95, d59, z1, z2, hne, hne2, hne3, x0, y1]; refine hR _ _ _ ?_; clear hR R)
    refine seqX_hide2 fun R hR => ?_
    simp [go_sem, hcz, hco, hvz, hvo, hwz, hwo, d85, d58, d98, d89, d95, d59, z1, z2, hne, hne2, hne3, x0, y1]
    refine hR _ _ _ ?_; clear hR R
    iterate 4 (refine seqX_hide2 fun R hR => ?_; simp [go_sem, hcz, hco, hvz, hvo, hwz, hwo, d85, d58, d98, d89, d95, d59, z1, z2, hne, hne2, hne3, x0, y1]; refine hR _ _ _ ?_; clear hR R)
    refine seqX_hide2 fun R hR => ?_
    simp [go_sem, hcz, hco, hvz, hvo, hwz, hwo, d85, d58, d98, d89, d95, d59, z1, z2, hne, hne2, hne3, x0, y1]
    refine hR _ _ _ ?_; clear hR R
    iterate 4 (refine seqX_hide2 fun R hR => ?_; simp [go_sem, hcz, hco, hvz, hvo, hwz, hwo, d85, d58, d98, d89, d95, d59, z1, z2, hne, hne2, hne3, x0, y1]; refine hR _ _ _ ?_; clear hR R)
    refine seqX_hide2 fun R hR => ?_
    simp [go_sem, hcz, hco, hvz, hvo, hwz, hwo, d85, d58, d98, d89, d95, d59, z1, z2, hne, hne2, hne3, x0, y1]
    refine hR _ _ _ ?_; clear hR R
    iterate 3 (refine seqX_hide2 fun R hR => ?_; simp [go_sem, hcz, hco, hvz, hvo, hwz, hwo, d85, d58, d98, d89, d95, d59, z1, z2, hne, hne2, hne3, x0, y1]; refine hR _ _ _ ?_; clear hR R)
    refine seqX_hide2 fun R hR => ?_
    simp [go_sem, hcz, hco, hvz, hvo, hwz, hwo, d85, d58, d98, d89, d95, d59, z1, z2, hne, hne2, hne3, x0, y1]
    refine hR _ _ _ ?_; clear hR R
    (refine seqX_hide2 fun R hR => ?_; simp [go_sem, hcz, hco, hvz, hvo, hwz, hwo, d85, d58, d98, d89, d95, d59, z1, z2, hne, hne2, hne3, x0, y1]; refine hR _ _ _ ?_; clear hR R)
    rw [seqX_nil]
    refine hK _ _ _ ?_; clear hK K
    refine hN5 _ _ _ ?_
    refine xc_iftrue (by simp [go_sem, hcz, hco, hvz, hvo, hwz, hwo, d85, d58, d98, d89, d95, d59, z1, z2, hne, hne2, hne3, x0, y1]) ?_
    refine xc_two fun N6 hN6 => ?_
    refine xc_reg2 fun K hK => ?_
    simp only [rall, rsl, gres]
    (refine seqX_hide2 fun R hR => ?_; simp [go_sem, hcz, hco, hvz, hvo, hwz, hwo, d85, d58, d98, d89, d95, d59, z1, z2, hne, hne2, hne3, x0, y1]; refine hR _ _ _ ?_; clear hR R)
    rw [seqX_nil]
    refine hK _ _ _ ?_; clear hK K
    refine hN6 _ _ _ ?_
    simp [go_sem, hcz, hco, hvz, hvo, hwz, hwo, d85, d58, d98, d89, d95, d59, z1, z2, hne, hne2, hne3, x0, y1]
    exact View.le_trans hA (le_ov hP)
  have x1 : ¬ (i1 : Int) < 0 := by omega
  refine hR _ _ _ ?_; clear hR R
  iterate 4 (refine seqX_hide2 fun R hR => ?_; simp [go_sem, hcz, hco, hvz, hvo, hwz, hwo, d85, d58, d98, d89, d95, d59, z1, z2, hne, hne2, hne3, x0, x1]; refine hR _ _ _ ?_; clear hR R)
  refine seqX_hide2 fun R hR => ?_
  simp [go_sem, hcz, hco, hvz, hvo, hwz, hwo, d85, d58, d98, d89, d95, d59, z1, z2, hne, hne2, hne3, x0, x1]
  refine call_ov hP (plainTree12 A6 v cv 50 (hcv.le hA) hsv (by omega)) ?_
  clear hP
  rintro _ A7 ⟨⟨b, rfl, hbv⟩, hA7⟩ hP
  replace hA := View.le_trans hA hA7
  cases b with
  | false =>
    refine hR _ _ _ ?_; clear hR R
    iterate 4 (refine seqX_hide2 fun R hR => ?_; simp [go_sem, hcz, hco, hvz, hvo, hwz, hwo, d85, d58, d98, d89, d95, d59, z1, z2, hne, hne2, hne3, x0, x1]; refine hR _ _ _ ?_; clear hR R)
    refine seqX_hide2 fun R hR => ?_
    simp [go_sem, hcz, hco, hvz, hvo, hwz, hwo, d85, d58, d98, d89, d95, d59, z1, z2, hne, hne2, hne3, x0, x1]
    refine hR _ _ _ ?_; clear hR R
    iterate 4 (refine seqX_hide2 fun R hR => ?_; simp [go_sem, hcz, hco, hvz, hvo, hwz, hwo, d85, d58, d98, d89, d95, d59, z1, z2, hne, hne2, hne3, x0, x1]; refine hR _ _ _ ?_; clear hR R)
    refine seqX_hide2 fun R hR => ?_
    simp [go_sem, hcz, hco, hvz, hvo, hwz, hwo, d85, d58, d98, d89, d95, d59, z1, z2, hne, hne2, hne3, x0, x1]
    refine hR _ _ _ ?_; clear hR R
    iterate 3 (refine seqX_hide2 fun R hR => ?_; simp [go_sem, hcz, hco, hvz, hvo, hwz, hwo, d85, d58, d98, d89, d95, d59, z1, z2, hne, hne2, hne3, x0, x1]; refine hR _ _ _ ?_; clear hR R)
    refine seqX_hide2 fun R hR => ?_
    simp [go_sem, hcz, hco, hvz, hvo, hwz, hwo, d85, d58, d98, d89, d95, d59, z1, z2, hne, hne2, hne3, x0, x1]
    refine hR _ _ _ ?_; clear hR R
    (refine seqX_hide2 fun R hR => ?_; simp [go_sem, hcz, hco, hvz, hvo, hwz, hwo, d85, d58, d98, d89, d95, d59, z1, z2, hne, hne2, hne3, x0, x1]; refine hR _ _ _ ?_; clear hR R)
    rw [seqX_nil]
    refine hK _ _ _ ?_; clear hK K
    refine hN5 _ _ _ ?_
    refine xc_iftrue (by simp [go_sem, hcz, hco, hvz, hvo, hwz, hwo, d85, d58, d98, d89, d95, d59, z1, z2, hne, hne2, hne3, x0, x1]) ?_
    refine xc_two fun N6 hN6 => ?_
    refine xc_reg2 fun K hK => ?_
    simp only [rall, rsl, gres]
    (refine seqX_hide2 fun R hR => ?_; simp [go_sem, hcz, hco, hvz, hvo, hwz, hwo, d85, d58, d98, d89, d95, d59, z1, z2, hne, hne2, hne3, x0, x1]; refine hR _ _ _ ?_; clear hR R)
    rw [seqX_nil]
    refine hK _ _ _ ?_; clear hK K
    refine hN6 _ _ _ ?_
    simp [go_sem, hcz, hco, hvz, hvo, hwz, hwo, d85, d58, d98, d89, d95, d59, z1, z2, hne, hne2, hne3, x0, x1]
    exact View.le_trans hA (le_ov hP)
  | true =>
  obtain ⟨hpv, hnv⟩ := hbv rfl
  refine hR _ _ _ ?_; clear hR R
  iterate 4 (refine seqX_hide2 fun R hR => ?_; simp [go_sem, hcz, hco, hvz, hvo, hwz, hwo, d85, d58, d98, d89, d95, d59, z1, z2, hne, hne2, hne3, x0, x1]; refine hR _ _ _ ?_; clear hR R)
  refine seqX_hide2 fun R hR => ?_
  simp [go_sem, hcz, hco, hvz, hvo, hwz, hwo, d85, d58, d98, d89, d95, d59, z1, z2, hne, hne2, hne3, x0, x1]
  refine call_ov hP (plainTree12 A7 w cw 50 (hcw.le hA) hsw (by omega)) ?_
  clear hP
  rintro _ A8 ⟨⟨b, rfl, hbw⟩, hA8⟩ hP
  replace hA := View.le_trans hA hA8
  cases b with
  | false =>
    refine hR _ _ _ ?_; clear hR R
    iterate 4 (refine seqX_hide2 fun R hR => ?_; simp [go_sem, hcz, hco, hvz, hvo, hwz, hwo, d85, d58, d98, d89, d95, d59, z1, z2, hne, hne2, hne3, x0, x1]; refine hR _ _ _ ?_; clear hR R)
    refine seqX_hide2 fun R hR => ?_
    simp [go_sem, hcz, hco, hvz, hvo, hwz, hwo, d85, d58, d98, d89, d95, d59, z1, z2, hne, hne2, hne3, x0, x1]
    refine hR _ _ _ ?_; clear hR R
    iterate 3 (refine seqX_hide2 fun R hR => ?_; simp [go_sem, hcz, hco, hvz, hvo, hwz, hwo, d85, d58, d98, d89, d95, d59, z1, z2, hne, hne2, hne3, x0, x1]; refine hR _ _ _ ?_; clear hR R)
    refine seqX_hide2 fun R hR => ?_
    simp [go_sem, hcz, hco, hvz, hvo, hwz, hwo, d85, d58, d98, d89, d95, d59, z1, z2, hne, hne2, hne3, x0, x1]
    refine hR _ _ _ ?_; clear hR R
    (refine seqX_hide2 fun R hR => ?_; simp [go_sem, hcz, hco, hvz, hvo, hwz, hwo, d85, d58, d98, d89, d95, d59, z1, z2, hne, hne2, hne3, x0, x1]; refine hR _ _ _ ?_; clear hR R)
    rw [seqX_nil]
    refine hK _ _ _ ?_; clear hK K
    refine hN5 _ _ _ ?_
    refine xc_iftrue (by simp [go_sem, hcz, hco, hvz, hvo, hwz, hwo, d85, d58, d98, d89, d95, d59, z1, z2, hne, hne2, hne3, x0, x1]) ?_
    refine xc_two fun N6 hN6 => ?_
    refine xc_reg2 fun K hK => ?_
    simp only [rall, rsl, gres]
    (refine seqX_hide2 fun R hR => ?_; simp [go_sem, hcz, hco, hvz, hvo, hwz, hwo, d85, d58, d98, d89, d95, d59, z1, z2, hne, hne2, hne3, x0, x1]; refine hR _ _ _ ?_; clear hR R)
    rw [seqX_nil]
    refine hK _ _ _ ?_; clear hK K
    refine hN6 _ _ _ ?_
    simp [go_sem, hcz, hco, hvz, hvo, hwz, hwo, d85, d58, d98, d89, d95, d59, z1, z2, hne, hne2, hne3, x0, x1]
    exact View.le_trans hA (le_ov hP)
  | true =>
  obtain ⟨hpw, hnw⟩ := hbw rfl
  refine hR _ _ _ ?_; clear hR R
  iterate 4 (refine seqX_hide2 fun R hR => ?_; simp [go_sem, hcz, hco, hvz, hvo, hwz, hwo, d85, d58, d98, d89, d95, d59, z1, z2, hne, hne2, hne3, x0, x1]; refine hR _ _ _ ?_; clear hR R)
  refine seqX_hide2 fun R hR => ?_
  simp [go_sem, hcz, hco, hvz, hvo, hwz, hwo, d85, d58, d98, d89, d95, d59, z1, z2, hne, hne2, hne3, x0, x1]
  refine call_ov hP (isNull16 A8 v cv (hcv.le hA)) ?_
  clear hP
  rintro _ A9 ⟨⟨b, rfl, huv⟩, hA9⟩ hP
  replace hA := View.le_trans hA hA9
  cases b with
  | true =>
    refine hR _ _ _ ?_; clear hR R
    iterate 3 (refine seqX_hide2 fun R hR => ?_; simp [go_sem, hcz, hco, hvz, hvo, hwz, hwo, d85, d58, d98, d89, d95, d59, z1, z2, hne, hne2, hne3, x0, x1]; refine hR _ _ _ ?_; clear hR R)
    refine seqX_hide2 fun R hR => ?_
    simp [go_sem, hcz, hco, hvz, hvo, hwz, hwo, d85, d58, d98, d89, d95, d59, z1, z2, hne, hne2, hne3, x0, x1]
    refine hR _ _ _ ?_; clear hR R
    (refine seqX_hide2 fun R hR => ?_; simp [go_sem, hcz, hco, hvz, hvo, hwz, hwo, d85, d58, d98, d89, d95, d59, z1, z2, hne, hne2, hne3, x0, x1]; refine hR _ _ _ ?_; clear hR R)
    rw [seqX_nil]
    refine hK _ _ _ ?_; clear hK K
    refine hN5 _ _ _ ?_
    refine xc_iftrue (by simp [go_sem, hcz, hco, hvz, hvo, hwz, hwo, d85, d58, d98, d89, d95, d59, z1, z2, hne, hne2, hne3, x0, x1]) ?_
    refine xc_two fun N6 hN6 => ?_
    refine xc_reg2 fun K hK => ?_
    simp only [rall, rsl, gres]
    (refine seqX_hide2 fun R hR => ?_; simp [go_sem, hcz, hco, hvz, hvo, hwz, hwo, d85, d58, d98, d89, d95, d59, z1, z2, hne, hne2, hne3, x0, x1]; refine hR _ _ _ ?_; clear hR R)
    rw [seqX_nil]
    refine hK _ _ _ ?_; clear hK K
    refine hN6 _ _ _ ?_
    simp [go_sem, hcz, hco, hvz, hvo, hwz, hwo, d85, d58, d98, d89, d95, d59, z1, z2, hne, hne2, hne3, x0, x1]
    exact View.le_trans hA (le_ov hP)
  | false =>
  have h0v := hpv.nn1 (huv rfl)
  have h1v := hpv.val
  refine hR _ _ _ ?_; clear hR R
  iterate 3 (refine seqX_hide2 fun R hR => ?_; simp [go_sem, hcz, hco, hvz, hvo, hwz, hwo, d85, d58, d98, d89, d95, d59, z1, z2, hne, hne2, hne3, x0, x1]; refine hR _ _ _ ?_; clear hR R)
  refine seqX_hide2 fun R hR => ?_
  simp [go_sem, hcz, hco, hvz, hvo, hwz, hwo, d85, d58, d98, d89, d95, d59, z1, z2, hne, hne2, hne3, x0, x1]
  refine call_ov hP (isNull16 A9 w cw (hcw.le hA)) ?_
  clear hP
  rintro _ A10 ⟨⟨b, rfl, huw⟩, hA10⟩ hP
  replace hA := View.le_trans hA hA10
  cases b with
  | true =>
    refine hR _ _ _ ?_; clear hR R
    (refine seqX_hide2 fun R hR => ?_; simp [go_sem, hcz, hco, hvz, hvo, hwz, hwo, d85, d58, d98, d89, d95, d59, z1, z2, hne, hne2, hne3, x0, x1]; refine hR _ _ _ ?_; clear hR R)
    rw [seqX_nil]
    refine hK _ _ _ ?_; clear hK K
    refine hN5 _ _ _ ?_
    refine xc_iftrue (by simp [go_sem, hcz, hco, hvz, hvo, hwz, hwo, d85, d58, d98, d89, d95, d59, z1, z2, hne, hne2, hne3, x0, x1]) ?_
    refine xc_two fun N6 hN6 => ?_
    refine xc_reg2 fun K hK => ?_
    simp only [rall, rsl, gres]
    (refine seqX_hide2 fun R hR => ?_; simp [go_sem, hcz, hco, hvz, hvo, hwz, hwo, d85, d58, d98, d89, d95, d59, z1, z2, hne, hne2, hne3, x0, x1]; refine hR _ _ _ ?_; clear hR R)
    rw [seqX_nil]
    refine hK _ _ _ ?_; clear hK K
    refine hN6 _ _ _ ?_
    simp [go_sem, hcz, hco, hvz, hvo, hwz, hwo, d85, d58, d98, d89, d95, d59, z1, z2, hne, hne2, hne3, x0, x1]
    exact View.le_trans hA (le_ov hP)
  | false =>
  have h0w := hpw.nn1 (huw rfl)
  have h1w := hpw.val
  refine hR _ _ _ ?_; clear hR R
  (refine seqX_hide2 fun R hR => ?_; simp [go_sem, hcz, hco, hvz, hvo, hwz, hwo, d85, d58, d98, d89, d95, d59, z1, z2, hne, hne2, hne3, x0, x1]; refine hR _ _ _ ?_; clear hR R)
  rw [seqX_nil]
  refine hK _ _ _ ?_; clear hK K
  refine hN5 _ _ _ ?_
  refine xc_iffalse (by simp [go_sem, hcz, hco, hvz, hvo, hwz, hwo, d85, d58, d98, d89, d95, d59, z1, z2, hne, hne2, hne3, x0, x1]) ?_
  refine hN4 _ _ _ ?_
  refine xc_two fun N6 hN6 => ?_
  obtain ⟨j1, hj1⟩ := fldI_of hfl0
  obtain ⟨j2, hj2⟩ := fldI_of hfl1
  obtain ⟨o1, l1, -, u1⟩ := fldI_some hj1
  obtain ⟨o2, l2, -, u2⟩ := fldI_some hj2
  have hn1 : one ≠ e0 := by rw [← u1]; exact wd_ne (hpl.key hk (by omega) (by omega))
  have hn2 : two ≠ e0 := by rw [← u2]; exact wd_ne (hpl.key hk (by omega) (by omega))
  have hjj : j1 ≠ j2 := fun e => by
    subst e
    exact hne (u1.symm.trans u2)
  have hkk : ∀ y ∈ t.kids, y.kind ≠ 1 := fun y hy => by
    rcases (hpl.kid3 hy).kinds with ⟨g, -⟩ | ⟨g, -⟩ | ⟨g, -⟩ <;> omega
  have hpt : PT 13 t := hpl.pt.mono (by omega)
  have hptv : PT 12 v := hpv.pt
  have hptw : PT 12 w := hpw.pt
  have hset : ∀ (T x : Tr) (j : Nat), (∀ y ∈ T.kids, y.kind ≠ 1) → x.kind ≠ 1 → ∀ y ∈ (T.setKid j x).kids, y.kind ≠ 1 := fun T x j h1 h2 y hy => by
    rw [T.setKid_kids] at hy
    rcases List.mem_or_eq_of_mem_set hy with h | h
    · exact h1 y h
    · rw [h]; exact h2
  have htag : t.tag ≠ tNull := by rw [hev.1]; decide
  have nd1 := nds_setKid t j1 v
  have nd2 := nds_setKid (t.setKid j1 v) j2 w
  have nd3 := nds_setKid t j2 w
  have nd4 := nds_setKid (t.setKid j2 w) j1 v
  rw [xc_draws]
  refine vdrawK [(0, true), (1, true), (2, true), (3, true), (4, false), (5, true), (6, true), (7, true), (8, true), (9, true), (10, false), (11, true), (12, true)] (ov A10 [(q9, .cells cw 24 (0, 0)), (q8, .cells cv 24 (0, 0)), (q5, .cells c 24 (0, 0))]) mixed (by kernel_rfl) (View.le_refl _) fun K hK => ?_
  simp only [rsl, gres]
  iterate 3 (refine seqR_hide fun R hR => ?_; simp [go_sem, hcz, hco, hvz, hvo, hwz, hwo, d85, d58, d98, d89, d95, d59, z1, z2, hne, hne2, hne3, x0, x1]; refine hR _ _ _ ?_; clear hR R)
  refine seqR_hide fun R hR => ?_
  simp [go_sem, hcz, hco, hvz, hvo, hwz, hwo, d85, d58, d98, d89, d95, d59, z1, z2, hne, hne2, hne3, x0, x1]
  refine call_ov hP (one11 A10 v cv (hcv.le hA)) ?_
  clear hP
  rintro la A11 ⟨hla, hA11⟩ hP
  obtain ⟨bla, kla, rfl⟩ := hla.slice
  replace hA := View.le_trans hA hA11
  refine ⟨ov_mono hA11, hR _ _ _ ?_⟩; clear hR R
  refine seqR_hide fun R hR => ?_
  simp [go_sem, hcz, hco, hvz, hvo, hwz, hwo, d85, d58, d98, d89, d95, d59, z1, z2, hne, hne2, hne3, x0, x1]
  refine call_ov hP (setFieldP A11 t v 13 c one _ j1 (hc.le hA) hla hpt (by omega) (by omega) hptv (by omega) hk htag hev.2.1 hkk hn1 h0v.1 h0v.2 h1v.1 (fun _ e => (h1v.2 e).2) hj1) ?_
  clear hP
  rintro _ A12 ⟨ca, fva, rfl, hca, hfva, hA12⟩ hP
  obtain ⟨bfa, kfa, rfl⟩ := hfva.slice
  have hza := hca.size
  have hpa := hca.ones
  replace hA := View.le_trans hA hA12
  refine hR _ _ _ ?_; clear hR R
  iterate 4 (refine seqR_hide fun R hR => ?_; simp [go_sem, hcz, hco, hvz, hvo, hwz, hwo, d85, d58, d98, d89, d95, d59, z1, z2, hne, hne2, hne3, x0, x1, hza, hpa]; refine hR _ _ _ ?_; clear hR R)
  refine seqR_hide fun R hR => ?_
  simp [go_sem, hcz, hco, hvz, hvo, hwz, hwo, d85, d58, d98, d89, d95, d59, z1, z2, hne, hne2, hne3, x0, x1, hza, hpa]
  intro q11 hq11
  replace hP := hP.cons hq11
  clear hq11
  have d119 : q11 ≠ q9 := (hP.ne q9 (by simp [addrs])).1
  have d911 : q9 ≠ q11 := (hP.ne q9 (by simp [addrs])).2
  have d118 : q11 ≠ q8 := (hP.ne q8 (by simp [addrs])).1
  have d811 : q8 ≠ q11 := (hP.ne q8 (by simp [addrs])).2
  have d115 : q11 ≠ q5 := (hP.ne q5 (by simp [addrs])).1
  have d511 : q5 ≠ q11 := (hP.ne q5 (by simp [addrs])).2
  refine hR _ _ _ ?_; clear hR R
  refine seqR_hide fun R hR => ?_
  simp [go_sem, hcz, hco, hvz, hvo, hwz, hwo, d85, d58, d98, d89, d95, d59, z1, z2, hne, hne2, hne3, x0, x1, hza, hpa, d119, d911, d118, d811, d115, d511]
  refine hR _ _ _ ?_; clear hR R
  iterate 2 (refine seqR_hide fun R hR => ?_; simp [go_sem, hcz, hco, hvz, hvo, hwz, hwo, d85, d58, d98, d89, d95, d59, z1, z2, hne, hne2, hne3, x0, x1, hza, hpa, d119, d911, d118, d811, d115, d511]; refine hR _ _ _ ?_; clear hR R)
  rw [seqR_nil]
  refine hK _ _ _ ?_; clear hK K
  refine hN6 _ _ _ ?_
  refine xc_two fun N7 hN7 => ?_
  rw [xc_draws]
  refine vdrawK [(0, true), (1, true), (2, true), (3, true), (4, false), (5, true), (6, true), (7, true), (8, true), (9, true), (10, false), (11, true), (12, true)] (ov A12 [(q11, .cells ca 24 (0, 0)), (q9, .cells cw 24 (0, 0)), (q8, .cells cv 24 (0, 0)), (q5, .cells c 24 (0, 0))]) mixed (by kernel_rfl) (View.le_refl _) fun K hK => ?_
  simp only [rsl, gres]
  iterate 3 (refine seqR_hide fun R hR => ?_; simp [go_sem, hcz, hco, hvz, hvo, hwz, hwo, d85, d58, d98, d89, d95, d59, z1, z2, hne, hne2, hne3, x0, x1, hza, hpa, d119, d911, d118, d811, d115, d511]; refine hR _ _ _ ?_; clear hR R)
  refine seqR_hide fun R hR => ?_
  simp [go_sem, hcz, hco, hvz, hvo, hwz, hwo, d85, d58, d98, d89, d95, d59, z1, z2, hne, hne2, hne3, x0, x1, hza, hpa, d119, d911, d118, d811, d115, d511]
  refine call_ov hP (one11 A12 w cw (hcw.le hA)) ?_
  clear hP
  rintro lb A13 ⟨hlb, hA13⟩ hP
  obtain ⟨blb, klb, rfl⟩ := hlb.slice
  replace hA := View.le_trans hA hA13
  refine ⟨ov_mono hA13, hR _ _ _ ?_⟩; clear hR R
  refine seqR_hide fun R hR => ?_
  simp [go_sem, hcz, hco, hvz, hvo, hwz, hwo, d85, d58, d98, d89, d95, d59, z1, z2, hne, hne2, hne3, x0, x1, hza, hpa, d119, d911, d118, d811, d115, d511]
  have hca := hca.le hA13
  refine call_ov hP (setFieldP A13 (t.setKid j1 v) w 13 ca two _ j2 (hca) hlb (hpt.setKid hptv j1) (by omega) (by omega) hptw (by omega) ((t.setKid_kind _ _).trans hk) (by rw [t.setKid_tag]; exact htag) (by rw [t.setKid_kids, List.length_set]; exact hev.2.1) (hset _ _ _ hkk h0v.1) hn2 h0w.1 h0w.2 h1w.1 (fun _ e => (h1w.2 e).2) (by rw [t.setKid_kids, fldI_set _ _ _ _ o1]; exact hj2)) ?_
  clear hP
  rintro _ A14 ⟨cb, fvb, rfl, hcb, hfvb, hA14⟩ hP
  obtain ⟨bfb, kfb, rfl⟩ := hfvb.slice
  have hzb := hcb.size
  have hpb := hcb.ones
  replace hA := View.le_trans hA hA14
  refine hR _ _ _ ?_; clear hR R
  iterate 4 (refine seqR_hide fun R hR => ?_; simp [go_sem, hcz, hco, hvz, hvo, hwz, hwo, d85, d58, d98, d89, d95, d59, z1, z2, hne, hne2, hne3, x0, x1, hza, hpa, d119, d911, d118, d811, d115, d511, hzb, hpb]; refine hR _ _ _ ?_; clear hR R)
  refine seqR_hide fun R hR => ?_
  simp [go_sem, hcz, hco, hvz, hvo, hwz, hwo, d85, d58, d98, d89, d95, d59, z1, z2, hne, hne2, hne3, x0, x1, hza, hpa, d119, d911, d118, d811, d115, d511, hzb, hpb]
  intro q14 hq14
  replace hP := hP.cons hq14
  clear hq14
  have d1411 : q14 ≠ q11 := (hP.ne q11 (by simp [addrs])).1
  have d1114 : q11 ≠ q14 := (hP.ne q11 (by simp [addrs])).2
  have d149 : q14 ≠ q9 := (hP.ne q9 (by simp [addrs])).1
  have d914 : q9 ≠ q14 := (hP.ne q9 (by simp [addrs])).2
  have d148 : q14 ≠ q8 := (hP.ne q8 (by simp [addrs])).1
  have d814 : q8 ≠ q14 := (hP.ne q8 (by simp [addrs])).2
  have d145 : q14 ≠ q5 := (hP.ne q5 (by simp [addrs])).1
  have d514 : q5 ≠ q14 := (hP.ne q5 (by simp [addrs])).2
  refine hR _ _ _ ?_; clear hR R
  refine seqR_hide fun R hR => ?_
  simp [go_sem, hcz, hco, hvz, hvo, hwz, hwo, d85, d58, d98, d89, d95, d59, z1, z2, hne, hne2, hne3, x0, x1, hza, hpa, d119, d911, d118, d811, d115, d511, hzb, hpb, d1411, d1114, d149, d914, d148, d814, d145, d514]
  refine hR _ _ _ ?_; clear hR R
  iterate 2 (refine seqR_hide fun R hR => ?_; simp [go_sem, hcz, hco, hvz, hvo, hwz, hwo, d85, d58, d98, d89, d95, d59, z1, z2, hne, hne2, hne3, x0, x1, hza, hpa, d119, d911, d118, d811, d115, d511, hzb, hpb, d1411, d1114, d149, d914, d148, d814, d145, d514]; refine hR _ _ _ ?_; clear hR R)
  rw [seqR_nil]
  refine hK _ _ _ ?_; clear hK K
  refine hN7 _ _ _ ?_
  refine xc_two fun N8 hN8 => ?_
  rw [xc_draws]
  refine vdrawK [(0, true), (1, true), (2, true), (3, true), (4, false), (5, true), (6, true), (7, true), (8, true), (9, true), (10, false), (11, true), (12, true)] (ov A14 [(q14, .cells cb 24 (0, 0)), (q11, .cells ca 24 (0, 0)), (q9, .cells cw 24 (0, 0)), (q8, .cells cv 24 (0, 0)), (q5, .cells c 24 (0, 0))]) mixed (by kernel_rfl) (View.le_refl _) fun K hK => ?_
  simp only [rsl, gres]
  iterate 3 (refine seqR_hide fun R hR => ?_; simp [go_sem, hcz, hco, hvz, hvo, hwz, hwo, d85, d58, d98, d89, d95, d59, z1, z2, hne, hne2, hne3, x0, x1, hza, hpa, d119, d911, d118, d811, d115, d511, hzb, hpb, d1411, d1114, d149, d914, d148, d814, d145, d514]; refine hR _ _ _ ?_; clear hR R)
  refine seqR_hide fun R hR => ?_
  simp [go_sem, hcz, hco, hvz, hvo, hwz, hwo, d85, d58, d98, d89, d95, d59, z1, z2, hne, hne2, hne3, x0, x1, hza, hpa, d119, d911, d118, d811, d115, d511, hzb, hpb, d1411, d1114, d149, d914, d148, d814, d145, d514]
  refine call_ov hP (one11 A14 w cw (hcw.le hA)) ?_
  clear hP
  rintro ld A15 ⟨hld, hA15⟩ hP
  obtain ⟨bld, kld, rfl⟩ := hld.slice
  replace hA := View.le_trans hA hA15
  refine ⟨ov_mono hA15, hR _ _ _ ?_⟩; clear hR R
  refine seqR_hide fun R hR => ?_
  simp [go_sem, hcz, hco, hvz, hvo, hwz, hwo, d85, d58, d98, d89, d95, d59, z1, z2, hne, hne2, hne3, x0, x1, hza, hpa, d119, d911, d118, d811, d115, d511, hzb, hpb, d1411, d1114, d149, d914, d148, d814, d145, d514]
  refine call_ov hP (setFieldP A15 t w 13 c two _ j2 (hc.le hA) hld hpt (by omega) (by omega) hptw (by omega) hk htag hev.2.1 hkk hn2 h0w.1 h0w.2 h1w.1 (fun _ e => (h1w.2 e).2) hj2) ?_
  clear hP
  rintro _ A16 ⟨cd, fvd, rfl, hcd, hfvd, hA16⟩ hP
  obtain ⟨bfd, kfd, rfl⟩ := hfvd.slice
  have hzd := hcd.size
  have hpd := hcd.ones
  replace hA := View.le_trans hA hA16
  refine hR _ _ _ ?_; clear hR R
  iterate 4 (refine seqR_hide fun R hR => ?_; simp [go_sem, hcz, hco, hvz, hvo, hwz, hwo, d85, d58, d98, d89, d95, d59, z1, z2, hne, hne2, hne3, x0, x1, hza, hpa, d119, d911, d118, d811, d115, d511, hzb, hpb, d1411, d1114, d149, d914, d148, d814, d145, d514, hzd, hpd]; refine hR _ _ _ ?_; clear hR R)
  refine seqR_hide fun R hR => ?_
  simp [go_sem, hcz, hco, hvz, hvo, hwz, hwo, d85, d58, d98, d89, d95, d59, z1, z2, hne, hne2, hne3, x0, x1, hza, hpa, d119, d911, d118, d811, d115, d511, hzb, hpb, d1411, d1114, d149, d914, d148, d814, d145, d514, hzd, hpd]
  intro q17 hq17
  replace hP := hP.cons hq17
  clear hq17
  have d1714 : q17 ≠ q14 := (hP.ne q14 (by simp [addrs])).1
  have d1417 : q14 ≠ q17 := (hP.ne q14 (by simp [addrs])).2
  have d1711 : q17 ≠ q11 := (hP.ne q11 (by simp [addrs])).1
  have d1117 : q11 ≠ q17 := (hP.ne q11 (by simp [addrs])).2
  have d179 : q17 ≠ q9 := (hP.ne q9 (by simp [addrs])).1
  have d917 : q9 ≠ q17 := (hP.ne q9 (by simp [addrs])).2
  have d178 : q17 ≠ q8 := (hP.ne q8 (by simp [addrs])).1
  have d817 : q8 ≠ q17 := (hP.ne q8 (by simp [addrs])).2
  have d175 : q17 ≠ q5 := (hP.ne q5 (by simp [addrs])).1
  have d517 : q5 ≠ q17 := (hP.ne q5 (by simp [addrs])).2
  refine hR _ _ _ ?_; clear hR R
  refine seqR_hide fun R hR => ?_
  simp [go_sem, hcz, hco, hvz, hvo, hwz, hwo, d85, d58, d98, d89, d95, d59, z1, z2, hne, hne2, hne3, x0, x1, hza, hpa, d119, d911, d118, d811, d115, d511, hzb, hpb, d1411, d1114, d149, d914, d148, d814, d145, d514, hzd, hpd, d1714, d1417, d1711, d1117, d179, d917, d178, d817, d175, d517]
  refine hR _ _ _ ?_; clear hR R
  iterate 2 (refine seqR_hide fun R hR => ?_; simp [go_sem, hcz, hco, hvz, hvo, hwz, hwo, d85, d58, d98, d89, d95, d59, z1, z2, hne, hne2, hne3, x0, x1, hza, hpa, d119, d911, d118, d811, d115, d511, hzb, hpb, d1411, d1114, d149, d914, d148, d814, d145, d514, hzd, hpd, d1714, d1417, d1711, d1117, d179, d917, d178, d817, d175, d517]; refine hR _ _ _ ?_; clear hR R)
  rw [seqR_nil]
  refine hK _ _ _ ?_; clear hK K
  refine hN8 _ _ _ ?_
  refine xc_two fun N9 hN9 => ?_
  rw [xc_draws]
  refine vdrawK [(0, true), (1, true), (2, true), (3, true), (4, false), (5, true), (6, true), (7, true), (8, true), (9, true), (10, false), (11, true), (12, true)] (ov A16 [(q17, .cells cd 24 (0, 0)), (q14, .cells cb 24 (0, 0)), (q11, .cells ca 24 (0, 0)), (q9, .cells cw 24 (0, 0)), (q8, .cells cv 24 (0, 0)), (q5, .cells c 24 (0, 0))]) mixed (by kernel_rfl) (View.le_refl _) fun K hK => ?_
  simp only [rsl, gres]
  iterate 3 (refine seqR_hide fun R hR => ?_; simp [go_sem, hcz, hco, hvz, hvo, hwz, hwo, d85, d58, d98, d89, d95, d59, z1, z2, hne, hne2, hne3, x0, x1, hza, hpa, d119, d911, d118, d811, d115, d511, hzb, hpb, d1411, d1114, d149, d914, d148, d814, d145, d514, hzd, hpd, d1714, d1417, d1711, d1117, d179, d917, d178, d817, d175, d517]; refine hR _ _ _ ?_; clear hR R)
  refine seqR_hide fun R hR => ?_
  simp [go_sem, hcz, hco, hvz, hvo, hwz, hwo, d85, d58, d98, d89, d95, d59, z1, z2, hne, hne2, hne3, x0, x1, hza, hpa, d119, d911, d118, d811, d115, d511, hzb, hpb, d1411, d1114, d149, d914, d148, d814, d145, d514, hzd, hpd, d1714, d1417, d1711, d1117, d179, d917, d178, d817, d175, d517]
  refine call_ov hP (one11 A16 v cv (hcv.le hA)) ?_
  clear hP
  rintro le A17 ⟨hle, hA17⟩ hP
  obtain ⟨ble, kle, rfl⟩ := hle.slice
  replace hA := View.le_trans hA hA17
  refine ⟨ov_mono hA17, hR _ _ _ ?_⟩; clear hR R
  refine seqR_hide fun R hR => ?_
  simp [go_sem, hcz, hco, hvz, hvo, hwz, hwo, d85, d58, d98, d89, d95, d59, z1, z2, hne, hne2, hne3, x0, x1, hza, hpa, d119, d911, d118, d811, d115, d511, hzb, hpb, d1411, d1114, d149, d914, d148, d814, d145, d514, hzd, hpd, d1714, d1417, d1711, d1117, d179, d917, d178, d817, d175, d517]
  have hcd := hcd.le hA17
  refine call_ov hP (setFieldP A17 (t.setKid j2 w) v 13 cd one _ j1 (hcd) hle (hpt.setKid hptw j2) (by omega) (by omega) hptv (by omega) ((t.setKid_kind _ _).trans hk) (by rw [t.setKid_tag]; exact htag) (by rw [t.setKid_kids, List.length_set]; exact hev.2.1) (hset _ _ _ hkk h0w.1) hn1 h0v.1 h0v.2 h1v.1 (fun _ e => (h1v.2 e).2) (by rw [t.setKid_kids, fldI_set _ _ _ _ o2]; exact hj1)) ?_
  clear hP
  rintro _ A18 ⟨ce, fve, rfl, hce, hfve, hA18⟩ hP
  obtain ⟨bfe, kfe, rfl⟩ := hfve.slice
  have hze := hce.size
  have hpe := hce.ones
  replace hA := View.le_trans hA hA18
  refine hR _ _ _ ?_; clear hR R
  iterate 4 (refine seqR_hide fun R hR => ?_; simp [go_sem, hcz, hco, hvz, hvo, hwz, hwo, d85, d58, d98, d89, d95, d59, z1, z2, hne, hne2, hne3, x0, x1, hza, hpa, d119, d911, d118, d811, d115, d511, hzb, hpb, d1411, d1114, d149, d914, d148, d814, d145, d514, hzd, hpd, d1714, d1417, d1711, d1117, d179, d917, d178, d817, d175, d517, hze, hpe]; refine hR _ _ _ ?_; clear hR R)
  refine seqR_hide fun R hR => ?_
  simp [go_sem, hcz, hco, hvz, hvo, hwz, hwo, d85, d58, d98, d89, d95, d59, z1, z2, hne, hne2, hne3, x0, x1, hza, hpa, d119, d911, d118, d811, d115, d511, hzb, hpb, d1411, d1114, d149, d914, d148, d814, d145, d514, hzd, hpd, d1714, d1417, d1711, d1117, d179, d917, d178, d817, d175, d517, hze, hpe]
  intro q20 hq20
  replace hP := hP.cons hq20
  clear hq20
  have d2017 : q20 ≠ q17 := (hP.ne q17 (by simp [addrs])).1
  have d1720 : q17 ≠ q20 := (hP.ne q17 (by simp [addrs])).2
  have d2014 : q20 ≠ q14 := (hP.ne q14 (by simp [addrs])).1
  have d1420 : q14 ≠ q20 := (hP.ne q14 (by simp [addrs])).2
  have d2011 : q20 ≠ q11 := (hP.ne q11 (by simp [addrs])).1
  have d1120 : q11 ≠ q20 := (hP.ne q11 (by simp [addrs])).2
  have d209 : q20 ≠ q9 := (hP.ne q9 (by simp [addrs])).1
  have d920 : q9 ≠ q20 := (hP.ne q9 (by simp [addrs])).2
  have d208 : q20 ≠ q8 := (hP.ne q8 (by simp [addrs])).1
  have d820 : q8 ≠ q20 := (hP.ne q8 (by simp [addrs])).2
  have d205 : q20 ≠ q5 := (hP.ne q5 (by simp [addrs])).1
  have d520 : q5 ≠ q20 := (hP.ne q5 (by simp [addrs])).2
  refine hR _ _ _ ?_; clear hR R
  refine seqR_hide fun R hR => ?_
  simp [go_sem, hcz, hco, hvz, hvo, hwz, hwo, d85, d58, d98, d89, d95, d59, z1, z2, hne, hne2, hne3, x0, x1, hza, hpa, d119, d911, d118, d811, d115, d511, hzb, hpb, d1411, d1114, d149, d914, d148, d814, d145, d514, hzd, hpd, d1714, d1417, d1711, d1117, d179, d917, d178, d817, d175, d517, hze, hpe, d2017, d1720, d2014, d1420, d2011, d1120, d209, d920, d208, d820, d205, d520]
  refine hR _ _ _ ?_; clear hR R
  iterate 2 (refine seqR_hide fun R hR => ?_; simp [go_sem, hcz, hco, hvz, hvo, hwz, hwo, d85, d58, d98, d89, d95, d59, z1, z2, hne, hne2, hne3, x0, x1, hza, hpa, d119, d911, d118, d811, d115, d511, hzb, hpb, d1411, d1114, d149, d914, d148, d814, d145, d514, hzd, hpd, d1714, d1417, d1711, d1117, d179, d917, d178, d817, d175, d517, hze, hpe, d2017, d1720, d2014, d1420, d2011, d1120, d209, d920, d208, d820, d205, d520]; refine hR _ _ _ ?_; clear hR R)
  rw [seqR_nil]
  refine hK _ _ _ ?_; clear hK K
  refine hN9 _ _ _ ?_
  refine xc_two fun N10 hN10 => ?_
  have hcb := hcb.le (View.le_trans hA15 (View.le_trans hA16 (View.le_trans hA17 hA18)))
  rw [setKid_comm t w v (fun e => hjj e.symm)] at hce
  have hb0 := hcb.at0 (by rw [hzb]; decide)
  rw [Tr.setKid_kind, Tr.setKid_kind, hk] at hb0
  have hw0 : IntKind.i64.wrap 0 = 0 := by rw [wrap_in (by omega) (by omega)]
  refine xc_reg2 fun K hK => ?_
  simp only [rall, rsl, gres]
  iterate 11 (refine seqX_hide2 fun R hR => ?_; simp [go_sem, hcz, hco, hvz, hvo, hwz, hwo, d85, d58, d98, d89, d95, d59, z1, z2, hne, hne2, hne3, x0, x1, hza, hpa, d119, d911, d118, d811, d115, d511, hzb, hpb, d1411, d1114, d149, d914, d148, d814, d145, d514, hzd, hpd, d1714, d1417, d1711, d1117, d179, d917, d178, d817, d175, d517, hze, hpe, d2017, d1720, d2014, d1420, d2011, d1120, d209, d920, d208, d820, d205, d520, hw0, hb0]; refine hR _ _ _ ?_; clear hR R)
  refine seqX_hide2 fun R hR => ?_
  simp [go_sem, hcz, hco, hvz, hvo, hwz, hwo, d85, d58, d98, d89, d95, d59, z1, z2, hne, hne2, hne3, x0, x1, hza, hpa, d119, d911, d118, d811, d115, d511, hzb, hpb, d1411, d1114, d149, d914, d148, d814, d145, d514, hzd, hpd, d1714, d1417, d1711, d1117, d179, d917, d178, d817, d175, d517, hze, hpe, d2017, d1720, d2014, d1420, d2011, d1120, d209, d920, d208, d820, d205, d520, hw0, hb0]
  refine call_ov hP (same14 ((t.setKid j1 v).setKid j2 w) A18 _ cb ce hcb hce (Same.refl _) (by omega)) ?_
  clear hP
  rintro _ A19 ⟨rfl, hA19⟩ hP
  refine hR _ _ _ ?_; clear hR R
  iterate 7 (refine seqX_hide2 fun R hR => ?_; simp [go_sem, hcz, hco, hvz, hvo, hwz, hwo, d85, d58, d98, d89, d95, d59, z1, z2, hne, hne2, hne3, x0, x1, hza, hpa, d119, d911, d118, d811, d115, d511, hzb, hpb, d1411, d1114, d149, d914, d148, d814, d145, d514, hzd, hpd, d1714, d1417, d1711, d1117, d179, d917, d178, d817, d175, d517, hze, hpe, d2017, d1720, d2014, d1420, d2011, d1120, d209, d920, d208, d820, d205, d520, hw0, hb0]; refine hR _ _ _ ?_; clear hR R)
  rw [seqX_nil]
  refine hK _ _ _ ?_; clear hK K
  refine hN10 _ _ _ ?_
  simp [go_sem, hcz, hco, hvz, hvo, hwz, hwo, d85, d58, d98, d89, d95, d59, z1, z2, hne, hne2, hne3, x0, x1, hza, hpa, d119, d911, d118, d811, d115, d511, hzb, hpb, d1411, d1114, d149, d914, d148, d814, d145, d514, hzd, hpd, d1714, d1417, d1711, d1117, d179, d917, d178, d817, d175, d517, hze, hpe, d2017, d1720, d2014, d1420, d2011, d1120, d209, d920, d208, d820, d205, d520, hw0, hb0]
  exact View.le_trans hA (View.le_trans hA19 (le_ov hP))
theorem law1 (W : World) (c : Array Value) (t : Tr) (hh : IsTr (full W) t c ∧ SB t) (one : ByteArray) (h1 : one.size ≤ 140737488351232) (two : ByteArray) (h2 : two.size ≤ 140737488351232) (cv : Array Value) (v : Tr) (hv : IsTr (full W) v cv ∧ SB v) (cw : Array Value) (w : Tr) (hw : IsTr (full W) w cw ∧ SB w) : VCalls Try.prog 3 #[.agg c, .string one, .string two, .agg cv, .agg cw] (full W) fun r A' => r = .bool true ∧ full W ≤ A' := road3 (full W) c t hh one two (by omega) (by omega) cv v hv cw w hw
end Go.Proofs.YtpinamipjddobaaV

/- Trees: RQ0 RV0 PL0 SE0. -/
import Derived.Test.YtpinamipjddobaaKI0
import Derived.Test.YtpinamipjddobaaKM
import Derived.Test.YtpinamipjddobaaSD
import Derived.Test.YtpinamipjddobaaRY
import Derived.Test.YtpinamipjddobaaRZ
namespace Go.Proofs.YtpinamipjddobaaV
open Go.RowKit
set_option linter.unusedSimpArgs false
set_option linter.unusedVariables false
set_option maxRecDepth 20000 in
theorem isNull16 (A : View) (t : Tr) (c : Array Value) (hc : IsTr A t c) : VCalls Try.prog 16 #[.agg c] A fun r A' => (∃ b, r = .bool b ∧ (b = false → ¬ (t.kind = 8 ∧ t.tag = tNull))) ∧ A ≤ A' := by
  obtain ⟨k, st, tag, val, an, h, l, f, row, col, al, kids, rfl⟩ := t.ex
  obtain ⟨bb, bc0, rfl, -⟩ := hc.open
  refine xcalls Try.func16 rfl (by simp [Try.ntmps16]) ?_
  simp only [Try.f16]
  have hP : Priv A (addrs []) := Priv.nil A
  show xc _ _ _ _ _ _ (ov A [])
  by_cases hk : k = 8
  rotate_left
  · have hkb : (k == 8) = false := beq_eq_false_iff_ne.2 hk
    refine xc_two fun N1 hN1 => ?_
    refine xc_reg2 fun K hK => ?_
    simp only [rall, rsl, gres]
    refine seqX_hide2 fun R hR => ?_
    simp [go_sem, hk, hkb]
    intro q1 hq1
    replace hP := hP.cons hq1
    clear hq1
    refine hR _ _ _ ?_; clear hR R
    (refine seqX_hide2 fun R hR => ?_; simp [go_sem, hk, hkb]; refine hR _ _ _ ?_; clear hR R)
    rw [seqX_nil]
    refine hK _ _ _ ?_; clear hK K
    refine hN1 _ _ _ ?_
    refine xc_two fun N2 hN2 => ?_
    refine xc_reg2 fun K hK => ?_
    simp only [rall, rsl, gres]
    iterate 9 (refine seqX_hide2 fun R hR => ?_; simp [go_sem, hk, hkb]; refine hR _ _ _ ?_; clear hR R)
    rw [seqX_nil]
    refine hK _ _ _ ?_; clear hK K
    refine hN2 _ _ _ ?_
    simp [go_sem, hk, hkb]
    exact ⟨fun e => absurd e hk, le_ov hP⟩
  subst hk
  by_cases ht : tag = tNull
  · have ht' : tag.toList = [33, 33, 110, 117, 108, 108] := by rw [ht]; kernel_rfl
    refine xc_two fun N1 hN1 => ?_
    refine xc_reg2 fun K hK => ?_
    simp only [rall, rsl, gres]
    refine seqX_hide2 fun R hR => ?_
    simp [go_sem, ht']
    intro q1 hq1
    replace hP := hP.cons hq1
    clear hq1
    refine hR _ _ _ ?_; clear hR R
    (refine seqX_hide2 fun R hR => ?_; simp [go_sem, ht']; refine hR _ _ _ ?_; clear hR R)
    rw [seqX_nil]
    refine hK _ _ _ ?_; clear hK K
    refine hN1 _ _ _ ?_
    refine xc_two fun N2 hN2 => ?_
    refine xc_reg2 fun K hK => ?_
    simp only [rall, rsl, gres]
    iterate 9 (refine seqX_hide2 fun R hR => ?_; simp [go_sem, ht']; refine hR _ _ _ ?_; clear hR R)
    rw [seqX_nil]
    refine hK _ _ _ ?_; clear hK K
    refine hN2 _ _ _ ?_
    simp [go_sem, ht']
    exact le_ov hP
  have ht' : ¬ tag.toList = [33, 33, 110, 117, 108, 108] := fun e => bytes_ne ht (e.trans (by kernel_rfl))
  refine xc_two fun N1 hN1 => ?_
  refine xc_reg2 fun K hK => ?_
  simp only [rall, rsl, gres]
  refine seqX_hide2 fun R hR => ?_
  simp [go_sem, ht']
  intro q1 hq1
  replace hP := hP.cons hq1
  clear hq1
  refine hR _ _ _ ?_; clear hR R
  (refine seqX_hide2 fun R hR => ?_; simp [go_sem, ht']; refine hR _ _ _ ?_; clear hR R)
  rw [seqX_nil]
  refine hK _ _ _ ?_; clear hK K
  refine hN1 _ _ _ ?_
  refine xc_two fun N2 hN2 => ?_
  refine xc_reg2 fun K hK => ?_
  simp only [rall, rsl, gres]
  iterate 9 (refine seqX_hide2 fun R hR => ?_; simp [go_sem, ht']; refine hR _ _ _ ?_; clear hR R)
  rw [seqX_nil]
  refine hK _ _ _ ?_; clear hK K
  refine hN2 _ _ _ ?_
  simp [go_sem, ht']
  exact ⟨fun _ e => ht e, le_ov hP⟩
/-- A key stands there. -/
def PlcAt (kids : List Tr) (s : ByteArray) (i : Nat) : Prop := ∃ (h : i + 1 < kids.length), i % 2 = 0 ∧ (kids[i]'(by omega)).value = s
def PlcR (kids : List Tr) (s : ByteArray) (r : Value) : Prop := (fld kids s = none ∧ (∀ j, ¬ PlcAt kids s j) ∧ r = .int .i64 (-1)) ∨ (∃ i, ∃ hi : i + 1 < kids.length, PlcAt kids s i ∧ fld kids s = some (kids[i + 1]) ∧ r = .int .i64 i)
set_option maxRecDepth 20000 in
theorem place14 (A : View) (t : Tr) (c : Array Value) (s : ByteArray) (hc : IsTr A t c) (hk : t.kind = 4) (hkl : t.kids.length ≤ 1000000) : VCalls Try.prog 14 #[.agg c, .string s] A fun r A' => PlcR t.kids s r ∧ A ≤ A' := by
  obtain ⟨k, st, tag, val, an, h, ln, f, row, col, al, kk, rfl⟩ := t.ex
  replace hkl : kk.length ≤ 1000000 := hkl
  replace hk : k = 4 := hk
  subst hk
  show VCalls Try.prog 14 #[.agg c, .string s] A fun r A' => PlcR kk s r ∧ A ≤ A'
  obtain ⟨bb, bc0, rfl, hT⟩ := hc.open
  refine xcalls Try.func14 rfl (by simp [Try.ntmps14]) ?_
  simp only [Try.f14]
  have hP : Priv A (addrs []) := Priv.nil A
  show xc _ _ _ _ _ _ (ov A [])
  refine xc_two fun N1 hN1 => ?_
  refine xc_reg2 fun K hK => ?_
  simp only [rall, rsl, gres]
  refine seqX_hide2 fun R hR => ?_
  simp [go_sem]
  intro q2 hq2
  replace hP := hP.cons hq2
  clear hq2
  refine hR _ _ _ ?_; clear hR R
  (refine seqX_hide2 fun R hR => ?_; simp [go_sem]; refine hR _ _ _ ?_; clear hR R)
  rw [seqX_nil]
  refine hK _ _ _ ?_; clear hK K
  refine hN1 _ _ _ ?_
  refine xc_two fun N2 hN2 => ?_
  refine xc_two fun N3 hN3 => ?_
  refine xc_reg2 fun K hK => ?_
  simp only [rall, rsl, gres]
  (refine seqX_hide2 fun R hR => ?_; simp [go_sem]; refine hR _ _ _ ?_; clear hR R)
  rw [seqX_nil]
  refine hK _ _ _ ?_; clear hK K
  refine hN3 _ _ _ ?_
  rw [xc_block]
  rw [xc_loop]
  refine vloopK (fun k' e ds A' => ∃ (i : Nat), k' = kk.length - i ∧ ds = [] ∧ A' = ov A [(q2, .cells (trc 4 st tag val an h ln f row col al (.slice bb kk.length bc0)) 24 (0, 0))] ∧ Priv A [q2] ∧ e 1 = .string s ∧ e 2 = .pointer (some ⟨q2, 0, none⟩) ∧ e 5 = .int .i64 i ∧ (i ≤ kk.length + 1) ∧ (i % 2 = 0) ∧ (fld kk s = fld (kk.drop i) s) ∧ (∀ j, j < i → ¬ PlcAt kk s j)) _ ⟨0, rfl, rfl, rfl, hP, by simp [go_sem], by simp [go_sem], by simp [go_sem], by omega, rfl, rfl, fun j hj => by omega⟩ ?_
  clear hP
  rintro k' e ds _ ⟨i, rfl, rfl, rfl, hP, g1, g2, g5, hil, hi2, hfd, hno⟩ J1 X1 hJ1 hX1
  refine xc_sound _ ?_
  have hw1 : IntKind.i64.wrap ((i : Int) + 1) = ((i + 1 : Nat) : Int) := by rw [wrap_in (by omega) (by omega)]; omega
  have hw2 : IntKind.i64.wrap ((i : Int) + 2) = ((i + 2 : Nat) : Int) := by rw [wrap_in (by omega) (by omega)]; omega
  by_cases hi : i + 1 < kk.length
  rotate_left
  · have hii : ¬ (i : Int) + 1 < kk.length := by omega
    have hii2 : ¬ (((i + 1 : Nat) : Int) < kk.length) := by omega
    refine xc_two fun N4 hN4 => ?_
    refine xc_two fun N5 hN5 => ?_
    refine xc_reg2 fun K hK => ?_
    simp only [rall, rsl, gres]
    iterate 11 (refine seqX_hide2 fun R hR => ?_; simp [go_sem, g1, g2, g5, hw1, hw2, hi, hii, hii2]; refine hR _ _ _ ?_; clear hR R)
    rw [seqX_nil]
    refine hK _ _ _ ?_; clear hK K
    refine hN5 _ _ _ ?_
    refine xc_iffalse (by simp [go_sem, g1, g2, g5, hw1, hw2, hi, hii, hii2]) ?_
    refine hX1 _ _ _ _ ?_
    refine hN2 _ _ _ ?_
    refine xc_two fun N6 hN6 => ?_
    refine xc_reg2 fun K hK => ?_
    simp only [rall, rsl, gres]
    (refine seqX_hide2 fun R hR => ?_; simp [go_sem, g1, g2, g5, hw1, hw2, hi, hii, hii2]; refine hR _ _ _ ?_; clear hR R)
    rw [seqX_nil]
    refine hK _ _ _ ?_; clear hK K
    refine hN6 _ _ _ ?_
    simp [go_sem, g1, g2, g5, hw1, hw2, hi, hii, hii2]
    refine ⟨.inl ⟨by rw [hfd]; exact fld_short hi s, fun j hj => ?_, rfl⟩, le_ov hP⟩
    have h1 := hj.1
    exact hno j (by omega) hj
  have hii : (i : Int) + 1 < kk.length := by omega
  have hii2 : (((i + 1 : Nat) : Int) < kk.length) := by omega
  have hi0 : i < kk.length := by omega
  have hi0i : (i : Int) < kk.length := by omega
  have hfs := fld_step hi s
  rw [← hfd] at hfs
  obtain ⟨bs', cap', f1, hel2⟩ := hT
  simp only [Value.slice.injEq, true_and] at f1
  obtain ⟨rfl, rfl⟩ := f1
  obtain ⟨a2, c2, rfl, w2, hc2⟩ := hel2 i hi0
  obtain ⟨-, -, z3⟩ := hc2.at2
  have vj := cell_in w2 (by decide) (by decide) z3
  by_cases hv : s = (kk[i]).value
  · have hv' : kk[i].value.toList = s.toList := by rw [hv]
    rw [if_pos hv] at hfs
    refine xc_two fun N4 hN4 => ?_
    refine xc_two fun N5 hN5 => ?_
    refine xc_reg2 fun K hK => ?_
    simp only [rall, rsl, gres]
    iterate 11 (refine seqX_hide2 fun R hR => ?_; simp [go_sem, g1, g2, g5, hw1, hw2, hi, hii, hii2, hi0, hi0i, bc hP vj, hv']; refine hR _ _ _ ?_; clear hR R)
    rw [seqX_nil]
    refine hK _ _ _ ?_; clear hK K
    refine hN5 _ _ _ ?_
    refine xc_iftrue (by simp [go_sem, g1, g2, g5, hw1, hw2, hi, hii, hii2, hi0, hi0i, bc hP vj, hv']) ?_
    refine hN4 _ _ _ ?_
    refine xc_two fun N6 hN6 => ?_
    rw [xc_block]
    refine xc_two fun N7 hN7 => ?_
    refine xc_reg2 fun K hK => ?_
    simp only [rall, rsl, gres]
    iterate 8 (refine seqX_hide2 fun R hR => ?_; simp [go_sem, g1, g2, g5, hw1, hw2, hi, hii, hii2, hi0, hi0i, bc hP vj, hv']; refine hR _ _ _ ?_; clear hR R)
    rw [seqX_nil]
    refine hK _ _ _ ?_; clear hK K
    refine hN7 _ _ _ ?_
    refine xc_iftrue (by simp [go_sem, g1, g2, g5, hw1, hw2, hi, hii, hii2, hi0, hi0i, bc hP vj, hv']) ?_
    refine xc_two fun N8 hN8 => ?_
    refine xc_reg2 fun K hK => ?_
    simp only [rall, rsl, gres]
    iterate 2 (refine seqX_hide2 fun R hR => ?_; simp [go_sem, g1, g2, g5, hw1, hw2, hi, hii, hii2, hi0, hi0i, bc hP vj, hv']; refine hR _ _ _ ?_; clear hR R)
    rw [seqX_nil]
    refine hK _ _ _ ?_; clear hK K
    refine hN8 _ _ _ ?_
    refine hX1 _ _ _ _ ?_
    simp [go_sem, g1, g2, g5, hw1, hw2, hi, hii, hii2, hi0, hi0i, hv']
    exact ⟨.inr ⟨i, hi, ⟨hi, hi2, hv.symm⟩, hfs, rfl⟩, le_ov hP⟩
  have hv' : ¬ kk[i].value.toList = s.toList := fun e => bytes_ne hv e.symm
  rw [if_neg hv] at hfs
  have hno2 : ∀ j, j < i + 2 → ¬ PlcAt kk s j := by
    intro j hj hh
    rcases Nat.lt_or_ge j i with h | h
    · exact hno j h hh
    · obtain ⟨y1, y2, y3⟩ := hh
      obtain rfl : j = i := by omega
      exact hv y3.symm
  refine xc_two fun N4 hN4 => ?_
  refine xc_two fun N5 hN5 => ?_
  refine xc_reg2 fun K hK => ?_
  simp only [rall, rsl, gres]
  iterate 11 (refine seqX_hide2 fun R hR => ?_; simp [go_sem, g1, g2, g5, hw1, hw2, hi, hii, hii2, hi0, hi0i, bc hP vj, hv']; refine hR _ _ _ ?_; clear hR R)
  rw [seqX_nil]
  refine hK _ _ _ ?_; clear hK K
  refine hN5 _ _ _ ?_
  refine xc_iftrue (by simp [go_sem, g1, g2, g5, hw1, hw2, hi, hii, hii2, hi0, hi0i, bc hP vj, hv']) ?_
  refine hN4 _ _ _ ?_
  refine xc_two fun N6 hN6 => ?_
  rw [xc_block]
  refine xc_two fun N7 hN7 => ?_
  refine xc_reg2 fun K hK => ?_
  simp only [rall, rsl, gres]
  iterate 8 (refine seqX_hide2 fun R hR => ?_; simp [go_sem, g1, g2, g5, hw1, hw2, hi, hii, hii2, hi0, hi0i, bc hP vj, hv']; refine hR _ _ _ ?_; clear hR R)
  rw [seqX_nil]
  refine hK _ _ _ ?_; clear hK K
  refine hN7 _ _ _ ?_
  refine xc_iffalse (by simp [go_sem, g1, g2, g5, hw1, hw2, hi, hii, hii2, hi0, hi0i, bc hP vj, hv']) ?_
  refine hN6 _ _ _ ?_
  refine xc_reg2 fun K hK => ?_
  simp only [rall, rsl, gres]
  iterate 3 (refine seqX_hide2 fun R hR => ?_; simp [go_sem, g1, g2, g5, hw1, hw2, hi, hii, hii2, hi0, hi0i, bc hP vj, hv']; refine hR _ _ _ ?_; clear hR R)
  rw [seqX_nil]
  refine hK _ _ _ ?_; clear hK K
  refine hJ1 (kk.length - (i + 2)) _ _ _ (by omega) ⟨i + 2, rfl, rfl, rfl, hP, by simp [go_sem, g1, g2, g5, hw1, hw2, hi, hii, hii2, hi0, hi0i, hv'], by simp [go_sem, g1, g2, g5, hw1, hw2, hi, hii, hii2, hi0, hi0i, hv'], by simp [go_sem, g1, g2, g5, hw1, hw2, hi, hii, hii2, hi0, hi0i, hv'], by omega, by omega, hfs, hno2⟩
theorem PL.kid3 {lv : Nat} {t x : Tr} (h : PL lv t) (hx : x ∈ t.kids) : PL (lv - 1) x := by
  obtain ⟨k, st, tag, val, an, hh, l, f, row, col, al, kids, rfl⟩ := t.ex
  rw [PL] at h
  obtain ⟨j, hj, rfl⟩ := List.getElem_of_mem hx
  exact h.2.2.2 j hj
/-- What a plain tree is. -/
theorem PL.kinds {lv : Nat} {t : Tr} (h : PL lv t) : (t.kind = 8 ∧ t.kids = []) ∨ (t.kind = 2 ∧ t.tag = tSeq ∧ t.value = e0) ∨ (t.kind = 4 ∧ t.tag = tMap ∧ t.value = e0 ∧ t.kids.length % 2 = 0) := by
  obtain ⟨k, st, tag, val, an, hh, l, f, row, col, al, kids, rfl⟩ := t.ex
  rw [PL] at h
  obtain ⟨-, -, h | h | h, -⟩ := h
  · exact .inl ⟨h.1, h.2.1⟩
  · exact .inr (.inl h)
  · exact .inr (.inr ⟨h.1, h.2.1, h.2.2.1, h.2.2.2.1⟩)
theorem PL.nn1 {lv : Nat} {t : Tr} (h : PL lv t) (hn : ¬ (t.kind = 8 ∧ t.tag = tNull)) : t.kind ≠ 1 ∧ t.tag ≠ tNull := by
  rcases h.kinds with ⟨h1, -⟩ | ⟨h1, h2, -⟩ | ⟨h1, h2, -⟩
  · exact ⟨by omega, fun e => hn ⟨h1, e⟩⟩
  · exact ⟨by omega, by rw [h2]; decide⟩
  · exact ⟨by omega, by rw [h2]; decide⟩
theorem nds_kl9 (t : Tr) : t.kids.length ≤ nds t := by
  obtain ⟨k, st, tag, val, an, h, l, f, row, col, al, kids, rfl⟩ := t.ex
  rw [nds_mk]
  have := nds_len kids
  show kids.length ≤ _
  omega
theorem IsTr.at0 {A : View} {t : Tr} {c : Array Value} (hc : IsTr A t c) (h : 0 < c.size) : c[0] = .int .i64 t.kind := by
  obtain ⟨k, st, tag, val, an, hh, l, f, row, col, al, kids, rfl⟩ := t.ex
  obtain ⟨bb, bc0, rfl, g⟩ := hc.open
  rfl
theorem IsTr.at11 {A : View} {t : Tr} {c : Array Value} (hc : IsTr A t c) (h : 11 < c.size) : ∃ bb bc0, c[11] = .slice bb t.kids.length bc0 ∧ Trs A (.slice bb t.kids.length bc0) t.kids := by
  obtain ⟨k, st, tag, val, an, hh, l, f, row, col, al, kids, rfl⟩ := t.ex
  obtain ⟨bb, bc0, rfl, g⟩ := hc.open
  exact ⟨_, _, rfl, g⟩
theorem PL.ev2 {t : Tr} {lv : Nat} (h : PL lv t) (hk : t.kind = 4) : t.tag = tMap ∧ t.kids.length % 2 = 0 ∧ ∀ s i j, PlcAt t.kids s i → PlcAt t.kids s j → i = j := by
  obtain ⟨k, st, tag, val, an, hh, l, f, row, col, al, kids, rfl⟩ := t.ex
  rw [PL] at h
  replace hk : k = 4 := hk
  obtain ⟨-, -, h, -⟩ := h
  rcases h with h | h | h
  · omega
  · omega
  · refine ⟨h.2.1, h.2.2.2.1, fun s i j hi hj => ?_⟩
    obtain ⟨-, ht, -, -, -, hu⟩ := h
    obtain ⟨i1, i2, i3⟩ := hi
    obtain ⟨j1, j2, j3⟩ := hj
    replace i1 : i + 1 < kids.length := i1
    replace j1 : j + 1 < kids.length := j1
    rcases Nat.lt_trichotomy i j with h | h | h
    · exact absurd (i3.trans j3.symm) (hu j i (by omega) h j2 i2)
    · exact h
    · exact absurd (j3.trans i3.symm) (hu i j (by omega) h i2 j2)
set_option maxRecDepth 20000 in
set_option maxHeartbeats 400000 in
theorem fits36 (A : View) (v : Value) (l : List ByteArray) (h : Texts A v l) : VCalls Try.prog 36 #[v] A fun r A' => FB (l.length ≤ 2147483647 ∧ ∀ s ∈ l, s.size ≤ 2147483647) r ∧ A ≤ A' := by
  obtain ⟨bs, cp, rfl⟩ := h.slice
  refine xcalls Try.func36 rfl (by simp [Try.ntmps36]) ?_
  simp only [Try.f36]
  have hP : Priv A (addrs []) := Priv.nil A
  show xc _ _ _ _ _ _ (ov A [])
  refine xc_two fun N1 hN1 => ?_
  refine xc_reg2 fun K hK => ?_
  simp only [rall, rsl, gres]
  (refine seqX_hide2 fun R hR => ?_; simp [go_sem]; refine hR _ _ _ ?_; clear hR R)
  rw [seqX_nil]
  refine hK _ _ _ ?_; clear hK K
  refine hN1 _ _ _ ?_
  refine xc_two fun N2 hN2 => ?_
  refine xc_two fun N3 hN3 => ?_
  refine xc_reg2 fun K hK => ?_
  simp only [rall, rsl, gres]
  iterate 3 (refine seqX_hide2 fun R hR => ?_; simp [go_sem]; refine hR _ _ _ ?_; clear hR R)
  rw [seqX_nil]
  refine hK _ _ _ ?_; clear hK K
  refine hN3 _ _ _ ?_
  rcases Int.lt_or_le 2147483647 (l.length : Int) with h0 | h0
  · skip
    refine xc_iftrue (by simp [go_sem, h0]) ?_
    refine xc_two fun N4 hN4 => ?_
    refine xc_reg2 fun K hK => ?_
    simp only [rall, rsl, gres]
    (refine seqX_hide2 fun R hR => ?_; simp [go_sem, h0]; refine hR _ _ _ ?_; clear hR R)
    rw [seqX_nil]
    refine hK _ _ _ ?_; clear hK K
    refine hN4 _ _ _ ?_
    simp [go_sem]
    exact ⟨FB.no _, View.le_refl _⟩
  refine xc_iffalse (by simp [go_sem, h0]) ?_
  refine hN2 _ _ _ ?_
  refine xc_two fun N4 hN4 => ?_
  refine xc_two fun N5 hN5 => ?_
  refine xc_reg2 fun K hK => ?_
  simp only [rall, rsl, gres]
  iterate 3 (refine seqX_hide2 fun R hR => ?_; simp [go_sem, h0]; refine hR _ _ _ ?_; clear hR R)
  rw [seqX_nil]
  refine hK _ _ _ ?_; clear hK K
  refine hN5 _ _ _ ?_
  rw [xc_block]
  rw [xc_loop]
  refine vloopK (fun k' e ds A' => ∃ (j : Nat), k' = l.length - j ∧ ds = [] ∧ A' = ov A [] ∧ Priv A [] ∧ e 8 = .slice bs l.length cp ∧ e 9 = .int .i64 l.length ∧ e 10 = .int .i64 j ∧ (j ≤ l.length) ∧ (∀ i (h : i < l.length), i < j → l[i].size ≤ 2147483647)) _ ⟨0, rfl, rfl, rfl, hP, by simp [go_sem], by simp [go_sem], by simp [go_sem], by omega, fun i h hj => by omega⟩ ?_
  clear hP
  rintro k' e ds A' ⟨j, rfl, rfl, hV, hP, g8, g9, g10, hjl, hsz⟩ J1 X1 hJ1 hX1
  refine xc_sound _ ?_
  replace hV := Eq.symm hV; subst hV; replace hP : Priv A (addrs []) := hP
  have hw1 : IntKind.i64.wrap ((j : Int) + 1) = ((j + 1 : Nat) : Int) := by rw [wrap_in (by omega) (by omega)]; omega
  by_cases hj : j < l.length
  · have hji : (j : Int) < l.length := by omega
    obtain ⟨a, cap, f1, u1⟩ := h.at' hj
    simp only [Value.slice.injEq] at f1
    obtain ⟨rfl, -, rfl⟩ := f1
    refine xc_two fun N6 hN6 => ?_
    refine xc_reg2 fun K hK => ?_
    simp only [rall, rsl, gres]
    (refine seqX_hide2 fun R hR => ?_; simp [go_sem, g8, g9, g10, hj, hji, hw1, bc hP u1, xindexAt, vload]; refine hR _ _ _ ?_; clear hR R)
    rw [seqX_nil]
    refine hK _ _ _ ?_; clear hK K
    refine hN6 _ _ _ ?_
    refine xc_two fun N7 hN7 => ?_
    refine xc_iftrue (by simp [go_sem, g8, g9, g10, hj, hji, hw1, bc hP u1, xindexAt, vload]) ?_
    refine hN7 _ _ _ ?_
    refine xc_two fun N8 hN8 => ?_
    rw [xc_block]
    refine xc_two fun N9 hN9 => ?_
    refine xc_reg2 fun K hK => ?_
    simp only [rall, rsl, gres]
    iterate 3 (refine seqX_hide2 fun R hR => ?_; simp [go_sem, g8, g9, g10, hj, hji, hw1, bc hP u1, xindexAt, vload]; refine hR _ _ _ ?_; clear hR R)
    rw [seqX_nil]
    refine hK _ _ _ ?_; clear hK K
    refine hN9 _ _ _ ?_
    refine xc_two fun N10 hN10 => ?_
    refine xc_reg2 fun K hK => ?_
    simp only [rall, rsl, gres]
    iterate 3 (refine seqX_hide2 fun R hR => ?_; simp [go_sem, g8, g9, g10, hj, hji, hw1, bc hP u1, xindexAt, vload]; refine hR _ _ _ ?_; clear hR R)
    rw [seqX_nil]
    refine hK _ _ _ ?_; clear hK K
    refine hN10 _ _ _ ?_
    rcases Int.lt_or_le 2147483647 (l[j].size : Int) with h1 | h1
    · skip
      refine xc_iftrue (by simp [go_sem, g8, g9, g10, hj, hji, hw1, bc hP u1, xindexAt, vload, h1]) ?_
      refine xc_two fun N11 hN11 => ?_
      refine xc_reg2 fun K hK => ?_
      simp only [rall, rsl, gres]
      (refine seqX_hide2 fun R hR => ?_; simp [go_sem, g8, g9, g10, hj, hji, hw1, bc hP u1, xindexAt, vload, h1]; refine hR _ _ _ ?_; clear hR R)
      rw [seqX_nil]
      refine hK _ _ _ ?_; clear hK K
      refine hN11 _ _ _ ?_
      refine hX1 _ _ _ _ ?_
      simp [go_sem, g8, g9, g10, hj, hji, hw1, bc hP u1, xindexAt, vload]
      exact ⟨FB.no _, View.le_refl _⟩
    refine xc_iffalse (by simp [go_sem, g8, g9, g10, hj, hji, hw1, bc hP u1, xindexAt, vload, h1]) ?_
    refine hN8 _ _ _ ?_
    refine xc_reg2 fun K hK => ?_
    simp only [rall, rsl, gres]
    iterate 2 (refine seqX_hide2 fun R hR => ?_; simp [go_sem, g8, g9, g10, hj, hji, hw1, bc hP u1, xindexAt, vload, h1]; refine hR _ _ _ ?_; clear hR R)
    rw [seqX_nil]
    refine hK _ _ _ ?_; clear hK K
    have hsz2 : ∀ i (h : i < l.length), i < j + 1 → l[i].size ≤ 2147483647 := fun i h hi => by
      rcases Nat.lt_or_eq_of_le (Nat.le_of_lt_succ hi) with h2 | h2
      · exact hsz i h h2
      · subst h2; omega
    refine hJ1 (l.length - (j + 1)) _ _ _ (by omega) ⟨j + 1, rfl, rfl, rfl, hP, by simp [go_sem, g8, g9, g10, hj, hji, hw1, bc hP u1, xindexAt, vload], by simp [go_sem, g8, g9, g10, hj, hji, hw1, bc hP u1, xindexAt, vload], by simp [go_sem, g8, g9, g10, hj, hji, hw1, bc hP u1, xindexAt, vload], by omega, hsz2⟩
  · have hji : ¬ (j : Int) < l.length := by omega
    refine xc_two fun N6 hN6 => ?_
    refine xc_reg2 fun K hK => ?_
    simp only [rall, rsl, gres]
    (refine seqX_hide2 fun R hR => ?_; simp [go_sem, g8, g9, g10, hj, hji]; refine hR _ _ _ ?_; clear hR R)
    rw [seqX_nil]
    refine hK _ _ _ ?_; clear hK K
    refine hN6 _ _ _ ?_
    refine xc_two fun N7 hN7 => ?_
    refine xc_iffalse (by simp [go_sem, g8, g9, g10, hj, hji]) ?_
    refine hX1 _ _ _ _ ?_
    refine hN4 _ _ _ ?_
    refine xc_two fun N8 hN8 => ?_
    refine xc_reg2 fun K hK => ?_
    simp only [rall, rsl, gres]
    (refine seqX_hide2 fun R hR => ?_; simp [go_sem, g8, g9, g10, hj, hji]; refine hR _ _ _ ?_; clear hR R)
    rw [seqX_nil]
    refine hK _ _ _ ?_; clear hK K
    refine hN8 _ _ _ ?_
    simp [go_sem, g8, g9, g10, hj, hji]
    refine ⟨FB.yes ⟨by omega, fun s hs => ?_⟩, View.le_refl _⟩
    obtain ⟨i, hi, rfl⟩ := List.getElem_of_mem hs
    exact hsz i hi (by omega)
theorem fitM_eq {x : Tr} {lv : Nat} (hx : PL lv x) (h4 : x.kind = 4) : ∀ (ks vs : List ByteArray), (∀ s ∈ vs, s ≠ e0) → fitM x ks vs = fitB x ks vs
  | [], _, _ => by rw [fitM, fitB]; all_goals simp
  | _ :: _, [], _ => by rw [fitM, fitB]; all_goals simp
  | k :: ks, v :: vs, h => by
    rw [fitM, fitB, fitM_eq hx h4 ks vs fun s hs => h s (List.mem_cons_of_mem _ hs)]
    congr 1
    rw [fit1, fldOf, if_pos h4, mfl]
    cases hf : fld x.kids k with
    | none => rfl
    | some y =>
      show Option.isSome (if y.value = v then some y else none) = (decide (y.kind = 8) && decide (y.value = v))
      by_cases hv : y.value = v
      · have hy := hx.kid3 (fld_mem hf)
        have hv0 := h v List.mem_cons_self
        have hk8 : y.kind = 8 := by
          rcases hy.kinds with ⟨h1, -⟩ | ⟨-, -, h2⟩ | ⟨-, -, h2, -⟩
          · exact h1
          · exact absurd (hv.symm.trans h2) hv0
          · exact absurd (hv.symm.trans h2) hv0
        rw [if_pos hv, decide_eq_true hv, decide_eq_true hk8]
        rfl
      · rw [if_neg hv, decide_eq_false hv]
        simp
theorem fit_eq {x : Tr} {lv : Nat} (hx : PL lv x) {ks vs : List ByteArray} (hl : ks.length = vs.length) (h0 : 0 < ks.length) (h : ∀ s ∈ vs, s ≠ e0) : fitB x ks vs = fitK ks vs x := by
  rw [fitK]
  by_cases h4 : x.kind = 4
  · rw [decide_eq_true h4, Bool.true_and, fitM_eq hx h4 ks vs h]
  · rw [decide_eq_false h4, Bool.false_and]
    cases ks with
    | nil => exact absurd h0 (by decide)
    | cons k ks =>
      cases vs with
      | nil => cases hl
      | cons v vs => rw [fitB, fit1, fldOf, if_neg h4]; rfl
theorem nds_setK {t : Tr} {o : Option Tr} (f : Tr → Bool) (hn : nds t ≤ 400) (ho : ∀ x, o = some x → nds x ≤ 400) : nds (t.setK (resT f (opt1 o) t.kids)) ≤ 1000000 := by
  obtain ⟨k, st, tag, val, an, hh, l, f', row, col, al, kids, rfl⟩ := t.ex
  rw [nds_mk] at hn
  show nds (.mk k st tag val an hh l f' row col al (resT f (opt1 o) kids)) ≤ 1000000
  rw [nds_mk]
  have := nds_resT f (opt1 o) kids (by
    cases o with
    | none => exact Nat.zero_le _
    | some y =>
      have := ho _ rfl
      show ([y].map nds).sum ≤ 400
      simp
      omega) (by omega)
  omega
theorem same_seq (t : Tr) (l : List Tr) (hk : t.kind = 2) : Same (t.setK l) (.mk 2 0 tSeq e0 e0 e0 e0 e0 0 0 (-1) l) := by
  obtain ⟨k, st, tag, val, an, hh, ln, f', row, col, al, kids, rfl⟩ := t.ex
  replace hk : k = 2 := hk
  subst hk
  show Same (.mk 2 st tag val an hh ln f' row col al l) _
  rw [Same]
  exact ⟨rfl, rfl, fun e => absurd e (by decide), fun j hj _ => Same.refl _⟩
end Go.Proofs.YtpinamipjddobaaV

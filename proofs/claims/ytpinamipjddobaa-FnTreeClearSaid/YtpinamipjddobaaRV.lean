/- Trees: spec.Place, FieldLess. -/
import Derived.Test.YtpinamipjddobaaRU
import Derived.Test.YtpinamipjddobaaKU0
namespace Go.Proofs.YtpinamipjddobaaV
open Go.RowKit
set_option linter.unusedSimpArgs false
set_option linter.unusedVariables false
/-- A key stands there. -/
def PlcAt (kids : List Tr) (s : ByteArray) (i : Nat) : Prop := ∃ (h : i + 1 < kids.length), i % 2 = 0 ∧ (kids[i]'(by omega)).value = s
def PlcR (kids : List Tr) (s : ByteArray) (r : Value) : Prop := (fld kids s = none ∧ (∀ j, ¬ PlcAt kids s j) ∧ r = .int .i64 (-1)) ∨ (∃ i, ∃ hi : i + 1 < kids.length, PlcAt kids s i ∧ fld kids s = some (kids[i + 1]) ∧ r = .int .i64 i)
set_option maxRecDepth 20000 in
theorem place14 (A : View) (t : Tr) (c : Array Value) (s : ByteArray) (hc : IsTr A t c) (hk : t.kind = 4) (hkl : t.kids.length ≤ 1000000) : VCalls Try.prog 14 #[.agg c, .string s] A fun r A' => PlcR t.kids s r ∧ A ≤ A' := by
  obtain ⟨k, st, tag, val, an, h, ln, f, row, col, al, kk, rfl⟩ := t.ex
  replace hkl : kk.length ≤ 1000000 := hkl
  replace hk : k = 4 := hk
  subst hk
  show VCalls Try.prog 14 #[.agg c, .string s] A fun r A' => PlcR kk s r ∧ A ≤ A'
  obtain ⟨bb, bc0, rfl, hT⟩ := hc.open
  refine xcalls Try.func14 rfl (by simp [Try.ntmps14]) ?_
  simp only [Try.f14]
  have hP : Priv A (addrs []) := Priv.nil A
  show xc _ _ _ _ _ _ (ov A [])
  refine xc_two fun N1 hN1 => ?_
  refine xc_reg1 2 rfl fun K hK => ?_
  simp only [show (List.range 2).map (·, true) = [(0, true), (1, true)] from rfl, rslv_cons, rslv_nil, List.getElem?_toArray, List.getElem?_cons_zero, List.getElem?_cons_succ, gres]
  refine seqX_hide2 fun R hR => ?_
  simp [go_sem]
  intro q2 hq2
  replace hP := hP.cons hq2
  clear hq2
  refine hR _ _ _ ?_; clear hR R
  (refine seqX_hide2 fun R hR => ?_; simp [go_sem]; refine hR _ _ _ ?_; clear hR R)
  rw [seqX_nil]
  refine hK _ _ _ ?_; clear hK K
  refine hN1 _ _ _ ?_
  refine xc_two fun N2 hN2 => ?_
  refine xc_two fun N3 hN3 => ?_
  refine xc_reg1 1 rfl fun K hK => ?_
  simp only [show (List.range 1).map (·, true) = [(0, true)] from rfl, rslv_cons, rslv_nil, List.getElem?_toArray, List.getElem?_cons_zero, List.getElem?_cons_succ, gres]
  (refine seqX_hide2 fun R hR => ?_; simp [go_sem]; refine hR _ _ _ ?_; clear hR R)
  rw [seqX_nil]
  refine hK _ _ _ ?_; clear hK K
  refine hN3 _ _ _ ?_
  rw [xc_block]
  rw [xc_loop]
  refine vloopK (fun k' e ds A' => ∃ (i : Nat), k' = kk.length - i ∧ ds = [] ∧ A' = ov A [(q2, .cells (trc 4 st tag val an h ln f row col al (.slice bb kk.length bc0)) 24 (0, 0))] ∧ Priv A [q2] ∧ e 1 = .string s ∧ e 2 = .pointer (some ⟨q2, 0, none⟩) ∧ e 5 = .int .i64 i ∧ (i ≤ kk.length + 1) ∧ (i % 2 = 0) ∧ (fld kk s = fld (kk.drop i) s) ∧ (∀ j, j < i → ¬ PlcAt kk s j)) _ ⟨0, rfl, rfl, rfl, hP, by simp [go_sem], by simp [go_sem], by simp [go_sem], by omega, rfl, rfl, fun j hj => by omega⟩ ?_
  clear hP
  rintro k' e ds _ ⟨i, rfl, rfl, rfl, hP, g1, g2, g5, hil, hi2, hfd, hno⟩ J1 X1 hJ1 hX1
  refine xc_sound _ ?_
  have hw1 : IntKind.i64.wrap ((i : Int) + 1) = ((i + 1 : Nat) : Int) := by rw [wrap_in (by omega) (by omega)]; omega
  have hw2 : IntKind.i64.wrap ((i : Int) + 2) = ((i + 2 : Nat) : Int) := by rw [wrap_in (by omega) (by omega)]; omega
  by_cases hi : i + 1 < kk.length
  rotate_left
  · have hii : ¬ (i : Int) + 1 < kk.length := by omega
    have hii2 : ¬ (((i + 1 : Nat) : Int) < kk.length) := by omega
    refine xc_two fun N4 hN4 => ?_
    refine xc_two fun N5 hN5 => ?_
    refine xc_reg1 11 rfl fun K hK => ?_
    simp only [show (List.range 11).map (·, true) = [(0, true), (1, true), (2, true), (3, true), (4, true), (5, true), (6, true), (7, true), (8, true), (9, true), (10, true)] from rfl, rslv_cons, rslv_nil, List.getElem?_toArray, List.getElem?_cons_zero, List.getElem?_cons_succ, gres]
    iterate 11 (refine seqX_hide2 fun R hR => ?_; simp [go_sem, g1, g2, g5, hw1, hw2, hi, hii, hii2]; refine hR _ _ _ ?_; clear hR R)
    rw [seqX_nil]
    refine hK _ _ _ ?_; clear hK K
    refine hN5 _ _ _ ?_
    refine xc_iffalse (by simp [go_sem, g1, g2, g5, hw1, hw2, hi, hii, hii2]) ?_
    refine hX1 _ _ _ _ ?_
    refine hN2 _ _ _ ?_
    refine xc_two fun N6 hN6 => ?_
    refine xc_reg1 1 rfl fun K hK => ?_
    simp only [show (List.range 1).map (·, true) = [(0, true)] from rfl, rslv_cons, rslv_nil, List.getElem?_toArray, List.getElem?_cons_zero, List.getElem?_cons_succ, gres]
    (refine seqX_hide2 fun R hR => ?_; simp [go_sem, g1, g2, g5, hw1, hw2, hi, hii, hii2]; refine hR _ _ _ ?_; clear hR R)
    rw [seqX_nil]
    refine hK _ _ _ ?_; clear hK K
    refine hN6 _ _ _ ?_
    simp [go_sem, g1, g2, g5, hw1, hw2, hi, hii, hii2]
    refine ⟨.inl ⟨by rw [hfd]; exact fld_short hi s, fun j hj => ?_, rfl⟩, le_ov hP⟩
    have h1 := hj.1
    exact hno j (by omega) hj
  have hii : (i : Int) + 1 < kk.length := by omega
  have hii2 : (((i + 1 : Nat) : Int) < kk.length) := by omega
  have hi0 : i < kk.length := by omega
  have hi0i : (i : Int) < kk.length := by omega
  have hfs := fld_step hi s
  rw [← hfd] at hfs
  obtain ⟨bs', cap', f1, hel2⟩ := hT
  simp only [Value.slice.injEq, true_and] at f1
  obtain ⟨rfl, rfl⟩ := f1
  obtain ⟨a2, c2, rfl, w2, hc2⟩ := hel2 i hi0
  obtain ⟨-, -, z3⟩ := hc2.at2
  have vj := cell_in w2 (by decide) (by decide) z3
  by_cases hv : s = (kk[i]).value
  · have hv' : kk[i].value.toList = s.toList := by rw [hv]
    rw [if_pos hv] at hfs
    refine xc_two fun N4 hN4 => ?_
    refine xc_two fun N5 hN5 => ?_
    refine xc_reg1 11 rfl fun K hK => ?_
    simp only [show (List.range 11).map (·, true) = [(0, true), (1, true), (2, true), (3, true), (4, true), (5, true), (6, true), (7, true), (8, true), (9, true), (10, true)] from rfl, rslv_cons, rslv_nil, List.getElem?_toArray, List.getElem?_cons_zero, List.getElem?_cons_succ, gres]
    iterate 11 (refine seqX_hide2 fun R hR => ?_; simp [go_sem, g1, g2, g5, hw1, hw2, hi, hii, hii2, hi0, hi0i, bc hP vj, hv']; refine hR _ _ _ ?_; clear hR R)
    rw [seqX_nil]
    refine hK _ _ _ ?_; clear hK K
    refine hN5 _ _ _ ?_
    refine xc_iftrue (by simp [go_sem, g1, g2, g5, hw1, hw2, hi, hii, hii2, hi0, hi0i, bc hP vj, hv']) ?_
    refine hN4 _ _ _ ?_
    refine xc_two fun N6 hN6 => ?_
    rw [xc_block]
    refine xc_two fun N7 hN7 => ?_
    refine xc_reg1 8 rfl fun K hK => ?_
    simp only [show (List.range 8).map (·, true) = [(0, true), (1, true), (2, true), (3, true), (4, true), (5, true), (6, true), (7, true)] from rfl, rslv_cons, rslv_nil, List.getElem?_toArray, List.getElem?_cons_zero, List.getElem?_cons_succ, gres]
    iterate 8 (refine seqX_hide2 fun R hR => ?_; simp [go_sem, g1, g2, g5, hw1, hw2, hi, hii, hii2, hi0, hi0i, bc hP vj, hv']; refine hR _ _ _ ?_; clear hR R)
    rw [seqX_nil]
    refine hK _ _ _ ?_; clear hK K
    refine hN7 _ _ _ ?_
    refine xc_iftrue (by simp [go_sem, g1, g2, g5, hw1, hw2, hi, hii, hii2, hi0, hi0i, bc hP vj, hv']) ?_
    refine xc_two fun N8 hN8 => ?_
    refine xc_reg1 2 rfl fun K hK => ?_
    simp only [show (List.range 2).map (·, true) = [(0, true), (1, true)] from rfl, rslv_cons, rslv_nil, List.getElem?_toArray, List.getElem?_cons_zero, List.getElem?_cons_succ, gres]
    iterate 2 (refine seqX_hide2 fun R hR => ?_; simp [go_sem, g1, g2, g5, hw1, hw2, hi, hii, hii2, hi0, hi0i, bc hP vj, hv']; refine hR _ _ _ ?_; clear hR R)
    rw [seqX_nil]
    refine hK _ _ _ ?_; clear hK K
    refine hN8 _ _ _ ?_
    refine hX1 _ _ _ _ ?_
    simp [go_sem, g1, g2, g5, hw1, hw2, hi, hii, hii2, hi0, hi0i, hv']
    exact ⟨.inr ⟨i, hi, ⟨hi, hi2, hv.symm⟩, hfs, rfl⟩, le_ov hP⟩
  have hv' : ¬ kk[i].value.toList = s.toList := fun e => bytes_ne hv e.symm
  rw [if_neg hv] at hfs
  have hno2 : ∀ j, j < i + 2 → ¬ PlcAt kk s j := by
    intro j hj hh
    rcases Nat.lt_or_ge j i with h | h
    · exact hno j h hh
    · obtain ⟨y1, y2, y3⟩ := hh
      obtain rfl : j = i := by omega
      exact hv y3.symm
  refine xc_two fun N4 hN4 => ?_
  refine xc_two fun N5 hN5 => ?_
  refine xc_reg1 11 rfl fun K hK => ?_
  simp only [show (List.range 11).map (·, true) = [(0, true), (1, true), (2, true), (3, true), (4, true), (5, true), (6, true), (7, true), (8, true), (9, true), (10, true)] from rfl, rslv_cons, rslv_nil, List.getElem?_toArray, List.getElem?_cons_zero, List.getElem?_cons_succ, gres]
  iterate 11 (refine seqX_hide2 fun R hR => ?_; simp [go_sem, g1, g2, g5, hw1, hw2, hi, hii, hii2, hi0, hi0i, bc hP vj, hv']; refine hR _ _ _ ?_; clear hR R)
  rw [seqX_nil]
  refine hK _ _ _ ?_; clear hK K
  refine hN5 _ _ _ ?_
  refine xc_iftrue (by simp [go_sem, g1, g2, g5, hw1, hw2, hi, hii, hii2, hi0, hi0i, bc hP vj, hv']) ?_
  refine hN4 _ _ _ ?_
  refine xc_two fun N6 hN6 => ?_
  rw [xc_block]
  refine xc_two fun N7 hN7 => ?_
  refine xc_reg1 8 rfl fun K hK => ?_
  simp only [show (List.range 8).map (·, true) = [(0, true), (1, true), (2, true), (3, true), (4, true), (5, true), (6, true), (7, true)] from rfl, rslv_cons, rslv_nil, List.getElem?_toArray, List.getElem?_cons_zero, List.getElem?_cons_succ, gres]
  iterate 8 (refine seqX_hide2 fun R hR => ?_; simp [go_sem, g1, g2, g5, hw1, hw2, hi, hii, hii2, hi0, hi0i, bc hP vj, hv']; refine hR _ _ _ ?_; clear hR R)
  rw [seqX_nil]
  refine hK _ _ _ ?_; clear hK K
  refine hN7 _ _ _ ?_
  refine xc_iffalse (by simp [go_sem, g1, g2, g5, hw1, hw2, hi, hii, hii2, hi0, hi0i, bc hP vj, hv']) ?_
  refine hN6 _ _ _ ?_
  refine xc_reg1 3 rfl fun K hK => ?_
  simp only [show (List.range 3).map (·, true) = [(0, true), (1, true), (2, true)] from rfl, rslv_cons, rslv_nil, List.getElem?_toArray, List.getElem?_cons_zero, List.getElem?_cons_succ, gres]
  iterate 3 (refine seqX_hide2 fun R hR => ?_; simp [go_sem, g1, g2, g5, hw1, hw2, hi, hii, hii2, hi0, hi0i, bc hP vj, hv']; refine hR _ _ _ ?_; clear hR R)
  rw [seqX_nil]
  refine hK _ _ _ ?_; clear hK K
  refine hJ1 (kk.length - (i + 2)) _ _ _ (by omega) ⟨i + 2, rfl, rfl, rfl, hP, by simp [go_sem, g1, g2, g5, hw1, hw2, hi, hii, hii2, hi0, hi0i, hv'], by simp [go_sem, g1, g2, g5, hw1, hw2, hi, hii, hii2, hi0, hi0i, hv'], by simp [go_sem, g1, g2, g5, hw1, hw2, hi, hii, hii2, hi0, hi0i, hv'], by omega, by omega, hfs, hno2⟩
theorem trs_take {A : View} {b : Option Addr} {cap cap' i : Nat} {l : List Tr} (h : Trs A (.slice b l.length cap) l) (hi : i ≤ l.length) : Trs A (.slice b i cap') (l.take i) := by
  obtain ⟨bs, cp, f1, hel⟩ := h
  simp only [Value.slice.injEq, true_and] at f1
  obtain ⟨rfl, -⟩ := f1
  have hl : (l.take i).length = i := by rw [List.length_take]; omega
  refine ⟨_, cap', by rw [hl], fun j hj => ?_⟩
  rw [hl] at hj
  obtain ⟨a, c, ha, u, hc⟩ := hel j (by omega)
  exact ⟨a, c, ha, u, by rw [List.getElem_take]; exact hc⟩
theorem trs_drop {A : View} {a : Addr} {cap cap' i : Nat} {l : List Tr} (h : Trs A (.slice (some a) l.length cap) l) (hi : i ≤ l.length) : Trs A (.slice (some (a.add (i * 12))) (l.length - i) cap') (l.drop i) := by
  obtain ⟨bs, cp, f1, hel⟩ := h
  simp only [Value.slice.injEq, true_and] at f1
  obtain ⟨e1, -⟩ := f1
  have hl : (l.drop i).length = l.length - i := List.length_drop
  refine ⟨_, cap', by rw [hl], fun j hj => ?_⟩
  rw [hl] at hj
  obtain ⟨a', c, ha, u, hc⟩ := hel (i + j) (by omega)
  rw [← e1] at ha
  obtain rfl := Option.some.inj ha
  exact ⟨_, c, rfl, by rw [addr_add2, ← Nat.add_mul]; exact u, by rw [List.getElem_drop]; exact hc⟩
def LsR (t : Tr) (s : ByteArray) (c : Array Value) (A : View) : Prop := (fld t.kids s = none ∧ (∀ j, ¬ PlcAt t.kids s j) ∧ IsTr A t c) ∨ (∃ i, ∃ hi : i + 1 < t.kids.length, PlcAt t.kids s i ∧ fld t.kids s = some (t.kids[i + 1]) ∧ IsTr A (t.less i) c)
set_option maxRecDepth 20000 in
set_option maxHeartbeats 400000 in
theorem fieldLess30 (A : View) (t : Tr) (c : Array Value) (s : ByteArray) (hc : IsTr A t c) (hk : t.kind = 4) (hkl : t.kids.length ≤ 1000000) (hcap : ∀ bs m cap, c.toList[11]? = some (.slice bs m cap) → m ≤ cap) : VCalls Try.prog 30 #[.agg c, .string s] A fun r A' => ∃ c', r = .agg c' ∧ LsR t s c' A' ∧ A ≤ A' := by
  have hpl := fun (A1 : View) (h : A ≤ A1) => place14 A1 t c s (hc.le h) hk hkl
  obtain ⟨k, st, tag, val, an, h, ln, f, row, col, al, kk, rfl⟩ := t.ex
  replace hkl : kk.length ≤ 1000000 := hkl
  replace hk : k = 4 := hk
  subst hk
  have hc0 := hc
  obtain ⟨bb, bc0, rfl, hT⟩ := hc.open
  have hcap := hcap bb kk.length bc0 rfl
  refine xcalls Try.func30 rfl (by simp [Try.ntmps30]) ?_
  simp only [Try.f30]
  have hP : Priv A (addrs []) := Priv.nil A
  show xc _ _ _ _ _ _ (ov A [])
  refine xc_two fun N1 hN1 => ?_
  refine xc_reg1 2 rfl fun K hK => ?_
  simp only [show (List.range 2).map (·, true) = [(0, true), (1, true)] from rfl, rslv_cons, rslv_nil, List.getElem?_toArray, List.getElem?_cons_zero, List.getElem?_cons_succ, gres]
  refine seqX_hide2 fun R hR => ?_
  simp [go_sem]
  intro q2 hq2
  replace hP := hP.cons hq2
  clear hq2
  refine hR _ _ _ ?_; clear hR R
  refine seqX_hide2 fun R hR => ?_
  simp [go_sem]
  intro q4 hq4
  replace hP := hP.cons hq4
  clear hq4
  have d42 : q4 ≠ q2 := (hP.ne q2 (by simp [addrs])).1
  have d24 : q2 ≠ q4 := (hP.ne q2 (by simp [addrs])).2
  refine hR _ _ _ ?_; clear hR R
  rw [seqX_nil]
  refine hK _ _ _ ?_; clear hK K
  refine hN1 _ _ _ ?_
  refine xc_two fun N2 hN2 => ?_
  refine xc_reg1 4 rfl fun K hK => ?_
  simp only [show (List.range 4).map (·, true) = [(0, true), (1, true), (2, true), (3, true)] from rfl, rslv_cons, rslv_nil, List.getElem?_toArray, List.getElem?_cons_zero, List.getElem?_cons_succ, gres]
  iterate 2 (refine seqX_hide2 fun R hR => ?_; simp [go_sem, d42, d24]; refine hR _ _ _ ?_; clear hR R)
  refine seqX_hide2 fun R hR => ?_
  simp [go_sem, d42, d24]
  refine call_ov hP (hpl A (View.le_refl _)) ?_
  clear hP
  rintro r A2 ⟨hpr, hA2⟩ hP
  replace hpr : PlcR kk s r := hpr
  rcases hpr with ⟨hf, hno, rfl⟩ | ⟨i, hi, hpi, hf, rfl⟩
  · skip
    refine hR _ _ _ ?_; clear hR R
    (refine seqX_hide2 fun R hR => ?_; simp [go_sem, d42, d24]; refine hR _ _ _ ?_; clear hR R)
    rw [seqX_nil]
    refine hK _ _ _ ?_; clear hK K
    refine hN2 _ _ _ ?_
    refine xc_two fun N3 hN3 => ?_
    refine xc_two fun N4 hN4 => ?_
    refine xc_reg1 2 rfl fun K hK => ?_
    simp only [show (List.range 2).map (·, true) = [(0, true), (1, true)] from rfl, rslv_cons, rslv_nil, List.getElem?_toArray, List.getElem?_cons_zero, List.getElem?_cons_succ, gres]
    iterate 2 (refine seqX_hide2 fun R hR => ?_; simp [go_sem, d42, d24]; refine hR _ _ _ ?_; clear hR R)
    rw [seqX_nil]
    refine hK _ _ _ ?_; clear hK K
    refine hN4 _ _ _ ?_
    refine xc_iftrue (by simp [go_sem, d42, d24]) ?_
    refine xc_two fun N5 hN5 => ?_
    refine xc_reg1 2 rfl fun K hK => ?_
    simp only [show (List.range 2).map (·, true) = [(0, true), (1, true)] from rfl, rslv_cons, rslv_nil, List.getElem?_toArray, List.getElem?_cons_zero, List.getElem?_cons_succ, gres]
    (refine seqX_hide2 fun R hR => ?_; simp [go_sem, d42, d24]; refine hR _ _ _ ?_; clear hR R)
    refine seqX_hide2 fun R hR => ?_
    simp [go_sem, d42, d24]
    refine hR _ _ _ ?_; clear hR R
    rw [seqX_nil]
    refine hK _ _ _ ?_; clear hK K
    refine hN5 _ _ _ ?_
    simp [go_sem, d42, d24]
    refine ⟨.inl ⟨hf, hno, hc0.le (View.le_trans hA2 ?_)⟩, View.le_trans hA2 ?_⟩
    · exact le_ov hP
    · exact le_ov hP
  obtain ⟨a, rfl⟩ : ∃ a, bb = some a := by
    obtain ⟨bs', cap', f1, hel⟩ := hT
    obtain ⟨a1, _, ha, -, -⟩ := hel i (by omega)
    simp only [Value.slice.injEq, true_and] at f1
    exact ⟨a1, by rw [f1.1]; exact ha⟩
  have g1 : ¬ (i : Int) < 0 := by omega
  have w2 : IntKind.i64.wrap ((i : Int) + 2) = ((i + 2 : Nat) : Int) := by rw [wrap_in (by omega) (by omega)]; omega
  have g2 : (i : Int) ≤ bc0 := by omega
  have g3 : i ≤ bc0 := by omega
  have g4 : ¬ bc0 = 0 := by omega
  have g5 : ((i + 2 : Nat) : Int) ≤ kk.length := by omega
  have g6 : (0 : Int) ≤ (i : Int) + 2 := by omega
  have g7 : (i : Int) + 2 ≤ kk.length := by omega
  have g8 : ((i : Int) + 2).toNat = i + 2 := by omega
  have g9 : i + 2 ≤ kk.length := by omega
  refine hR _ _ _ ?_; clear hR R
  (refine seqX_hide2 fun R hR => ?_; simp [go_sem, d42, d24, g1, w2, g2, g3, g4, g5, g6, g7, g8, g9, xslice]; refine hR _ _ _ ?_; clear hR R)
  rw [seqX_nil]
  refine hK _ _ _ ?_; clear hK K
  refine hN2 _ _ _ ?_
  refine xc_two fun N3 hN3 => ?_
  refine xc_two fun N4 hN4 => ?_
  refine xc_reg1 2 rfl fun K hK => ?_
  simp only [show (List.range 2).map (·, true) = [(0, true), (1, true)] from rfl, rslv_cons, rslv_nil, List.getElem?_toArray, List.getElem?_cons_zero, List.getElem?_cons_succ, gres]
  iterate 2 (refine seqX_hide2 fun R hR => ?_; simp [go_sem, d42, d24, g1, w2, g2, g3, g4, g5, g6, g7, g8, g9, xslice]; refine hR _ _ _ ?_; clear hR R)
  rw [seqX_nil]
  refine hK _ _ _ ?_; clear hK K
  refine hN4 _ _ _ ?_
  refine xc_iffalse (by simp [go_sem, d42, d24, g1, w2, g2, g3, g4, g5, g6, g7, g8, g9, xslice]) ?_
  refine hN3 _ _ _ ?_
  refine xc_two fun N5 hN5 => ?_
  refine xc_reg1 3 rfl fun K hK => ?_
  simp only [show (List.range 3).map (·, true) = [(0, true), (1, true), (2, true)] from rfl, rslv_cons, rslv_nil, List.getElem?_toArray, List.getElem?_cons_zero, List.getElem?_cons_succ, gres]
  (refine seqX_hide2 fun R hR => ?_; simp [go_sem, d42, d24, g1, w2, g2, g3, g4, g5, g6, g7, g8, g9, xslice]; refine hR _ _ _ ?_; clear hR R)
  refine seqX_hide2 fun R hR => ?_
  simp [go_sem, d42, d24, g1, w2, g2, g3, g4, g5, g6, g7, g8, g9, xslice]
  intro q6 hq6
  replace hP := hP.cons hq6
  clear hq6
  have d64 : q6 ≠ q4 := (hP.ne q4 (by simp [addrs])).1
  have d46 : q4 ≠ q6 := (hP.ne q4 (by simp [addrs])).2
  have d62 : q6 ≠ q2 := (hP.ne q2 (by simp [addrs])).1
  have d26 : q2 ≠ q6 := (hP.ne q2 (by simp [addrs])).2
  refine hR _ _ _ ?_; clear hR R
  refine seqX_hide2 fun R hR => ?_
  simp [go_sem, d42, d24, g1, w2, g2, g3, g4, g5, g6, g7, g8, g9, xslice, d64, d46, d62, d26]
  refine hR _ _ _ ?_; clear hR R
  rw [seqX_nil]
  refine hK _ _ _ ?_; clear hK K
  refine hN5 _ _ _ ?_
  refine xc_two fun N6 hN6 => ?_
  rw [xc_draws]
  refine vdrawK [(0, true), (1, true), (2, true), (3, true), (4, true), (5, true), (6, true), (7, true), (8, true), (9, true), (10, true), (11, false), (12, true), (13, false)] (ov A2 [(q6, .cells (trc 4 st tag val an h ln f row col al (.slice (some a) kk.length bc0)) 24 (0, 0)), (q4, .cells (trc 0 0 ⟨#[]⟩ ⟨#[]⟩ ⟨#[]⟩ ⟨#[]⟩ ⟨#[]⟩ ⟨#[]⟩ 0 0 0 (.slice none 0 0)) 24 (0, 0)), (q2, .cells (trc 4 st tag val an h ln f row col al (.slice (some a) kk.length bc0)) 24 (0, 0))]) mixed (by kernel_rfl) (View.le_refl _) fun K hK => ?_
  simp only [rslv_cons, rslv_nil, List.getElem?_toArray, List.getElem?_cons_zero, List.getElem?_cons_succ, gres]
  refine seqR_hide fun R hR => ?_
  simp [go_sem, d42, d24, g1, w2, g2, g3, g4, g5, g6, g7, g8, g9, xslice, d64, d46, d62, d26]
  intro q14 hq14
  replace hP := hP.cons hq14
  clear hq14
  have d146 : q14 ≠ q6 := (hP.ne q6 (by simp [addrs])).1
  have d614 : q6 ≠ q14 := (hP.ne q6 (by simp [addrs])).2
  have d144 : q14 ≠ q4 := (hP.ne q4 (by simp [addrs])).1
  have d414 : q4 ≠ q14 := (hP.ne q4 (by simp [addrs])).2
  have d142 : q14 ≠ q2 := (hP.ne q2 (by simp [addrs])).1
  have d214 : q2 ≠ q14 := (hP.ne q2 (by simp [addrs])).2
  refine hR _ _ _ ?_; clear hR R
  iterate 4 (refine seqR_hide fun R hR => ?_; simp [go_sem, d42, d24, g1, w2, g2, g3, g4, g5, g6, g7, g8, g9, xslice, d64, d46, d62, d26, d146, d614, d144, d414, d142, d214]; refine hR _ _ _ ?_; clear hR R)
  refine seqR_hide fun R hR => ?_
  simp [go_sem, d42, d24, g1, w2, g2, g3, g4, g5, g6, g7, g8, g9, xslice, d64, d46, d62, d26, d146, d614, d144, d414, d142, d214]
  obtain ⟨eq14, hPn, nq14⟩ := sinkI (A := A2) (L := [(q14, .cells #[] 24 (0, 0)), (q6, .cells (trc 4 st tag val an h ln f row col al (.slice (some a) kk.length bc0)) 24 (0, 0)), (q4, .cells (trc 0 0 ⟨#[]⟩ ⟨#[]⟩ ⟨#[]⟩ ⟨#[]⟩ ⟨#[]⟩ ⟨#[]⟩ 0 0 0 (.slice none 0 0)) 24 (0, 0)), (q2, .cells (trc 4 st tag val an h ln f row col al (.slice (some a) kk.length bc0)) 24 (0, 0))]) 0 hP rfl
  rw [eq14]
  clear eq14 hP; have hP := hPn; clear hPn
  simp only [List.eraseIdx_cons_zero, List.eraseIdx_cons_succ, addrs_cons, addrs_nil] at hP ⊢
  have lq14 : A2 ≤ A2.set q14 (.cells #[] 24 (0, 0)) := le_set nq14
  have hOt := own_emptyk nq14 24 12
  generalize A2.set q14 (.cells #[] 24 (0, 0)) = D0 at hP hOt lq14 ⊢
  have t1 := trs_take (cap' := bc0) hT (show i ≤ kk.length by omega)
  have t2 := trs_drop (cap' := bc0 - (i + 2)) hT g9
  obtain ⟨cs1, hcs1, hcl1, hcp1⟩ := trs_parts t1
  obtain ⟨cs2, hcs2, hcl2, hcp2⟩ := trs_parts t2
  have e1 : (kk.take i).length = i := by rw [List.length_take]; omega
  have e2 : (kk.drop (i + 2)).length = kk.length - (i + 2) := List.length_drop
  refine append_ov (cs := cs1) (m := i) hP ti22 ti22 (fun k => by simp) ti24 rfl (by decide) hOt lq14 ?_ (by simp [isStr]) (ones_parts hcl1 hcp1) (by omega) ?_
  · have hh := hcs1 Try.prog
    rw [e1] at hh
    refine appended_le (View.le_trans hA2 (View.le_trans lq14 ?_)) hh
    exact le_ov hP
  clear hP
  rintro v1 D1 hD1 hO1 - hP
  rw [Nat.zero_add, List.nil_append] at hO1
  simp only [addrs_cons, addrs_nil] at hP
  obtain ⟨vb, vc, rfl⟩ := hO1.shape
  refine ⟨ov_mono hD1, hR _ _ _ ?_⟩; clear hR R
  iterate 5 (refine seqR_hide fun R hR => ?_; simp [go_sem, d42, d24, g1, w2, g2, g3, g4, g5, g6, g7, g8, g9, xslice, d64, d46, d62, d26, d146, d614, d144, d414, d142, d214]; refine hR _ _ _ ?_; clear hR R)
  refine seqR_hide fun R hR => ?_
  simp [go_sem, d42, d24, g1, w2, g2, g3, g4, g5, g6, g7, g8, g9, xslice, d64, d46, d62, d26, d146, d614, d144, d414, d142, d214]
  refine append_ov (cs := cs2) (m := kk.length - (i + 2)) hP ti22 ti22 (fun k => by simp) ti24 rfl (by decide) hO1 hD1 ?_ (by simp [isStr]) (ones_parts hcl2 hcp2) (by omega) ?_
  · have hh := hcs2 Try.prog
    rw [e2] at hh
    by_cases hb : bc0 = i + 2
    · have e3 : kk.length - (i + 2) = 0 := by omega
      obtain rfl : cs2 = [] := List.eq_nil_of_length_eq_zero (by rw [hcl2, e2, e3])
      rw [if_pos hb, e3]
      simp [appended, View.cells?]
    · rw [if_neg hb]
      refine appended_le (View.le_trans hA2 (View.le_trans hD1 ?_)) hh
      exact le_ov hP
  clear hP
  rintro v2 D2 hD2 hO2 - hP
  simp only [addrs_cons, addrs_nil] at hP
  obtain ⟨wb, wc, rfl⟩ := hO2.shape
  refine hR _ _ _ ?_; clear hR R
  (refine seqR_hide fun R hR => ?_; simp [go_sem, d42, d24, g1, w2, g2, g3, g4, g5, g6, g7, g8, g9, xslice, d64, d46, d62, d26, d146, d614, d144, d414, d142, d214]; refine hR _ _ _ ?_; clear hR R)
  refine seqR_hide fun R hR => ?_
  simp [go_sem, d42, d24, g1, w2, g2, g3, g4, g5, g6, g7, g8, g9, xslice, d64, d46, d62, d26, d146, d614, d144, d414, d142, d214]
  refine hR _ _ _ ?_; clear hR R
  rw [seqR_nil]
  refine hK _ _ _ ?_; clear hK K
  refine hN6 _ _ _ ?_
  refine xc_two fun N7 hN7 => ?_
  refine xc_reg1 2 rfl fun K hK => ?_
  simp only [show (List.range 2).map (·, true) = [(0, true), (1, true)] from rfl, rslv_cons, rslv_nil, List.getElem?_toArray, List.getElem?_cons_zero, List.getElem?_cons_succ, gres]
  (refine seqX_hide2 fun R hR => ?_; simp [go_sem, d42, d24, g1, w2, g2, g3, g4, g5, g6, g7, g8, g9, xslice, d64, d46, d62, d26, d146, d614, d144, d414, d142, d214]; refine hR _ _ _ ?_; clear hR R)
  refine seqX_hide2 fun R hR => ?_
  simp [go_sem, d42, d24, g1, w2, g2, g3, g4, g5, g6, g7, g8, g9, xslice, d64, d46, d62, d26, d146, d614, d144, d414, d142, d214]
  refine hR _ _ _ ?_; clear hR R
  rw [seqX_nil]
  refine hK _ _ _ ?_; clear hK K
  refine hN7 _ _ _ ?_
  simp [go_sem, d42, d24, g1, w2, g2, g3, g4, g5, g6, g7, g8, g9, xslice, d64, d46, d62, d26, d146, d614, d144, d414, d142, d214]
  have hp2 : Parts 12 (cs1 ++ cs2) (less kk i) (IsTr A) := hcp1.app hcp2 hcl1
  have hln : i + (kk.length - (i + 2)) = (less kk i).length := by rw [less_len kk i hi]; omega
  refine ⟨.inr ⟨i, hi, hpi, hf, IsTr.le (A := D2) ?_ _ _ (IsTr.of (hO2.elems2 hln (hp2.le fun _ _ g => IsTr.le (View.le_trans hA2 hD2) _ _ g)))⟩, View.le_trans hA2 (View.le_trans hD2 ?_)⟩
  · exact le_ov hP
  · exact le_ov hP
end Go.Proofs.YtpinamipjddobaaV

/- Trees: spec.Place, Put, FieldSet. -/
import Derived.Test.YthjbgpmcfcijgaaKL
namespace Go.Proofs.YthjbgpmcfcijgaaV
open Go.RowKit
set_option linter.unusedSimpArgs false
set_option linter.unusedVariables false
theorem addr_add2 (a : Addr) (i j : Nat) : (a.add i).add j = a.add (i + j) := by
  obtain ⟨b, o, s⟩ := a
  unfold Addr.add
  by_cases hi : i = 0
  · subst hi
    rw [if_pos rfl, Nat.zero_add]
  · by_cases hj : j = 0
    · subst hj
      rw [if_neg hi, if_pos rfl, Nat.add_zero, if_neg hi]
    · rw [if_neg hi, if_neg hj, if_neg (by omega), Nat.add_assoc]
theorem cells_partk2 {A : View} {k N i : Nat} {a : Addr} {vs : List Value} (h : A.cells? a 0 N = some vs) (hi : i * k + k ≤ N) : A.cells? (a.add (i * k)) 0 k = some ((vs.drop (i * k)).take k) := by
  have hl := cells?_length _ _ _ h
  refine cells?_intro _ _ _ (by rw [List.length_take, List.length_drop]; omega) fun j hj => ?_
  have := cells?_get _ _ _ h (i * k + j) (by omega)
  rw [Nat.zero_add] at this
  rw [addr_add2, Nat.zero_add, this, List.getElem?_take_of_lt hj, List.getElem?_drop]
/-- All cells of a slice of structs. -/
theorem Elems.all {A : View} {k : Nat} {v : Value} {α : Type} {l : List α} {Q : View → α → Array Value → Prop} (h : Elems A k v l Q) (hk : 0 < k) : ∃ cs, (∀ P : Program, appended P A k v = some (cs, l.length)) ∧ ∀ j (hj : j < l.length), ∃ c : Array Value, (cs.drop (j * k)).take k = c.toList ∧ Q A l[j] c := by
  obtain ⟨bs, cap, rfl, hel⟩ := h
  by_cases h0 : l = []
  · subst h0
    refine ⟨[], fun P => ?_, fun j hj => absurd hj (Nat.not_lt_zero _)⟩
    cases bs with
    | none => rfl
    | some a => simp [appended, View.cells?]
  have hl : 0 < l.length := List.length_pos_iff.2 h0
  obtain ⟨a, c0, rfl, -, -⟩ := hel 0 hl
  have each : ∀ j, j < l.length * k → ∃ u, A.cell? (a.add j) = some u := fun j hj => by
    have h1 : j / k < l.length := (Nat.div_lt_iff_lt_mul hk).2 hj
    obtain ⟨a', c, ha, hc, -⟩ := hel (j / k) h1
    obtain rfl := Option.some.inj ha
    have h2 := cells?_get _ _ _ hc (j % k) (Nat.mod_lt _ hk)
    have h3 : j / k * k + j % k = j := by rw [Nat.mul_comm]; exact Nat.div_add_mod j k
    rw [addr_add2, Nat.zero_add, h3] at h2
    have h4 := cells?_length _ _ _ hc
    rw [h2]
    exact ⟨c.toList[j % k]'(by rw [h4]; exact Nat.mod_lt _ hk), List.getElem?_eq_getElem _⟩
  obtain ⟨us, hul, hus⟩ := choose_list (l.length * k) (fun j u => A.cell? (a.add j) = some u) each
  have hall : A.cells? a 0 (l.length * k) = some us := by
    refine cells?_intro _ _ _ hul fun j hj => ?_
    rw [Nat.zero_add, List.getElem?_eq_getElem (by omega)]
    exact hus j _ (List.getElem?_eq_getElem (by omega))
  refine ⟨us, fun P => appended_row (.inl ⟨a, cap, rfl, hall⟩), fun j hj => ?_⟩
  obtain ⟨a', c, ha, hc, hq⟩ := hel j hj
  obtain rfl := Option.some.inj ha
  have h5 : j * k + k ≤ l.length * k := by rw [← Nat.succ_mul]; exact Nat.mul_le_mul_right _ hj
  have h6 := cells_partk2 hall h5
  rw [hc] at h6
  exact ⟨c, (Option.some.inj h6).symm, hq⟩
theorem own_emptyk {A : View} {q : Nat} (hq : A q = none) (e : TypeId) (k : Nat) : Own A (A.set q (.cells #[] e (0, 0))) e k (.slice (some ⟨q, 0, none⟩) 0 0) 0 [] := by
  refine ⟨?_, .inr ⟨_, _, rfl, hq⟩⟩
  simp [sliceIn, set_at]
  rfl
/-- A list of cells, each of which stands alone. -/
theorem ones_parts {A : View} {l : List Tr} {cs : List Value} (hl : cs.length = l.length * 12) (hp : Parts 12 cs l (IsTr A)) : ∀ v ∈ cs, one v = true := by
  intro v hv
  obtain ⟨i, hi, rfl⟩ := List.getElem_of_mem hv
  have h1 : i / 12 < l.length := by omega
  obtain ⟨c, hc, hz, hq⟩ := hp (i / 12) h1
  have h2 := congrArg (fun x => x[i % 12]?) hc
  replace h2 : ((cs.drop (i / 12 * 12)).take 12)[i % 12]? = c.toList[i % 12]? := h2
  rw [List.getElem?_take_of_lt (Nat.mod_lt _ (by omega)), List.getElem?_drop, show i / 12 * 12 + i % 12 = i by omega, List.getElem?_eq_getElem hi] at h2
  have h3 := hq.ones
  unfold ones at h3
  exact List.all_eq_true.1 h3 _ (List.mem_of_getElem? h2.symm)
set_option maxRecDepth 20000 in
theorem place42 (A : View) (t : Tr) (c : Array Value) (s : ByteArray) (hc : IsTr A t c) (hkl : t.kids.length ≤ 1000000) (hn : fld t.kids s = none) : VCalls Try.prog 42 #[.agg c, .string s] A fun r A' => r = .int .i64 (-1) ∧ A ≤ A' := by
  obtain ⟨k, st, tag, val, an, h, ln, f, row, col, al, kk, rfl⟩ := t.ex
  replace hkl : kk.length ≤ 1000000 := hkl
  replace hn : fld kk s = none := hn
  obtain ⟨bb, bc0, rfl, hT⟩ := hc.open
  refine xcalls Try.func42 rfl (by simp [Try.ntmps42]) ?_
  simp only [Try.f42]
  have hP : Priv A (addrs []) := Priv.nil A
  show xc _ _ _ _ _ _ (ov A [])
  refine xc_two fun N1 hN1 => ?_
  refine xc_reg1 2 rfl fun K hK => ?_
  simp only [show (List.range 2).map (·, true) = [(0, true), (1, true)] from rfl, rslv_cons, rslv_nil, List.getElem?_toArray, List.getElem?_cons_zero, List.getElem?_cons_succ, gres]
  refine seqX_hide2 fun R hR => ?_
  simp [go_sem]
  intro q2 hq2
  replace hP := hP.cons hq2
  clear hq2
  refine hR _ _ _ ?_; clear hR R
  (refine seqX_hide2 fun R hR => ?_; simp [go_sem]; refine hR _ _ _ ?_; clear hR R)
  rw [seqX_nil]
  refine hK _ _ _ ?_; clear hK K
  refine hN1 _ _ _ ?_
  refine xc_two fun N2 hN2 => ?_
  refine xc_two fun N3 hN3 => ?_
  refine xc_reg1 1 rfl fun K hK => ?_
  simp only [show (List.range 1).map (·, true) = [(0, true)] from rfl, rslv_cons, rslv_nil, List.getElem?_toArray, List.getElem?_cons_zero, List.getElem?_cons_succ, gres]
  (refine seqX_hide2 fun R hR => ?_; simp [go_sem]; refine hR _ _ _ ?_; clear hR R)
  rw [seqX_nil]
  refine hK _ _ _ ?_; clear hK K
  refine hN3 _ _ _ ?_
  rw [xc_block]
  rw [xc_loop]
  refine vloopK (fun k' e ds A' => ∃ (i : Nat), k' = kk.length - i ∧ ds = [] ∧ A' = ov A [(q2, .cells (trc k st tag val an h ln f row col al (.slice bb kk.length bc0)) 31 (0, 0))] ∧ Priv A [q2] ∧ e 1 = .string s ∧ e 2 = .pointer (some ⟨q2, 0, none⟩) ∧ e 5 = .int .i64 i ∧ (i ≤ kk.length + 1) ∧ (fld (kk.drop i) s = none)) _ ⟨0, rfl, rfl, rfl, hP, by simp [go_sem], by simp [go_sem], by simp [go_sem], by omega, hn⟩ ?_
  clear hP
  rintro k' e ds _ ⟨i, rfl, rfl, rfl, hP, g1, g2, g5, hil, hfd⟩ J1 X1 hJ1 hX1
  refine xc_sound _ ?_
  have hw1 : IntKind.i64.wrap ((i : Int) + 1) = ((i + 1 : Nat) : Int) := by rw [wrap_in (by omega) (by omega)]; omega
  have hw2 : IntKind.i64.wrap ((i : Int) + 2) = ((i + 2 : Nat) : Int) := by rw [wrap_in (by omega) (by omega)]; omega
  by_cases hk : k = 4
  rotate_left
  · have hkb : (k == 4) = false := beq_eq_false_iff_ne.2 hk
    refine xc_two fun N4 hN4 => ?_
    refine xc_two fun N5 hN5 => ?_
    refine xc_reg1 11 rfl fun K hK => ?_
    simp only [show (List.range 11).map (·, true) = [(0, true), (1, true), (2, true), (3, true), (4, true), (5, true), (6, true), (7, true), (8, true), (9, true), (10, true)] from rfl, rslv_cons, rslv_nil, List.getElem?_toArray, List.getElem?_cons_zero, List.getElem?_cons_succ, gres]
    iterate 11 (refine seqX_hide2 fun R hR => ?_; simp [go_sem, g1, g2, g5, hw1, hw2, hk, hkb]; refine hR _ _ _ ?_; clear hR R)
    rw [seqX_nil]
    refine hK _ _ _ ?_; clear hK K
    refine hN5 _ _ _ ?_
    refine xc_iffalse (by simp [go_sem, g1, g2, g5, hw1, hw2, hk, hkb]) ?_
    refine hX1 _ _ _ _ ?_
    refine hN2 _ _ _ ?_
    refine xc_two fun N6 hN6 => ?_
    refine xc_reg1 1 rfl fun K hK => ?_
    simp only [show (List.range 1).map (·, true) = [(0, true)] from rfl, rslv_cons, rslv_nil, List.getElem?_toArray, List.getElem?_cons_zero, List.getElem?_cons_succ, gres]
    (refine seqX_hide2 fun R hR => ?_; simp [go_sem, g1, g2, g5, hw1, hw2, hk, hkb]; refine hR _ _ _ ?_; clear hR R)
    rw [seqX_nil]
    refine hK _ _ _ ?_; clear hK K
    refine hN6 _ _ _ ?_
    simp [go_sem, g1, g2, g5, hw1, hw2, hk, hkb]
    exact le_ov hP
  subst hk
  by_cases hi : i + 1 < kk.length
  rotate_left
  · have hii : ¬ (i : Int) + 1 < kk.length := by omega
    have hii2 : ¬ (((i + 1 : Nat) : Int) < kk.length) := by omega
    refine xc_two fun N4 hN4 => ?_
    refine xc_two fun N5 hN5 => ?_
    refine xc_reg1 11 rfl fun K hK => ?_
    simp only [show (List.range 11).map (·, true) = [(0, true), (1, true), (2, true), (3, true), (4, true), (5, true), (6, true), (7, true), (8, true), (9, true), (10, true)] from rfl, rslv_cons, rslv_nil, List.getElem?_toArray, List.getElem?_cons_zero, List.getElem?_cons_succ, gres]
    iterate 11 (refine seqX_hide2 fun R hR => ?_; simp [go_sem, g1, g2, g5, hw1, hw2, hi, hii, hii2]; refine hR _ _ _ ?_; clear hR R)
    rw [seqX_nil]
    refine hK _ _ _ ?_; clear hK K
    refine hN5 _ _ _ ?_
    refine xc_iffalse (by simp [go_sem, g1, g2, g5, hw1, hw2, hi, hii, hii2]) ?_
    refine hX1 _ _ _ _ ?_
    refine hN2 _ _ _ ?_
    refine xc_two fun N6 hN6 => ?_
    refine xc_reg1 1 rfl fun K hK => ?_
    simp only [show (List.range 1).map (·, true) = [(0, true)] from rfl, rslv_cons, rslv_nil, List.getElem?_toArray, List.getElem?_cons_zero, List.getElem?_cons_succ, gres]
    (refine seqX_hide2 fun R hR => ?_; simp [go_sem, g1, g2, g5, hw1, hw2, hi, hii, hii2]; refine hR _ _ _ ?_; clear hR R)
    rw [seqX_nil]
    refine hK _ _ _ ?_; clear hK K
    refine hN6 _ _ _ ?_
    simp [go_sem, g1, g2, g5, hw1, hw2, hi, hii, hii2]
    exact le_ov hP
  have hii : (i : Int) + 1 < kk.length := by omega
  have hii2 : (((i + 1 : Nat) : Int) < kk.length) := by omega
  have hi0 : i < kk.length := by omega
  have hi0i : (i : Int) < kk.length := by omega
  have hfs := fld_step hi s
  rw [hfd] at hfs
  have hne : ¬ s = (kk[i]).value := fun e => by rw [if_pos e] at hfs; cases hfs
  rw [if_neg hne] at hfs
  have hv' : ¬ kk[i].value.toList = s.toList := fun e => bytes_ne hne e.symm
  obtain ⟨bs', cap', f1, hel2⟩ := hT
  simp only [Value.slice.injEq, true_and] at f1
  obtain ⟨rfl, rfl⟩ := f1
  obtain ⟨a2, c2, rfl, w2, hc2⟩ := hel2 i hi0
  obtain ⟨-, -, z3⟩ := hc2.at2
  have vj := cell_in w2 (by decide) (by decide) z3
  refine xc_two fun N4 hN4 => ?_
  refine xc_two fun N5 hN5 => ?_
  refine xc_reg1 11 rfl fun K hK => ?_
  simp only [show (List.range 11).map (·, true) = [(0, true), (1, true), (2, true), (3, true), (4, true), (5, true), (6, true), (7, true), (8, true), (9, true), (10, true)] from rfl, rslv_cons, rslv_nil, List.getElem?_toArray, List.getElem?_cons_zero, List.getElem?_cons_succ, gres]
  iterate 11 (refine seqX_hide2 fun R hR => ?_; simp [go_sem, g1, g2, g5, hw1, hw2, hi, hii, hii2, hi0, hi0i, bc hP vj, hv']; refine hR _ _ _ ?_; clear hR R)
  rw [seqX_nil]
  refine hK _ _ _ ?_; clear hK K
  refine hN5 _ _ _ ?_
  refine xc_iftrue (by simp [go_sem, g1, g2, g5, hw1, hw2, hi, hii, hii2, hi0, hi0i, bc hP vj, hv']) ?_
  refine hN4 _ _ _ ?_
  refine xc_two fun N6 hN6 => ?_
  rw [xc_block]
  refine xc_two fun N7 hN7 => ?_
  refine xc_reg1 8 rfl fun K hK => ?_
  simp only [show (List.range 8).map (·, true) = [(0, true), (1, true), (2, true), (3, true), (4, true), (5, true), (6, true), (7, true)] from rfl, rslv_cons, rslv_nil, List.getElem?_toArray, List.getElem?_cons_zero, List.getElem?_cons_succ, gres]
  iterate 8 (refine seqX_hide2 fun R hR => ?_; simp [go_sem, g1, g2, g5, hw1, hw2, hi, hii, hii2, hi0, hi0i, bc hP vj, hv']; refine hR _ _ _ ?_; clear hR R)
  rw [seqX_nil]
  refine hK _ _ _ ?_; clear hK K
  refine hN7 _ _ _ ?_
  refine xc_iffalse (by simp [go_sem, g1, g2, g5, hw1, hw2, hi, hii, hii2, hi0, hi0i, bc hP vj, hv']) ?_
  refine hN6 _ _ _ ?_
  refine xc_reg1 3 rfl fun K hK => ?_
  simp only [show (List.range 3).map (·, true) = [(0, true), (1, true), (2, true)] from rfl, rslv_cons, rslv_nil, List.getElem?_toArray, List.getElem?_cons_zero, List.getElem?_cons_succ, gres]
  iterate 3 (refine seqX_hide2 fun R hR => ?_; simp [go_sem, g1, g2, g5, hw1, hw2, hi, hii, hii2, hi0, hi0i, bc hP vj, hv']; refine hR _ _ _ ?_; clear hR R)
  rw [seqX_nil]
  refine hK _ _ _ ?_; clear hK K
  refine hJ1 (kk.length - (i + 2)) _ _ _ (by omega) ⟨i + 2, rfl, rfl, rfl, hP, by simp [go_sem, g1, g2, g5, hw1, hw2, hi, hii, hii2, hi0, hi0i, bc hP vj, hv'], by simp [go_sem, g1, g2, g5, hw1, hw2, hi, hii, hii2, hi0, hi0i, bc hP vj, hv'], by simp [go_sem, g1, g2, g5, hw1, hw2, hi, hii, hii2, hi0, hi0i, bc hP vj, hv'], by omega, hfs.symm⟩
theorem appended_le {P : Program} {A B : View} (h : A ≤ B) {k : Nat} {x : Value} {r : List Value × Nat} (e : appended P A k x = some r) : appended P B k x = some r := by
  unfold appended at e ⊢
  split at e
  · obtain ⟨cs, h1, h2⟩ := Option.map_eq_some_iff.1 e
    simp only [le_cells h _ _ _ h1, Option.map_some, h2]
  · exact e
  · exact e
  · cases e
theorem trs_parts {A : View} {v : Value} {l : List Tr} (h : Trs A v l) : ∃ cs, (∀ P : Program, appended P A 12 v = some (cs, l.length)) ∧ cs.length = l.length * 12 ∧ Parts 12 cs l (IsTr A) := by
  obtain ⟨bs, cap, rfl⟩ := h.slice
  obtain ⟨cs, h1, h2⟩ := h.all (by omega)
  refine ⟨cs, h1, ?_, fun j hj => ?_⟩
  · have := appended_length (h1 Try.prog) (fun s hs => by cases hs)
    exact this
  · obtain ⟨c, h3, h4⟩ := h2 j hj
    exact ⟨c, h3, h4.size, h4⟩
theorem Own.elems2 {D0 D : View} {t : TypeId} {k n : Nat} {v : Value} {α : Type} {l : List α} {cs : List Value} {Q : View → α → Array Value → Prop} (h : Own D0 D t k v n cs) (hn : n = l.length) (hp : Parts k cs l (Q D)) : Elems D k v l Q := by
  subst hn
  exact h.elems hp
/-- A mapping with one more field. -/
def Tr.put : Tr → Tr → Tr → Tr
  | .mk k st tag val an h l f row col al kids, x, y => .mk k st tag val an h l f row col al (kids ++ [x, y])
set_option maxRecDepth 20000 in
set_option maxHeartbeats 400000 in
theorem put41 (A : View) (t x y : Tr) (c cx cy : Array Value) (hc : IsTr A t c) (hx : IsTr A x cx) (hy : IsTr A y cy) (hkl : t.kids.length ≤ 1000000) : VCalls Try.prog 41 #[.agg c, .int .i64 (-1), .agg cx, .agg cy] A fun r A' => ∃ c', r = .agg c' ∧ IsTr A' (t.put x y) c' ∧ A ≤ A' := by
  obtain ⟨k, st, tag, val, an, h, ln, f, row, col, al, kk, rfl⟩ := t.ex
  replace hkl : kk.length ≤ 1000000 := hkl
  obtain ⟨bb, bc0, rfl, hT⟩ := hc.open
  have hx0 := hx
  have hy0 := hy
  obtain ⟨k1, st1, tag1, val1, an1, h1, l1, f1, row1, col1, al1, kk1, rfl⟩ := x.ex
  obtain ⟨xb, xcp, rfl, -⟩ := hx.open
  obtain ⟨k2, st2, tag2, val2, an2, h2, l2, f2, row2, col2, al2, kk2, rfl⟩ := y.ex
  obtain ⟨yb, ycp, rfl, -⟩ := hy.open
  refine xcalls Try.func41 rfl (by simp [Try.ntmps41]) ?_
  simp only [Try.f41]
  have hP : Priv A (addrs []) := Priv.nil A
  show xc _ _ _ _ _ _ (ov A [])
  refine xc_two fun N1 hN1 => ?_
  refine xc_reg1 4 rfl fun K hK => ?_
  simp only [show (List.range 4).map (·, true) = [(0, true), (1, true), (2, true), (3, true)] from rfl, rslv_cons, rslv_nil, List.getElem?_toArray, List.getElem?_cons_zero, List.getElem?_cons_succ, gres]
  refine seqX_hide2 fun R hR => ?_
  simp [go_sem]
  intro q4 hq4
  replace hP := hP.cons hq4
  clear hq4
  refine hR _ _ _ ?_; clear hR R
  refine seqX_hide2 fun R hR => ?_
  simp [go_sem]
  intro q6 hq6
  replace hP := hP.cons hq6
  clear hq6
  have d64 : q6 ≠ q4 := (hP.ne q4 (by simp [addrs])).1
  have d46 : q4 ≠ q6 := (hP.ne q4 (by simp [addrs])).2
  refine hR _ _ _ ?_; clear hR R
  refine seqX_hide2 fun R hR => ?_
  simp [go_sem, d64, d46]
  intro q7 hq7
  replace hP := hP.cons hq7
  clear hq7
  have d76 : q7 ≠ q6 := (hP.ne q6 (by simp [addrs])).1
  have d67 : q6 ≠ q7 := (hP.ne q6 (by simp [addrs])).2
  have d74 : q7 ≠ q4 := (hP.ne q4 (by simp [addrs])).1
  have d47 : q4 ≠ q7 := (hP.ne q4 (by simp [addrs])).2
  refine hR _ _ _ ?_; clear hR R
  refine seqX_hide2 fun R hR => ?_
  simp [go_sem, d64, d46, d76, d67, d74, d47]
  intro q8 hq8
  replace hP := hP.cons hq8
  clear hq8
  have d87 : q8 ≠ q7 := (hP.ne q7 (by simp [addrs])).1
  have d78 : q7 ≠ q8 := (hP.ne q7 (by simp [addrs])).2
  have d86 : q8 ≠ q6 := (hP.ne q6 (by simp [addrs])).1
  have d68 : q6 ≠ q8 := (hP.ne q6 (by simp [addrs])).2
  have d84 : q8 ≠ q4 := (hP.ne q4 (by simp [addrs])).1
  have d48 : q4 ≠ q8 := (hP.ne q4 (by simp [addrs])).2
  refine hR _ _ _ ?_; clear hR R
  rw [seqX_nil]
  refine hK _ _ _ ?_; clear hK K
  refine hN1 _ _ _ ?_
  refine xc_two fun N2 hN2 => ?_
  refine xc_reg1 3 rfl fun K hK => ?_
  simp only [show (List.range 3).map (·, true) = [(0, true), (1, true), (2, true)] from rfl, rslv_cons, rslv_nil, List.getElem?_toArray, List.getElem?_cons_zero, List.getElem?_cons_succ, gres]
  (refine seqX_hide2 fun R hR => ?_; simp [go_sem, d64, d46, d76, d67, d74, d47, d87, d78, d86, d68, d84, d48]; refine hR _ _ _ ?_; clear hR R)
  refine seqX_hide2 fun R hR => ?_
  simp [go_sem, d64, d46, d76, d67, d74, d47, d87, d78, d86, d68, d84, d48]
  intro q9 hq9
  replace hP := hP.cons hq9
  clear hq9
  have d98 : q9 ≠ q8 := (hP.ne q8 (by simp [addrs])).1
  have d89 : q8 ≠ q9 := (hP.ne q8 (by simp [addrs])).2
  have d97 : q9 ≠ q7 := (hP.ne q7 (by simp [addrs])).1
  have d79 : q7 ≠ q9 := (hP.ne q7 (by simp [addrs])).2
  have d96 : q9 ≠ q6 := (hP.ne q6 (by simp [addrs])).1
  have d69 : q6 ≠ q9 := (hP.ne q6 (by simp [addrs])).2
  have d94 : q9 ≠ q4 := (hP.ne q4 (by simp [addrs])).1
  have d49 : q4 ≠ q9 := (hP.ne q4 (by simp [addrs])).2
  refine hR _ _ _ ?_; clear hR R
  refine seqX_hide2 fun R hR => ?_
  simp [go_sem, d64, d46, d76, d67, d74, d47, d87, d78, d86, d68, d84, d48, d98, d89, d97, d79, d96, d69, d94, d49]
  refine hR _ _ _ ?_; clear hR R
  rw [seqX_nil]
  refine hK _ _ _ ?_; clear hK K
  refine hN2 _ _ _ ?_
  refine xc_two fun N3 hN3 => ?_
  refine xc_reg1 6 rfl fun K hK => ?_
  simp only [show (List.range 6).map (·, true) = [(0, true), (1, true), (2, true), (3, true), (4, true), (5, true)] from rfl, rslv_cons, rslv_nil, List.getElem?_toArray, List.getElem?_cons_zero, List.getElem?_cons_succ, gres]
  refine seqX_hide2 fun R hR => ?_
  simp [go_sem, d64, d46, d76, d67, d74, d47, d87, d78, d86, d68, d84, d48, d98, d89, d97, d79, d96, d69, d94, d49]
  intro q11 hq11
  replace hP := hP.cons hq11
  clear hq11
  have d119 : q11 ≠ q9 := (hP.ne q9 (by simp [addrs])).1
  have d911 : q9 ≠ q11 := (hP.ne q9 (by simp [addrs])).2
  have d118 : q11 ≠ q8 := (hP.ne q8 (by simp [addrs])).1
  have d811 : q8 ≠ q11 := (hP.ne q8 (by simp [addrs])).2
  have d117 : q11 ≠ q7 := (hP.ne q7 (by simp [addrs])).1
  have d711 : q7 ≠ q11 := (hP.ne q7 (by simp [addrs])).2
  have d116 : q11 ≠ q6 := (hP.ne q6 (by simp [addrs])).1
  have d611 : q6 ≠ q11 := (hP.ne q6 (by simp [addrs])).2
  have d114 : q11 ≠ q4 := (hP.ne q4 (by simp [addrs])).1
  have d411 : q4 ≠ q11 := (hP.ne q4 (by simp [addrs])).2
  refine hR _ _ _ ?_; clear hR R
  iterate 2 (refine seqX_hide2 fun R hR => ?_; simp [go_sem, d64, d46, d76, d67, d74, d47, d87, d78, d86, d68, d84, d48, d98, d89, d97, d79, d96, d69, d94, d49, d119, d911, d118, d811, d117, d711, d116, d611, d114, d411]; refine hR _ _ _ ?_; clear hR R)
  refine seqX_hide2 fun R hR => ?_
  simp [go_sem, d64, d46, d76, d67, d74, d47, d87, d78, d86, d68, d84, d48, d98, d89, d97, d79, d96, d69, d94, d49, d119, d911, d118, d811, d117, d711, d116, d611, d114, d411]
  obtain ⟨eq11, hPn, nq11⟩ := sinkI (A := A) (L := [(q11, .cells #[] 31 (0, 0)), (q9, .cells (trc k st tag val an h ln f row col al (.slice bb kk.length bc0)) 31 (0, 0)), (q8, .cells (trc 0 0 ⟨#[]⟩ ⟨#[]⟩ ⟨#[]⟩ ⟨#[]⟩ ⟨#[]⟩ ⟨#[]⟩ 0 0 0 (.slice none 0 0)) 31 (0, 0)), (q7, .cells (trc k2 st2 tag2 val2 an2 h2 l2 f2 row2 col2 al2 (.slice yb kk2.length ycp)) 31 (0, 0)), (q6, .cells (trc k1 st1 tag1 val1 an1 h1 l1 f1 row1 col1 al1 (.slice xb kk1.length xcp)) 31 (0, 0)), (q4, .cells (trc k st tag val an h ln f row col al (.slice bb kk.length bc0)) 31 (0, 0))]) 0 hP rfl
  rw [eq11]
  clear eq11 hP; have hP := hPn; clear hPn
  simp only [List.eraseIdx_cons_zero, List.eraseIdx_cons_succ, addrs_cons, addrs_nil] at hP ⊢
  have lq11 : A ≤ A.set q11 (.cells #[] 31 (0, 0)) := le_set nq11
  have hOt := own_emptyk nq11 31 12
  generalize A.set q11 (.cells #[] 31 (0, 0)) = D0 at hP hOt lq11 ⊢
  obtain ⟨cs, hcs, hcl, hcp⟩ := trs_parts hT
  refine append_ov (cs := cs) (m := kk.length) hP ti29 ti29 (fun k => by simp) ti31 rfl (by decide) hOt lq11 ?_ (by simp [isStr]) (ones_parts hcl hcp) (by omega) ?_
  · refine appended_le (View.le_trans lq11 ?_) (hcs _)
    exact le_ov hP
  clear hP
  rintro v1 D1 hD1 hO1 - hP
  rw [Nat.zero_add, List.nil_append] at hO1
  simp only [addrs_cons, addrs_nil] at hP
  obtain ⟨vb, vc, rfl⟩ := hO1.shape
  refine hR _ _ _ ?_; clear hR R
  (refine seqX_hide2 fun R hR => ?_; simp [go_sem, d64, d46, d76, d67, d74, d47, d87, d78, d86, d68, d84, d48, d98, d89, d97, d79, d96, d69, d94, d49, d119, d911, d118, d811, d117, d711, d116, d611, d114, d411]; refine hR _ _ _ ?_; clear hR R)
  refine seqX_hide2 fun R hR => ?_
  simp [go_sem, d64, d46, d76, d67, d74, d47, d87, d78, d86, d68, d84, d48, d98, d89, d97, d79, d96, d69, d94, d49, d119, d911, d118, d811, d117, d711, d116, d611, d114, d411]
  refine hR _ _ _ ?_; clear hR R
  rw [seqX_nil]
  refine hK _ _ _ ?_; clear hK K
  refine hN3 _ _ _ ?_
  refine xc_two fun N4 hN4 => ?_
  refine xc_two fun N5 hN5 => ?_
  refine xc_reg1 2 rfl fun K hK => ?_
  simp only [show (List.range 2).map (·, true) = [(0, true), (1, true)] from rfl, rslv_cons, rslv_nil, List.getElem?_toArray, List.getElem?_cons_zero, List.getElem?_cons_succ, gres]
  iterate 2 (refine seqX_hide2 fun R hR => ?_; simp [go_sem, d64, d46, d76, d67, d74, d47, d87, d78, d86, d68, d84, d48, d98, d89, d97, d79, d96, d69, d94, d49, d119, d911, d118, d811, d117, d711, d116, d611, d114, d411]; refine hR _ _ _ ?_; clear hR R)
  rw [seqX_nil]
  refine hK _ _ _ ?_; clear hK K
  refine hN5 _ _ _ ?_
  refine xc_iftrue (by simp [go_sem, d64, d46, d76, d67, d74, d47, d87, d78, d86, d68, d84, d48, d98, d89, d97, d79, d96, d69, d94, d49, d119, d911, d118, d811, d117, d711, d116, d611, d114, d411]) ?_
  refine xc_two fun N6 hN6 => ?_
  refine xc_reg1 8 rfl fun K hK => ?_
  simp only [show (List.range 8).map (·, true) = [(0, true), (1, true), (2, true), (3, true), (4, true), (5, true), (6, true), (7, true)] from rfl, rslv_cons, rslv_nil, List.getElem?_toArray, List.getElem?_cons_zero, List.getElem?_cons_succ, gres]
  iterate 4 (refine seqX_hide2 fun R hR => ?_; simp [go_sem, d64, d46, d76, d67, d74, d47, d87, d78, d86, d68, d84, d48, d98, d89, d97, d79, d96, d69, d94, d49, d119, d911, d118, d811, d117, d711, d116, d611, d114, d411]; refine hR _ _ _ ?_; clear hR R)
  refine seqX_hide2 fun R hR => ?_
  simp [go_sem, d64, d46, d76, d67, d74, d47, d87, d78, d86, d68, d84, d48, d98, d89, d97, d79, d96, d69, d94, d49, d119, d911, d118, d811, d117, d711, d116, d611, d114, d411]
  intro q22 hq22
  replace hP := hP.cons hq22
  clear hq22
  have d229 : q22 ≠ q9 := (hP.ne q9 (by simp [addrs])).1
  have d922 : q9 ≠ q22 := (hP.ne q9 (by simp [addrs])).2
  have d228 : q22 ≠ q8 := (hP.ne q8 (by simp [addrs])).1
  have d822 : q8 ≠ q22 := (hP.ne q8 (by simp [addrs])).2
  have d227 : q22 ≠ q7 := (hP.ne q7 (by simp [addrs])).1
  have d722 : q7 ≠ q22 := (hP.ne q7 (by simp [addrs])).2
  have d226 : q22 ≠ q6 := (hP.ne q6 (by simp [addrs])).1
  have d622 : q6 ≠ q22 := (hP.ne q6 (by simp [addrs])).2
  have d224 : q22 ≠ q4 := (hP.ne q4 (by simp [addrs])).1
  have d422 : q4 ≠ q22 := (hP.ne q4 (by simp [addrs])).2
  refine hR _ _ _ ?_; clear hR R
  refine seqX_hide2 fun R hR => ?_
  simp [go_sem, d64, d46, d76, d67, d74, d47, d87, d78, d86, d68, d84, d48, d98, d89, d97, d79, d96, d69, d94, d49, d119, d911, d118, d811, d117, d711, d116, d611, d114, d411, d229, d922, d228, d822, d227, d722, d226, d622, d224, d422]
  refine append_ov (m := 2) hP ti29 ti29 (fun k => by simp) ti31 rfl (by decide) hO1 hD1 (appended_block (ov_at_here _ _ _ _) rfl) (by simp [isStr]) (fun v hv => List.all_eq_true.1 (show List.all _ one = true from rfl) v hv) (by omega) ?_
  clear hP
  rintro v2 D2 hD2 hO2 - hP
  obtain ⟨wb, wc, rfl⟩ := hO2.shape
  refine hR _ _ _ ?_; clear hR R
  (refine seqX_hide2 fun R hR => ?_; simp [go_sem, d64, d46, d76, d67, d74, d47, d87, d78, d86, d68, d84, d48, d98, d89, d97, d79, d96, d69, d94, d49, d119, d911, d118, d811, d117, d711, d116, d611, d114, d411, d229, d922, d228, d822, d227, d722, d226, d622, d224, d422]; refine hR _ _ _ ?_; clear hR R)
  refine seqX_hide2 fun R hR => ?_
  simp [go_sem, d64, d46, d76, d67, d74, d47, d87, d78, d86, d68, d84, d48, d98, d89, d97, d79, d96, d69, d94, d49, d119, d911, d118, d811, d117, d711, d116, d611, d114, d411, d229, d922, d228, d822, d227, d722, d226, d622, d224, d422]
  refine hR _ _ _ ?_; clear hR R
  rw [seqX_nil]
  refine hK _ _ _ ?_; clear hK K
  refine hN6 _ _ _ ?_
  refine xc_two fun N7 hN7 => ?_
  refine xc_reg1 2 rfl fun K hK => ?_
  simp only [show (List.range 2).map (·, true) = [(0, true), (1, true)] from rfl, rslv_cons, rslv_nil, List.getElem?_toArray, List.getElem?_cons_zero, List.getElem?_cons_succ, gres]
  (refine seqX_hide2 fun R hR => ?_; simp [go_sem, d64, d46, d76, d67, d74, d47, d87, d78, d86, d68, d84, d48, d98, d89, d97, d79, d96, d69, d94, d49, d119, d911, d118, d811, d117, d711, d116, d611, d114, d411, d229, d922, d228, d822, d227, d722, d226, d622, d224, d422]; refine hR _ _ _ ?_; clear hR R)
  refine seqX_hide2 fun R hR => ?_
  simp [go_sem, d64, d46, d76, d67, d74, d47, d87, d78, d86, d68, d84, d48, d98, d89, d97, d79, d96, d69, d94, d49, d119, d911, d118, d811, d117, d711, d116, d611, d114, d411, d229, d922, d228, d822, d227, d722, d226, d622, d224, d422]
  refine hR _ _ _ ?_; clear hR R
  rw [seqX_nil]
  refine hK _ _ _ ?_; clear hK K
  refine hN7 _ _ _ ?_
  simp [go_sem, d64, d46, d76, d67, d74, d47, d87, d78, d86, d68, d84, d48, d98, d89, d97, d79, d96, d69, d94, d49, d119, d911, d118, d811, d117, d711, d116, d611, d114, d411, d229, d922, d228, d822, d227, d722, d226, d622, d224, d422]
  have hp2 := hcp.push2 (c1 := trc k1 st1 tag1 val1 an1 h1 l1 f1 row1 col1 al1 (.slice xb kk1.length xcp)) (c2 := trc k2 st2 tag2 val2 an2 h2 l2 f2 row2 col2 al2 (.slice yb kk2.length ycp)) hcl rfl rfl hx0 hy0 rfl
  have hkl2 : (kk ++ [Tr.mk k1 st1 tag1 val1 an1 h1 l1 f1 row1 col1 al1 kk1, Tr.mk k2 st2 tag2 val2 an2 h2 l2 f2 row2 col2 al2 kk2]).length = kk.length + 2 := by simp
  refine ⟨IsTr.le (A := D2) ?_ _ _ (IsTr.of (hO2.elems2 hkl2.symm (hp2.le fun _ _ g => IsTr.le hD2 _ _ g))), View.le_trans hD2 ?_⟩
  · exact le_ov hP
  · exact le_ov hP
set_option maxRecDepth 20000 in
theorem fieldSet22 (A : View) (t y : Tr) (c cy : Array Value) (s : ByteArray) (hc : IsTr A t c) (hy : IsTr A y cy) (hkl : t.kids.length ≤ 1000000) (hn : fld t.kids s = none) : VCalls Try.prog 22 #[.agg c, .string s, .agg cy] A fun r A' => ∃ c', r = .agg c' ∧ IsTr A' (t.put (tn s) y) c' ∧ A ≤ A' := by
  have hcz := hc.size
  have hco := hc.ones
  have hyz := hy.size
  have hyo := hy.ones
  refine xcalls Try.func22 rfl (by simp [Try.ntmps22]) ?_
  simp only [Try.f22]
  have hP : Priv A (addrs []) := Priv.nil A
  show xc _ _ _ _ _ _ (ov A [])
  refine xc_two fun N1 hN1 => ?_
  refine xc_reg1 3 rfl fun K hK => ?_
  simp only [show (List.range 3).map (·, true) = [(0, true), (1, true), (2, true)] from rfl, rslv_cons, rslv_nil, List.getElem?_toArray, List.getElem?_cons_zero, List.getElem?_cons_succ, gres]
  refine seqX_hide2 fun R hR => ?_
  simp [go_sem, hcz, hco, hyz, hyo]
  intro q3 hq3
  replace hP := hP.cons hq3
  clear hq3
  refine hR _ _ _ ?_; clear hR R
  refine seqX_hide2 fun R hR => ?_
  simp [go_sem, hcz, hco, hyz, hyo]
  intro q5 hq5
  replace hP := hP.cons hq5
  clear hq5
  have d53 : q5 ≠ q3 := (hP.ne q3 (by simp [addrs])).1
  have d35 : q3 ≠ q5 := (hP.ne q3 (by simp [addrs])).2
  refine hR _ _ _ ?_; clear hR R
  refine seqX_hide2 fun R hR => ?_
  simp [go_sem, hcz, hco, hyz, hyo, d53, d35]
  intro q6 hq6
  replace hP := hP.cons hq6
  clear hq6
  have d65 : q6 ≠ q5 := (hP.ne q5 (by simp [addrs])).1
  have d56 : q5 ≠ q6 := (hP.ne q5 (by simp [addrs])).2
  have d63 : q6 ≠ q3 := (hP.ne q3 (by simp [addrs])).1
  have d36 : q3 ≠ q6 := (hP.ne q3 (by simp [addrs])).2
  refine hR _ _ _ ?_; clear hR R
  rw [seqX_nil]
  refine hK _ _ _ ?_; clear hK K
  refine hN1 _ _ _ ?_
  refine xc_two fun N2 hN2 => ?_
  rw [xc_draws]
  refine vdrawK [(0, true), (1, true), (2, true), (3, true), (4, true), (5, true), (6, true), (7, false), (8, false)] (ov A [(q6, .cells (trc 0 0 ⟨#[]⟩ ⟨#[]⟩ ⟨#[]⟩ ⟨#[]⟩ ⟨#[]⟩ ⟨#[]⟩ 0 0 0 (.slice none 0 0)) 31 (0, 0)), (q5, .cells cy 31 (0, 0)), (q3, .cells c 31 (0, 0))]) mixed (by kernel_rfl) (View.le_refl _) fun K hK => ?_
  simp only [rslv_cons, rslv_nil, List.getElem?_toArray, List.getElem?_cons_zero, List.getElem?_cons_succ, gres]
  iterate 3 (refine seqR_hide fun R hR => ?_; simp [go_sem, hcz, hco, hyz, hyo, d53, d35, d65, d56, d63, d36]; refine hR _ _ _ ?_; clear hR R)
  refine seqR_hide fun R hR => ?_
  simp [go_sem, hcz, hco, hyz, hyo, d53, d35, d65, d56, d63, d36]
  refine call_ov hP (place42 A t c s hc hkl hn) ?_
  clear hP
  rintro _ A2 ⟨rfl, hA2⟩ hP
  refine ⟨ov_mono hA2, hR _ _ _ ?_⟩; clear hR R
  (refine seqR_hide fun R hR => ?_; simp [go_sem, hcz, hco, hyz, hyo, d53, d35, d65, d56, d63, d36]; refine hR _ _ _ ?_; clear hR R)
  refine seqR_hide fun R hR => ?_
  simp [go_sem, hcz, hco, hyz, hyo, d53, d35, d65, d56, d63, d36]
  refine call_ov hP (text16 A2 s) ?_
  clear hP
  rintro _ A3 ⟨rfl, hA3⟩ hP
  refine ⟨ov_mono (View.le_trans hA2 hA3), hR _ _ _ ?_⟩; clear hR R
  (refine seqR_hide fun R hR => ?_; simp [go_sem, hcz, hco, hyz, hyo, d53, d35, d65, d56, d63, d36]; refine hR _ _ _ ?_; clear hR R)
  refine seqR_hide fun R hR => ?_
  simp [go_sem, hcz, hco, hyz, hyo, d53, d35, d65, d56, d63, d36]
  have hA := View.le_trans hA2 hA3
  refine call_ov hP (put41 A3 t (tn s) y c _ cy (hc.le hA) (text_is A3 s) (hy.le hA) hkl) ?_
  clear hP
  rintro _ A4 ⟨c', rfl, hc', hA4⟩ hP
  have hcz' := hc'.size
  have hco' := hc'.ones
  refine hR _ _ _ ?_; clear hR R
  refine seqR_hide fun R hR => ?_
  simp [go_sem, hcz, hco, hyz, hyo, d53, d35, d65, d56, d63, d36, hcz', hco']
  refine hR _ _ _ ?_; clear hR R
  rw [seqR_nil]
  refine hK _ _ _ ?_; clear hK K
  refine hN2 _ _ _ ?_
  simp [go_sem, hcz, hco, hyz, hyo, d53, d35, d65, d56, d63, d36, hcz', hco']
  refine ⟨hc'.le ?_, View.le_trans hA (View.le_trans hA4 ?_)⟩
  · exact le_ov hP
  · exact le_ov hP
end Go.Proofs.YthjbgpmcfcijgaaV

/- Trees: law 11 (FnKeepLists). -/
import Derived.Test.YtpinamipjddobaaTC1
import Derived.Test.YtpinamipjddobaaTE1
namespace Go.Proofs.YtpinamipjddobaaV
open Go.RowKit
set_option linter.unusedSimpArgs false
set_option linter.unusedVariables false
theorem setK_kids2 (t : Tr) (l : List Tr) : (t.setK l).kids = l := by
  obtain ⟨k, st, tag, val, an, hh, ln, f, row, col, al, kids, rfl⟩ := t.ex
  rfl
theorem setT_app (f : Tr → Bool) (e l m : List Tr) : setT f e (l ++ m) = setT f e l ++ setT f e m := by
  rw [setT, List.flatMap_append, ← setT, ← setT]
theorem setT_split (f : Tr → Bool) (e l : List Tr) {i : Nat} (hi : i < l.length) : setT f e l = setT f e (l.take i) ++ ((if f l[i] then e else [l[i]]) ++ setT f e (l.drop (i + 1))) := by
  conv => lhs; rw [← List.take_append_drop i l, List.drop_eq_getElem_cons hi, setT_app]
  congr 1
theorem setT_at {f : Tr → Bool} {l : List Tr} {i : Nat} (hi : i < l.length) (h : f l[i] = false) : (setT f [] l)[(setT f [] (l.take i)).length]? = some l[i] := by
  rw [setT_split f [] l hi, h, if_neg (by decide), List.getElem?_append_right (Nat.le_refl _), Nat.sub_self]
  rfl
theorem setT1_len (f : Tr → Bool) (e : Tr) : ∀ l : List Tr, (setT f [e] l).length = l.length
  | [] => rfl
  | x :: l => by
    have := setT1_len f e l
    have hs : setT f [e] (x :: l) = (if f x then [e] else [x]) ++ setT f [e] l := by rw [setT, List.flatMap_cons, ← setT]
    rw [hs, List.length_append, this, List.length_cons]
    split <;> simp <;> omega
theorem resT_at {f : Tr → Bool} {e : Tr} {l : List Tr} {i : Nat} (hi : i < l.length) (h : f l[i] = false) : (resT f [e] l)[i]? = some l[i] := by
  have h1 : (setT f [e] l)[i]? = some l[i] := by
    rw [setT_split f [e] l hi, h, if_neg (by decide)]
    have hl : (setT f [e] (l.take i)).length = i := by rw [setT1_len, List.length_take, Nat.min_eq_left (by omega)]
    rw [List.getElem?_append_right (by omega), hl, Nat.sub_self]
    rfl
  rw [resT]
  split
  · exact h1
  · rw [List.getElem?_append_left (by rw [setT1_len]; exact hi)]
    exact h1
theorem resT_len (f : Tr → Bool) (e : Tr) (l : List Tr) : l.length ≤ (resT f [e] l).length := by
  rw [resT]
  split
  · rw [setT1_len]; omega
  · rw [List.length_append, setT1_len]; omega
theorem trs_at {A : View} {b : Option Addr} {n c : Nat} {l : List Tr} {x : Tr} {j : Nat} (h : Trs A (.slice b n c) l) (hx : l[j]? = some x) : ∃ a cx, b = some a ∧ A.cells? (a.add (j * 12)) 0 12 = some cx.toList ∧ IsTr A x cx ∧ j < n := by
  obtain ⟨bs, cap, f1, hel⟩ := h
  simp only [Value.slice.injEq] at f1
  obtain ⟨rfl, rfl, rfl⟩ := f1
  obtain ⟨hj, rfl⟩ := List.getElem?_eq_some_iff.1 hx
  obtain ⟨a, cx, h1, h2, h3⟩ := hel j hj
  exact ⟨a, cx, h1, h2, h3, hj⟩
set_option maxRecDepth 20000 in
set_option maxHeartbeats 400000 in
theorem keep11 (A : View) (c : Array Value) (t : Tr) (hh : IsTr A t c ∧ SB t) (ce : Array Value) (el : Tr) (he : IsTr A el ce ∧ SB el) (kv : Value) (ks : List ByteArray) (hks : Texts A kv ks) (vv : Value) (vs : List ByteArray) (hvs : Texts A vv vs) : VCalls Try.prog 11 #[.agg c, .agg ce, kv, vv] A fun r A' => r = .bool true ∧ A ≤ A' := by
  obtain ⟨hc, hsb⟩ := hh
  obtain ⟨hce, hse⟩ := he
  have hcz := hc.size
  have hco := hc.ones
  have hez := hce.size
  have heo := hce.ones
  obtain ⟨kb, kc, rfl⟩ := hks.slice
  obtain ⟨wb, wc, rfl⟩ := hvs.slice
  obtain ⟨bb, bc0, hc11, htr⟩ := hc.at11 (by rw [hcz]; decide)
  have hc0 := hc.at0 (by rw [hcz]; decide)
  refine xcalls Try.func11 rfl (by simp [Try.ntmps11]) ?_
  simp only [Try.f11]
  have hP : Priv A (addrs []) := Priv.nil A
  show xc _ _ _ _ _ _ (ov A [])
  refine xc_two fun N1 hN1 => ?_
  refine xc_reg2 fun K hK => ?_
  simp only [rall, rsl, gres]
  refine seqX_hide2 fun R hR => ?_
  simp [go_sem, hcz, hco, hc11, hc0, hez, heo]
  intro q4 hq4
  replace hP := hP.cons hq4
  clear hq4
  refine hR _ _ _ ?_; clear hR R
  refine seqX_hide2 fun R hR => ?_
  simp [go_sem, hcz, hco, hc11, hc0, hez, heo]
  intro q5 hq5
  replace hP := hP.cons hq5
  clear hq5
  have d54 : q5 ≠ q4 := (hP.ne q4 (by simp [addrs])).1
  have d45 : q4 ≠ q5 := (hP.ne q4 (by simp [addrs])).2
  refine hR _ _ _ ?_; clear hR R
  (refine seqX_hide2 fun R hR => ?_; simp [go_sem, hcz, hco, hc11, hc0, hez, heo, d54, d45]; refine hR _ _ _ ?_; clear hR R)
  rw [seqX_nil]
  refine hK _ _ _ ?_; clear hK K
  refine hN1 _ _ _ ?_
  refine xc_two fun N2 hN2 => ?_
  refine xc_two fun N3 hN3 => ?_
  refine xc_reg2 fun K hK => ?_
  simp only [rall, rsl, gres]
  (refine seqX_hide2 fun R hR => ?_; simp [go_sem, hcz, hco, hc11, hc0, hez, heo, d54, d45]; refine hR _ _ _ ?_; clear hR R)
  refine seqX_hide2 fun R hR => ?_
  simp [go_sem, hcz, hco, hc11, hc0, hez, heo, d54, d45]
  refine call_ov hP (fits8 A t c hc) ?_
  clear hP
  rintro _ A1 ⟨⟨b, rfl, hb8⟩, hA1⟩ hP
  cases b with
  | false =>
    refine hR _ _ _ ?_; clear hR R
    iterate 3 (refine seqX_hide2 fun R hR => ?_; simp [go_sem, hcz, hco, hc11, hc0, hez, heo, d54, d45]; refine hR _ _ _ ?_; clear hR R)
    refine seqX_hide2 fun R hR => ?_
    simp [go_sem, hcz, hco, hc11, hc0, hez, heo, d54, d45]
    refine hR _ _ _ ?_; clear hR R
    iterate 4 (refine seqX_hide2 fun R hR => ?_; simp [go_sem, hcz, hco, hc11, hc0, hez, heo, d54, d45]; refine hR _ _ _ ?_; clear hR R)
    refine seqX_hide2 fun R hR => ?_
    simp [go_sem, hcz, hco, hc11, hc0, hez, heo, d54, d45]
    refine hR _ _ _ ?_; clear hR R
    iterate 4 (refine seqX_hide2 fun R hR => ?_; simp [go_sem, hcz, hco, hc11, hc0, hez, heo, d54, d45]; refine hR _ _ _ ?_; clear hR R)
    refine seqX_hide2 fun R hR => ?_
    simp [go_sem, hcz, hco, hc11, hc0, hez, heo, d54, d45]
    refine hR _ _ _ ?_; clear hR R
    iterate 2 (refine seqX_hide2 fun R hR => ?_; simp [go_sem, hcz, hco, hc11, hc0, hez, heo, d54, d45]; refine hR _ _ _ ?_; clear hR R)
    rw [seqX_nil]
    refine hK _ _ _ ?_; clear hK K
    refine hN3 _ _ _ ?_
    refine xc_iftrue (by simp [go_sem, hcz, hco, hc11, hc0, hez, heo, d54, d45]) ?_
    refine xc_two fun N4 hN4 => ?_
    refine xc_reg2 fun K hK => ?_
    simp only [rall, rsl, gres]
    (refine seqX_hide2 fun R hR => ?_; simp [go_sem, hcz, hco, hc11, hc0, hez, heo, d54, d45]; refine hR _ _ _ ?_; clear hR R)
    rw [seqX_nil]
    refine hK _ _ _ ?_; clear hK K
    refine hN4 _ _ _ ?_
    simp [go_sem, hcz, hco, hc11, hc0, hez, heo, d54, d45]
    exact View.le_trans hA1 (le_ov hP)
  | true =>
  replace hb8 := hb8 rfl
  refine hR _ _ _ ?_; clear hR R
  iterate 3 (refine seqX_hide2 fun R hR => ?_; simp [go_sem, hcz, hco, hc11, hc0, hez, heo, d54, d45]; refine hR _ _ _ ?_; clear hR R)
  refine seqX_hide2 fun R hR => ?_
  simp [go_sem, hcz, hco, hc11, hc0, hez, heo, d54, d45]
  refine call_ov hP (fits8 A1 el ce (hce.le hA1)) ?_
  clear hP
  rintro _ A2 ⟨⟨b, rfl, hb8e⟩, hA2⟩ hP
  have hA := View.le_trans hA1 hA2
  cases b with
  | false =>
    refine hR _ _ _ ?_; clear hR R
    iterate 4 (refine seqX_hide2 fun R hR => ?_; simp [go_sem, hcz, hco, hc11, hc0, hez, heo, d54, d45]; refine hR _ _ _ ?_; clear hR R)
    refine seqX_hide2 fun R hR => ?_
    simp [go_sem, hcz, hco, hc11, hc0, hez, heo, d54, d45]
    refine hR _ _ _ ?_; clear hR R
    iterate 4 (refine seqX_hide2 fun R hR => ?_; simp [go_sem, hcz, hco, hc11, hc0, hez, heo, d54, d45]; refine hR _ _ _ ?_; clear hR R)
    refine seqX_hide2 fun R hR => ?_
    simp [go_sem, hcz, hco, hc11, hc0, hez, heo, d54, d45]
    refine hR _ _ _ ?_; clear hR R
    iterate 2 (refine seqX_hide2 fun R hR => ?_; simp [go_sem, hcz, hco, hc11, hc0, hez, heo, d54, d45]; refine hR _ _ _ ?_; clear hR R)
    rw [seqX_nil]
    refine hK _ _ _ ?_; clear hK K
    refine hN3 _ _ _ ?_
    refine xc_iftrue (by simp [go_sem, hcz, hco, hc11, hc0, hez, heo, d54, d45]) ?_
    refine xc_two fun N4 hN4 => ?_
    refine xc_reg2 fun K hK => ?_
    simp only [rall, rsl, gres]
    (refine seqX_hide2 fun R hR => ?_; simp [go_sem, hcz, hco, hc11, hc0, hez, heo, d54, d45]; refine hR _ _ _ ?_; clear hR R)
    rw [seqX_nil]
    refine hK _ _ _ ?_; clear hK K
    refine hN4 _ _ _ ?_
    simp [go_sem, hcz, hco, hc11, hc0, hez, heo, d54, d45]
    exact View.le_trans hA (le_ov hP)
  | true =>
  refine hR _ _ _ ?_; clear hR R
  iterate 4 (refine seqX_hide2 fun R hR => ?_; simp [go_sem, hcz, hco, hc11, hc0, hez, heo, d54, d45]; refine hR _ _ _ ?_; clear hR R)
  refine seqX_hide2 fun R hR => ?_
  simp [go_sem, hcz, hco, hc11, hc0, hez, heo, d54, d45]
  refine call_ov hP (fits36 A2 _ ks (hks.le hA)) ?_
  clear hP
  rintro _ A3 ⟨⟨b, rfl, hbk⟩, hA3⟩ hP
  replace hA := View.le_trans hA hA3
  cases b with
  | false =>
    refine hR _ _ _ ?_; clear hR R
    iterate 4 (refine seqX_hide2 fun R hR => ?_; simp [go_sem, hcz, hco, hc11, hc0, hez, heo, d54, d45]; refine hR _ _ _ ?_; clear hR R)
    refine seqX_hide2 fun R hR => ?_
    simp [go_sem, hcz, hco, hc11, hc0, hez, heo, d54, d45]
    refine hR _ _ _ ?_; clear hR R
    iterate 2 (refine seqX_hide2 fun R hR => ?_; simp [go_sem, hcz, hco, hc11, hc0, hez, heo, d54, d45]; refine hR _ _ _ ?_; clear hR R)
    rw [seqX_nil]
    refine hK _ _ _ ?_; clear hK K
    refine hN3 _ _ _ ?_
    refine xc_iftrue (by simp [go_sem, hcz, hco, hc11, hc0, hez, heo, d54, d45]) ?_
    refine xc_two fun N4 hN4 => ?_
    refine xc_reg2 fun K hK => ?_
    simp only [rall, rsl, gres]
    (refine seqX_hide2 fun R hR => ?_; simp [go_sem, hcz, hco, hc11, hc0, hez, heo, d54, d45]; refine hR _ _ _ ?_; clear hR R)
    rw [seqX_nil]
    refine hK _ _ _ ?_; clear hK K
    refine hN4 _ _ _ ?_
    simp [go_sem, hcz, hco, hc11, hc0, hez, heo, d54, d45]
    exact View.le_trans hA (le_ov hP)
  | true =>
  obtain ⟨hkl, hkz⟩ := hbk rfl
  refine hR _ _ _ ?_; clear hR R
  iterate 4 (refine seqX_hide2 fun R hR => ?_; simp [go_sem, hcz, hco, hc11, hc0, hez, heo, d54, d45]; refine hR _ _ _ ?_; clear hR R)
  refine seqX_hide2 fun R hR => ?_
  simp [go_sem, hcz, hco, hc11, hc0, hez, heo, d54, d45]
  refine call_ov hP (fits36 A3 _ vs (hvs.le hA)) ?_
  clear hP
  rintro _ A4 ⟨⟨b, rfl, hbv⟩, hA4⟩ hP
  replace hA := View.le_trans hA hA4
  cases b with
  | false =>
    refine hR _ _ _ ?_; clear hR R
    iterate 2 (refine seqX_hide2 fun R hR => ?_; simp [go_sem, hcz, hco, hc11, hc0, hez, heo, d54, d45]; refine hR _ _ _ ?_; clear hR R)
    rw [seqX_nil]
    refine hK _ _ _ ?_; clear hK K
    refine hN3 _ _ _ ?_
    refine xc_iftrue (by simp [go_sem, hcz, hco, hc11, hc0, hez, heo, d54, d45]) ?_
    refine xc_two fun N4 hN4 => ?_
    refine xc_reg2 fun K hK => ?_
    simp only [rall, rsl, gres]
    (refine seqX_hide2 fun R hR => ?_; simp [go_sem, hcz, hco, hc11, hc0, hez, heo, d54, d45]; refine hR _ _ _ ?_; clear hR R)
    rw [seqX_nil]
    refine hK _ _ _ ?_; clear hK K
    refine hN4 _ _ _ ?_
    simp [go_sem, hcz, hco, hc11, hc0, hez, heo, d54, d45]
    exact View.le_trans hA (le_ov hP)
  | true =>
  obtain ⟨hvl, hvz⟩ := hbv rfl
  refine hR _ _ _ ?_; clear hR R
  iterate 2 (refine seqX_hide2 fun R hR => ?_; simp [go_sem, hcz, hco, hc11, hc0, hez, heo, d54, d45]; refine hR _ _ _ ?_; clear hR R)
  rw [seqX_nil]
  refine hK _ _ _ ?_; clear hK K
  refine hN3 _ _ _ ?_
  refine xc_iffalse (by simp [go_sem, hcz, hco, hc11, hc0, hez, heo, d54, d45]) ?_
  refine hN2 _ _ _ ?_
  refine xc_two fun N4 hN4 => ?_
  refine xc_two fun N5 hN5 => ?_
  by_cases hk : t.kind = 2
  rotate_left
  · have hkb : (t.kind != 2) = true := bne_iff_ne.2 hk
    have hkb2 : (t.kind == 2) = false := beq_eq_false_iff_ne.2 hk
    refine xc_reg2 fun K hK => ?_
    simp only [rall, rsl, gres]
    iterate 5 (refine seqX_hide2 fun R hR => ?_; simp [go_sem, hcz, hco, hc11, hc0, hez, heo, d54, d45, hk, hkb, hkb2]; refine hR _ _ _ ?_; clear hR R)
    refine seqX_hide2 fun R hR => ?_
    simp [go_sem, hcz, hco, hc11, hc0, hez, heo, d54, d45, hk, hkb, hkb2]
    refine hR _ _ _ ?_; clear hR R
    iterate 5 (refine seqX_hide2 fun R hR => ?_; simp [go_sem, hcz, hco, hc11, hc0, hez, heo, d54, d45, hk, hkb, hkb2]; refine hR _ _ _ ?_; clear hR R)
    refine seqX_hide2 fun R hR => ?_
    simp [go_sem, hcz, hco, hc11, hc0, hez, heo, d54, d45, hk, hkb, hkb2]
    refine hR _ _ _ ?_; clear hR R
    iterate 4 (refine seqX_hide2 fun R hR => ?_; simp [go_sem, hcz, hco, hc11, hc0, hez, heo, d54, d45, hk, hkb, hkb2]; refine hR _ _ _ ?_; clear hR R)
    refine seqX_hide2 fun R hR => ?_
    simp [go_sem, hcz, hco, hc11, hc0, hez, heo, d54, d45, hk, hkb, hkb2]
    refine hR _ _ _ ?_; clear hR R
    iterate 4 (refine seqX_hide2 fun R hR => ?_; simp [go_sem, hcz, hco, hc11, hc0, hez, heo, d54, d45, hk, hkb, hkb2]; refine hR _ _ _ ?_; clear hR R)
    refine seqX_hide2 fun R hR => ?_
    simp [go_sem, hcz, hco, hc11, hc0, hez, heo, d54, d45, hk, hkb, hkb2]
    refine hR _ _ _ ?_; clear hR R
    (refine seqX_hide2 fun R hR => ?_; simp [go_sem, hcz, hco, hc11, hc0, hez, heo, d54, d45, hk, hkb, hkb2]; refine hR _ _ _ ?_; clear hR R)
    rw [seqX_nil]
    refine hK _ _ _ ?_; clear hK K
    refine hN5 _ _ _ ?_
    refine xc_iftrue (by simp [go_sem, hcz, hco, hc11, hc0, hez, heo, d54, d45, hk, hkb, hkb2]) ?_
    refine xc_two fun N6 hN6 => ?_
    refine xc_reg2 fun K hK => ?_
    simp only [rall, rsl, gres]
    (refine seqX_hide2 fun R hR => ?_; simp [go_sem, hcz, hco, hc11, hc0, hez, heo, d54, d45, hk, hkb, hkb2]; refine hR _ _ _ ?_; clear hR R)
    rw [seqX_nil]
    refine hK _ _ _ ?_; clear hK K
    refine hN6 _ _ _ ?_
    simp [go_sem, hcz, hco, hc11, hc0, hez, heo, d54, d45, hk, hkb, hkb2]
    exact View.le_trans hA (le_ov hP)
  refine xc_reg2 fun K hK => ?_
  simp only [rall, rsl, gres]
  iterate 5 (refine seqX_hide2 fun R hR => ?_; simp [go_sem, hcz, hco, hc11, hc0, hez, heo, d54, d45, hk]; refine hR _ _ _ ?_; clear hR R)
  refine seqX_hide2 fun R hR => ?_
  simp [go_sem, hcz, hco, hc11, hc0, hez, heo, d54, d45, hk]
  refine call_ov hP (dressed42 A4 t c (hc.le hA) hsb) ?_
  clear hP
  rintro _ A5 ⟨⟨b, rfl, hbd⟩, hA5⟩ hP
  replace hA := View.le_trans hA hA5
  cases b with
  | false =>
    refine hR _ _ _ ?_; clear hR R
    iterate 5 (refine seqX_hide2 fun R hR => ?_; simp [go_sem, hcz, hco, hc11, hc0, hez, heo, d54, d45, hk]; refine hR _ _ _ ?_; clear hR R)
    refine seqX_hide2 fun R hR => ?_
    simp [go_sem, hcz, hco, hc11, hc0, hez, heo, d54, d45, hk]
    refine hR _ _ _ ?_; clear hR R
    iterate 4 (refine seqX_hide2 fun R hR => ?_; simp [go_sem, hcz, hco, hc11, hc0, hez, heo, d54, d45, hk]; refine hR _ _ _ ?_; clear hR R)
    refine seqX_hide2 fun R hR => ?_
    simp [go_sem, hcz, hco, hc11, hc0, hez, heo, d54, d45, hk]
    refine hR _ _ _ ?_; clear hR R
    iterate 4 (refine seqX_hide2 fun R hR => ?_; simp [go_sem, hcz, hco, hc11, hc0, hez, heo, d54, d45, hk]; refine hR _ _ _ ?_; clear hR R)
    refine seqX_hide2 fun R hR => ?_
    simp [go_sem, hcz, hco, hc11, hc0, hez, heo, d54, d45, hk]
    refine hR _ _ _ ?_; clear hR R
    (refine seqX_hide2 fun R hR => ?_; simp [go_sem, hcz, hco, hc11, hc0, hez, heo, d54, d45, hk]; refine hR _ _ _ ?_; clear hR R)
    rw [seqX_nil]
    refine hK _ _ _ ?_; clear hK K
    refine hN5 _ _ _ ?_
    refine xc_iftrue (by simp [go_sem, hcz, hco, hc11, hc0, hez, heo, d54, d45, hk]) ?_
    refine xc_two fun N6 hN6 => ?_
    refine xc_reg2 fun K hK => ?_
    simp only [rall, rsl, gres]
    (refine seqX_hide2 fun R hR => ?_; simp [go_sem, hcz, hco, hc11, hc0, hez, heo, d54, d45, hk]; refine hR _ _ _ ?_; clear hR R)
    rw [seqX_nil]
    refine hK _ _ _ ?_; clear hK K
    refine hN6 _ _ _ ?_
    simp [go_sem, hcz, hco, hc11, hc0, hez, heo, d54, d45, hk]
    exact View.le_trans hA (le_ov hP)
  | true =>
  obtain ⟨hpl, hnd⟩ := hbd rfl
  refine hR _ _ _ ?_; clear hR R
  iterate 5 (refine seqX_hide2 fun R hR => ?_; simp [go_sem, hcz, hco, hc11, hc0, hez, heo, d54, d45, hk]; refine hR _ _ _ ?_; clear hR R)
  refine seqX_hide2 fun R hR => ?_
  simp [go_sem, hcz, hco, hc11, hc0, hez, heo, d54, d45, hk]
  refine call_same hP (keyed37 A5 _ _ ks vs (hks.le hA) (hvs.le hA) hkl hvl (fun s hs => by have := hkz s hs; omega) (fun s hs => by have := hvz s hs; omega)) ?_
  rintro _ ⟨b, rfl, hbkv⟩
  cases b with
  | false =>
    refine hR _ _ _ ?_; clear hR R
    iterate 4 (refine seqX_hide2 fun R hR => ?_; simp [go_sem, hcz, hco, hc11, hc0, hez, heo, d54, d45, hk]; refine hR _ _ _ ?_; clear hR R)
    refine seqX_hide2 fun R hR => ?_
    simp [go_sem, hcz, hco, hc11, hc0, hez, heo, d54, d45, hk]
    refine hR _ _ _ ?_; clear hR R
    iterate 4 (refine seqX_hide2 fun R hR => ?_; simp [go_sem, hcz, hco, hc11, hc0, hez, heo, d54, d45, hk]; refine hR _ _ _ ?_; clear hR R)
    refine seqX_hide2 fun R hR => ?_
    simp [go_sem, hcz, hco, hc11, hc0, hez, heo, d54, d45, hk]
    refine hR _ _ _ ?_; clear hR R
    (refine seqX_hide2 fun R hR => ?_; simp [go_sem, hcz, hco, hc11, hc0, hez, heo, d54, d45, hk]; refine hR _ _ _ ?_; clear hR R)
    rw [seqX_nil]
    refine hK _ _ _ ?_; clear hK K
    refine hN5 _ _ _ ?_
    refine xc_iftrue (by simp [go_sem, hcz, hco, hc11, hc0, hez, heo, d54, d45, hk]) ?_
    refine xc_two fun N6 hN6 => ?_
    refine xc_reg2 fun K hK => ?_
    simp only [rall, rsl, gres]
    (refine seqX_hide2 fun R hR => ?_; simp [go_sem, hcz, hco, hc11, hc0, hez, heo, d54, d45, hk]; refine hR _ _ _ ?_; clear hR R)
    rw [seqX_nil]
    refine hK _ _ _ ?_; clear hK K
    refine hN6 _ _ _ ?_
    simp [go_sem, hcz, hco, hc11, hc0, hez, heo, d54, d45, hk]
    exact View.le_trans hA (le_ov hP)
  | true =>
  obtain ⟨hl, h0, h5, hkw, hvw⟩ := hbkv rfl
  refine hR _ _ _ ?_; clear hR R
  iterate 4 (refine seqX_hide2 fun R hR => ?_; simp [go_sem, hcz, hco, hc11, hc0, hez, heo, d54, d45, hk]; refine hR _ _ _ ?_; clear hR R)
  refine seqX_hide2 fun R hR => ?_
  simp [go_sem, hcz, hco, hc11, hc0, hez, heo, d54, d45, hk]
  refine call_ov hP (plainTree12 A5 el ce 50 (hce.le hA) hse (by omega)) ?_
  clear hP
  rintro _ A6 ⟨⟨b, rfl, hbp⟩, hA6⟩ hP
  replace hA := View.le_trans hA hA6
  cases b with
  | false =>
    refine hR _ _ _ ?_; clear hR R
    iterate 4 (refine seqX_hide2 fun R hR => ?_; simp [go_sem, hcz, hco, hc11, hc0, hez, heo, d54, d45, hk]; refine hR _ _ _ ?_; clear hR R)
    refine seqX_hide2 fun R hR => ?_
    simp [go_sem, hcz, hco, hc11, hc0, hez, heo, d54, d45, hk]
    refine hR _ _ _ ?_; clear hR R
    (refine seqX_hide2 fun R hR => ?_; simp [go_sem, hcz, hco, hc11, hc0, hez, heo, d54, d45, hk]; refine hR _ _ _ ?_; clear hR R)
    rw [seqX_nil]
    refine hK _ _ _ ?_; clear hK K
    refine hN5 _ _ _ ?_
    refine xc_iftrue (by simp [go_sem, hcz, hco, hc11, hc0, hez, heo, d54, d45, hk]) ?_
    refine xc_two fun N6 hN6 => ?_
    refine xc_reg2 fun K hK => ?_
    simp only [rall, rsl, gres]
    (refine seqX_hide2 fun R hR => ?_; simp [go_sem, hcz, hco, hc11, hc0, hez, heo, d54, d45, hk]; refine hR _ _ _ ?_; clear hR R)
    rw [seqX_nil]
    refine hK _ _ _ ?_; clear hK K
    refine hN6 _ _ _ ?_
    simp [go_sem, hcz, hco, hc11, hc0, hez, heo, d54, d45, hk]
    exact View.le_trans hA (le_ov hP)
  | true =>
  obtain ⟨hpe, hne⟩ := hbp rfl
  refine hR _ _ _ ?_; clear hR R
  iterate 4 (refine seqX_hide2 fun R hR => ?_; simp [go_sem, hcz, hco, hc11, hc0, hez, heo, d54, d45, hk]; refine hR _ _ _ ?_; clear hR R)
  refine seqX_hide2 fun R hR => ?_
  simp [go_sem, hcz, hco, hc11, hc0, hez, heo, d54, d45, hk]
  refine call_ov hP (isNull16 A6 el ce (hce.le hA)) ?_
  clear hP
  rintro _ A7 ⟨⟨b, rfl, hbn⟩, hA7⟩ hP
  replace hA := View.le_trans hA hA7
  cases b with
  | true =>
    refine hR _ _ _ ?_; clear hR R
    (refine seqX_hide2 fun R hR => ?_; simp [go_sem, hcz, hco, hc11, hc0, hez, heo, d54, d45, hk]; refine hR _ _ _ ?_; clear hR R)
    rw [seqX_nil]
    refine hK _ _ _ ?_; clear hK K
    refine hN5 _ _ _ ?_
    refine xc_iftrue (by simp [go_sem, hcz, hco, hc11, hc0, hez, heo, d54, d45, hk]) ?_
    refine xc_two fun N6 hN6 => ?_
    refine xc_reg2 fun K hK => ?_
    simp only [rall, rsl, gres]
    (refine seqX_hide2 fun R hR => ?_; simp [go_sem, hcz, hco, hc11, hc0, hez, heo, d54, d45, hk]; refine hR _ _ _ ?_; clear hR R)
    rw [seqX_nil]
    refine hK _ _ _ ?_; clear hK K
    refine hN6 _ _ _ ?_
    simp [go_sem, hcz, hco, hc11, hc0, hez, heo, d54, d45, hk]
    exact View.le_trans hA (le_ov hP)
  | false =>
  have hbn := hbn rfl
  refine hR _ _ _ ?_; clear hR R
  (refine seqX_hide2 fun R hR => ?_; simp [go_sem, hcz, hco, hc11, hc0, hez, heo, d54, d45, hk]; refine hR _ _ _ ?_; clear hR R)
  rw [seqX_nil]
  refine hK _ _ _ ?_; clear hK K
  refine hN5 _ _ _ ?_
  refine xc_iffalse (by simp [go_sem, hcz, hco, hc11, hc0, hez, heo, d54, d45, hk]) ?_
  refine hN4 _ _ _ ?_
  refine xc_two fun N6 hN6 => ?_
  refine xc_two fun N7 hN7 => ?_
  refine xc_reg2 fun K hK => ?_
  simp only [rall, rsl, gres]
  iterate 4 (refine seqX_hide2 fun R hR => ?_; simp [go_sem, hcz, hco, hc11, hc0, hez, heo, d54, d45, hk]; refine hR _ _ _ ?_; clear hR R)
  rw [seqX_nil]
  refine hK _ _ _ ?_; clear hK K
  refine hN7 _ _ _ ?_
  rw [xc_block]
  rw [xc_loop]
  refine vloopK (fun k' e ds A' => ∃ (i : Nat) (D : View), k' = t.kids.length - i ∧ ds = [] ∧ A' = ov D [(q5, .cells ce 24 (0, 0)), (q4, .cells c 24 (0, 0))] ∧ Priv D [q5, q4] ∧ e 2 = .slice kb ks.length kc ∧ e 3 = .slice wb vs.length wc ∧ e 4 = .pointer (some ⟨q4, 0, none⟩) ∧ e 5 = .pointer (some ⟨q5, 0, none⟩) ∧ e 65 = .slice bb t.kids.length bc0 ∧ e 66 = .int .i64 t.kids.length ∧ e 67 = .int .i64 i ∧ (i ≤ t.kids.length) ∧ (A ≤ D) ∧ (∀ j (h : j < t.kids.length), j < i → ¬ (t.kids[j].kind = 8 ∧ t.kids[j].tag = tNull) ∧ (t.kids[j].kind = 8 ∨ t.kids[j].kids.length ≠ 0))) _ ⟨0, A7, rfl, rfl, rfl, hP, by simp [go_sem, hcz, hco, hc11, hc0, hez, heo, d54, d45, hk], by simp [go_sem, hcz, hco, hc11, hc0, hez, heo, d54, d45, hk], by simp [go_sem, hcz, hco, hc11, hc0, hez, heo, d54, d45, hk], by simp [go_sem, hcz, hco, hc11, hc0, hez, heo, d54, d45, hk], by simp [go_sem, hcz, hco, hc11, hc0, hez, heo, d54, d45, hk], by simp [go_sem, hcz, hco, hc11, hc0, hez, heo, d54, d45, hk], by simp [go_sem, hcz, hco, hc11, hc0, hez, heo, d54, d45, hk], by omega, hA, fun j h hj => by omega⟩ ?_
  clear hP
  rintro k' e ds _ ⟨i, D, rfl, rfl, rfl, hP, g2, g3, g4, g5, g65, g66, g67, hil, hAD, hnn⟩ J1 X1 hJ1 hX1
  refine xc_sound _ ?_
  have hkl9 := nds_kl9 t
  have hw1 : IntKind.i64.wrap ((i : Int) + 1) = ((i + 1 : Nat) : Int) := by rw [wrap_in (by omega) (by omega)]; omega
  by_cases hi : i < t.kids.length
  · have hii : (i : Int) < t.kids.length := by omega
    obtain ⟨bs, cap, f1, hel1⟩ := htr
    simp only [Value.slice.injEq, true_and] at f1
    obtain ⟨hb1, hbc1⟩ := f1
    obtain ⟨a1, ci, ha1, u1, hci⟩ := hel1 i hi
    rw [ha1] at hb1
    subst hb1
    have u1 := le_cells hAD _ _ _ u1
    have hci := hci.le hAD
    have hz1 := hci.size
    have ho1 := hci.ones
    have hci0 := hci.at0 (by rw [hz1]; decide)
    obtain ⟨bi, ci0, hc11i, -⟩ := hci.at11 (by rw [hz1]; decide)
    refine xc_two fun N8 hN8 => ?_
    refine xc_reg2 fun K hK => ?_
    simp only [rall, rsl, gres]
    (refine seqX_hide2 fun R hR => ?_; simp [go_sem, hcz, hco, hc11, hc0, hez, heo, d54, d45, hk, g2, g3, g4, g5, g65, g66, g67, hi, hii, hw1, hz1, ho1, hci0, hc11i, bcs hP u1]; refine hR _ _ _ ?_; clear hR R)
    rw [seqX_nil]
    refine hK _ _ _ ?_; clear hK K
    refine hN8 _ _ _ ?_
    refine xc_two fun N9 hN9 => ?_
    refine xc_iftrue (by simp [go_sem, hcz, hco, hc11, hc0, hez, heo, d54, d45, hk, g2, g3, g4, g5, g65, g66, g67, hi, hii, hw1, hz1, ho1, hci0, hc11i, bcs hP u1]) ?_
    refine hN9 _ _ _ ?_
    refine xc_two fun N10 hN10 => ?_
    rw [xc_block]
    refine xc_two fun N11 hN11 => ?_
    refine xc_reg2 fun K hK => ?_
    simp only [rall, rsl, gres]
    iterate 2 (refine seqX_hide2 fun R hR => ?_; simp [go_sem, hcz, hco, hc11, hc0, hez, heo, d54, d45, hk, g2, g3, g4, g5, g65, g66, g67, hi, hii, hw1, hz1, ho1, hci0, hc11i, bcs hP u1]; refine hR _ _ _ ?_; clear hR R)
    refine seqX_hide2 fun R hR => ?_
    simp [go_sem, hcz, hco, hc11, hc0, hez, heo, d54, d45, hk, g2, g3, g4, g5, g65, g66, g67, hi, hii, hw1, hz1, ho1, hci0, hc11i, bcs hP u1]
    intro q10 hq10
    replace hP := hP.cons hq10
    clear hq10
    have d105 : q10 ≠ q5 := (hP.ne q5 (by simp [addrs])).1
    have d510 : q5 ≠ q10 := (hP.ne q5 (by simp [addrs])).2
    have d104 : q10 ≠ q4 := (hP.ne q4 (by simp [addrs])).1
    have d410 : q4 ≠ q10 := (hP.ne q4 (by simp [addrs])).2
    refine hR _ _ _ ?_; clear hR R
    refine seqX_hide2 fun R hR => ?_
    simp [go_sem, hcz, hco, hc11, hc0, hez, heo, d54, d45, hk, g2, g3, g4, g5, g65, g66, g67, hi, hii, hw1, hz1, ho1, hci0, hc11i, bcs hP u1, d105, d510, d104, d410]
    refine hR _ _ _ ?_; clear hR R
    rw [seqX_nil]
    refine hK _ _ _ ?_; clear hK K
    refine hN11 _ _ _ ?_
    refine xc_two fun N12 hN12 => ?_
    refine xc_reg2 fun K hK => ?_
    simp only [rall, rsl, gres]
    (refine seqX_hide2 fun R hR => ?_; simp [go_sem, hcz, hco, hc11, hc0, hez, heo, d54, d45, hk, g2, g3, g4, g5, g65, g66, g67, hi, hii, hw1, hz1, ho1, hci0, hc11i, bcs hP u1, d105, d510, d104, d410]; refine hR _ _ _ ?_; clear hR R)
    refine seqX_hide2 fun R hR => ?_
    simp [go_sem, hcz, hco, hc11, hc0, hez, heo, d54, d45, hk, g2, g3, g4, g5, g65, g66, g67, hi, hii, hw1, hz1, ho1, hci0, hc11i, bcs hP u1, d105, d510, d104, d410]
    refine call_ov hP (isNull16 D _ ci hci) ?_
    clear hP
    rintro _ D2 ⟨⟨b, rfl, hb⟩, hD2⟩ hP
    have hAD2 := View.le_trans hAD hD2
    cases b with
    | true =>
      refine hR _ _ _ ?_; clear hR R
      iterate 11 (refine seqX_hide2 fun R hR => ?_; simp [go_sem, hcz, hco, hc11, hc0, hez, heo, d54, d45, hk, g2, g3, g4, g5, g65, g66, g67, hi, hii, hw1, hz1, ho1, hci0, hc11i, d105, d510, d104, d410]; refine hR _ _ _ ?_; clear hR R)
      rw [seqX_nil]
      refine hK _ _ _ ?_; clear hK K
      refine hN12 _ _ _ ?_
      refine xc_iftrue (by simp [go_sem, hcz, hco, hc11, hc0, hez, heo, d54, d45, hk, g2, g3, g4, g5, g65, g66, g67, hi, hii, hw1, hz1, ho1, hci0, hc11i, d105, d510, d104, d410]) ?_
      refine xc_two fun N13 hN13 => ?_
      refine xc_reg2 fun K hK => ?_
      simp only [rall, rsl, gres]
      (refine seqX_hide2 fun R hR => ?_; simp [go_sem, hcz, hco, hc11, hc0, hez, heo, d54, d45, hk, g2, g3, g4, g5, g65, g66, g67, hi, hii, hw1, hz1, ho1, hci0, hc11i, d105, d510, d104, d410]; refine hR _ _ _ ?_; clear hR R)
      rw [seqX_nil]
      refine hK _ _ _ ?_; clear hK K
      refine hN13 _ _ _ ?_
      refine hX1 _ _ _ _ ?_
      simp [go_sem, hcz, hco, hc11, hc0, hez, heo, d54, d45, hk, g2, g3, g4, g5, g65, g66, g67, hi, hii, hw1, hz1, ho1, hci0, hc11i, d105, d510, d104, d410]
      exact View.le_trans hAD2 (le_ov hP)
    | false =>
    have hb := hb rfl
    by_cases hk8 : t.kids[i].kind = 8
    · skip
      refine hR _ _ _ ?_; clear hR R
      iterate 11 (refine seqX_hide2 fun R hR => ?_; simp [go_sem, hcz, hco, hc11, hc0, hez, heo, d54, d45, hk, g2, g3, g4, g5, g65, g66, g67, hi, hii, hw1, hz1, ho1, hci0, hc11i, d105, d510, d104, d410, hk8]; refine hR _ _ _ ?_; clear hR R)
      rw [seqX_nil]
      refine hK _ _ _ ?_; clear hK K
      refine hN12 _ _ _ ?_
      refine xc_iffalse (by simp [go_sem, hcz, hco, hc11, hc0, hez, heo, d54, d45, hk, g2, g3, g4, g5, g65, g66, g67, hi, hii, hw1, hz1, ho1, hci0, hc11i, d105, d510, d104, d410, hk8]) ?_
      refine hN10 _ _ _ ?_
      refine xc_reg2 fun K hK => ?_
      simp only [rall, rsl, gres]
      iterate 2 (refine seqX_hide2 fun R hR => ?_; simp [go_sem, hcz, hco, hc11, hc0, hez, heo, d54, d45, hk, g2, g3, g4, g5, g65, g66, g67, hi, hii, hw1, hz1, ho1, hci0, hc11i, d105, d510, d104, d410, hk8]; refine hR _ _ _ ?_; clear hR R)
      rw [seqX_nil]
      refine hK _ _ _ ?_; clear hK K
      refine sink_goal 0 hP rfl fun hPn lq10 nq10 => ?_
      clear hP; have hP := hPn; clear hPn
      simp only [List.eraseIdx_cons_zero, List.eraseIdx_cons_succ, addrs_cons, addrs_nil] at hP ⊢
      have hnn2 : ∀ j (h : j < t.kids.length), j < i + 1 → ¬ (t.kids[j].kind = 8 ∧ t.kids[j].tag = tNull) ∧ (t.kids[j].kind = 8 ∨ t.kids[j].kids.length ≠ 0) := fun j h hj => by
        rcases Nat.lt_or_eq_of_le (Nat.le_of_lt_succ hj) with h2 | h2
        · exact hnn j h h2
        · subst h2; exact ⟨hb, .inl hk8⟩
      refine hJ1 (t.kids.length - (i + 1)) _ _ _ (by omega) ⟨i + 1, _, rfl, rfl, rfl, hP, by simp [go_sem, hcz, hco, hc11, hc0, hez, heo, d54, d45, hk, g2, g3, g4, g5, g65, g66, g67, hi, hii, hw1, hz1, ho1, hci0, hc11i, d105, d510, d104, d410, hk8], by simp [go_sem, hcz, hco, hc11, hc0, hez, heo, d54, d45, hk, g2, g3, g4, g5, g65, g66, g67, hi, hii, hw1, hz1, ho1, hci0, hc11i, d105, d510, d104, d410, hk8], by simp [go_sem, hcz, hco, hc11, hc0, hez, heo, d54, d45, hk, g2, g3, g4, g5, g65, g66, g67, hi, hii, hw1, hz1, ho1, hci0, hc11i, d105, d510, d104, d410, hk8], by simp [go_sem, hcz, hco, hc11, hc0, hez, heo, d54, d45, hk, g2, g3, g4, g5, g65, g66, g67, hi, hii, hw1, hz1, ho1, hci0, hc11i, d105, d510, d104, d410, hk8], by simp [go_sem, hcz, hco, hc11, hc0, hez, heo, d54, d45, hk, g2, g3, g4, g5, g65, g66, g67, hi, hii, hw1, hz1, ho1, hci0, hc11i, d105, d510, d104, d410, hk8], by simp [go_sem, hcz, hco, hc11, hc0, hez, heo, d54, d45, hk, g2, g3, g4, g5, g65, g66, g67, hi, hii, hw1, hz1, ho1, hci0, hc11i, d105, d510, d104, d410, hk8], by simp [go_sem, hcz, hco, hc11, hc0, hez, heo, d54, d45, hk, g2, g3, g4, g5, g65, g66, g67, hi, hii, hw1, hz1, ho1, hci0, hc11i, d105, d510, d104, d410, hk8], by omega, View.le_trans hAD2 lq10, hnn2⟩
    have hkb : (t.kids[i].kind != 8) = true := bne_iff_ne.2 hk8
    by_cases hk0 : t.kids[i].kids.length = 0
    · have hkn : t.kids[i].kids = [] := List.eq_nil_of_length_eq_zero hk0
      refine hR _ _ _ ?_; clear hR R
      iterate 11 (refine seqX_hide2 fun R hR => ?_; simp [go_sem, hcz, hco, hc11, hc0, hez, heo, d54, d45, hk, g2, g3, g4, g5, g65, g66, g67, hi, hii, hw1, hz1, ho1, hci0, hc11i, d105, d510, d104, d410, hk8, hkb, hk0, hkn]; refine hR _ _ _ ?_; clear hR R)
      rw [seqX_nil]
      refine hK _ _ _ ?_; clear hK K
      refine hN12 _ _ _ ?_
      refine xc_iftrue (by simp [go_sem, hcz, hco, hc11, hc0, hez, heo, d54, d45, hk, g2, g3, g4, g5, g65, g66, g67, hi, hii, hw1, hz1, ho1, hci0, hc11i, d105, d510, d104, d410, hk8, hkb, hk0, hkn]) ?_
      refine xc_two fun N13 hN13 => ?_
      refine xc_reg2 fun K hK => ?_
      simp only [rall, rsl, gres]
      (refine seqX_hide2 fun R hR => ?_; simp [go_sem, hcz, hco, hc11, hc0, hez, heo, d54, d45, hk, g2, g3, g4, g5, g65, g66, g67, hi, hii, hw1, hz1, ho1, hci0, hc11i, d105, d510, d104, d410, hk8, hkb, hk0, hkn]; refine hR _ _ _ ?_; clear hR R)
      rw [seqX_nil]
      refine hK _ _ _ ?_; clear hK K
      refine hN13 _ _ _ ?_
      refine hX1 _ _ _ _ ?_
      simp [go_sem, hcz, hco, hc11, hc0, hez, heo, d54, d45, hk, g2, g3, g4, g5, g65, g66, g67, hi, hii, hw1, hz1, ho1, hci0, hc11i, d105, d510, d104, d410, hk8, hkb, hk0, hkn]
      exact View.le_trans hAD2 (le_ov hP)
    have hkn : ¬ t.kids[i].kids = [] := fun e => hk0 (by rw [e]; rfl)
    have hki : ¬ (t.kids[i].kids.length : Int) = 0 := by omega
    refine hR _ _ _ ?_; clear hR R
    iterate 11 (refine seqX_hide2 fun R hR => ?_; simp [go_sem, hcz, hco, hc11, hc0, hez, heo, d54, d45, hk, g2, g3, g4, g5, g65, g66, g67, hi, hii, hw1, hz1, ho1, hci0, hc11i, d105, d510, d104, d410, hk8, hkb, hk0, hkn, hki]; refine hR _ _ _ ?_; clear hR R)
    rw [seqX_nil]
    refine hK _ _ _ ?_; clear hK K
    refine hN12 _ _ _ ?_
    refine xc_iffalse (by simp [go_sem, hcz, hco, hc11, hc0, hez, heo, d54, d45, hk, g2, g3, g4, g5, g65, g66, g67, hi, hii, hw1, hz1, ho1, hci0, hc11i, d105, d510, d104, d410, hk8, hkb, hk0, hkn, hki]) ?_
    refine hN10 _ _ _ ?_
    refine xc_reg2 fun K hK => ?_
    simp only [rall, rsl, gres]
    iterate 2 (refine seqX_hide2 fun R hR => ?_; simp [go_sem, hcz, hco, hc11, hc0, hez, heo, d54, d45, hk, g2, g3, g4, g5, g65, g66, g67, hi, hii, hw1, hz1, ho1, hci0, hc11i, d105, d510, d104, d410, hk8, hkb, hk0, hkn, hki]; refine hR _ _ _ ?_; clear hR R)
    rw [seqX_nil]
    refine hK _ _ _ ?_; clear hK K
    refine sink_goal 0 hP rfl fun hPn lq10 nq10 => ?_
    clear hP; have hP := hPn; clear hPn
    simp only [List.eraseIdx_cons_zero, List.eraseIdx_cons_succ, addrs_cons, addrs_nil] at hP ⊢
    have hnn2 : ∀ j (h : j < t.kids.length), j < i + 1 → ¬ (t.kids[j].kind = 8 ∧ t.kids[j].tag = tNull) ∧ (t.kids[j].kind = 8 ∨ t.kids[j].kids.length ≠ 0) := fun j h hj => by
      rcases Nat.lt_or_eq_of_le (Nat.le_of_lt_succ hj) with h2 | h2
      · exact hnn j h h2
      · subst h2; exact ⟨hb, .inr hk0⟩
    refine hJ1 (t.kids.length - (i + 1)) _ _ _ (by omega) ⟨i + 1, _, rfl, rfl, rfl, hP, by simp [go_sem, hcz, hco, hc11, hc0, hez, heo, d54, d45, hk, g2, g3, g4, g5, g65, g66, g67, hi, hii, hw1, hz1, ho1, hci0, hc11i, d105, d510, d104, d410, hk8, hkb, hk0, hkn, hki], by simp [go_sem, hcz, hco, hc11, hc0, hez, heo, d54, d45, hk, g2, g3, g4, g5, g65, g66, g67, hi, hii, hw1, hz1, ho1, hci0, hc11i, d105, d510, d104, d410, hk8, hkb, hk0, hkn, hki], by simp [go_sem, hcz, hco, hc11, hc0, hez, heo, d54, d45, hk, g2, g3, g4, g5, g65, g66, g67, hi, hii, hw1, hz1, ho1, hci0, hc11i, d105, d510, d104, d410, hk8, hkb, hk0, hkn, hki], by simp [go_sem, hcz, hco, hc11, hc0, hez, heo, d54, d45, hk, g2, g3, g4, g5, g65, g66, g67, hi, hii, hw1, hz1, ho1, hci0, hc11i, d105, d510, d104, d410, hk8, hkb, hk0, hkn, hki], by simp [go_sem, hcz, hco, hc11, hc0, hez, heo, d54, d45, hk, g2, g3, g4, g5, g65, g66, g67, hi, hii, hw1, hz1, ho1, hci0, hc11i, d105, d510, d104, d410, hk8, hkb, hk0, hkn, hki], by simp [go_sem, hcz, hco, hc11, hc0, hez, heo, d54, d45, hk, g2, g3, g4, g5, g65, g66, g67, hi, hii, hw1, hz1, ho1, hci0, hc11i, d105, d510, d104, d410, hk8, hkb, hk0, hkn, hki], by simp [go_sem, hcz, hco, hc11, hc0, hez, heo, d54, d45, hk, g2, g3, g4, g5, g65, g66, g67, hi, hii, hw1, hz1, ho1, hci0, hc11i, d105, d510, d104, d410, hk8, hkb, hk0, hkn, hki], by omega, View.le_trans hAD2 lq10, hnn2⟩
  have hii : ¬ (i : Int) < t.kids.length := by omega
  have hkids : ∀ x ∈ t.kids, EN x ∧ (x.kind = 4 → x.kids.length % 2 = 0) := fun x hx => by
    obtain ⟨j, hj, rfl⟩ := List.getElem_of_mem hx
    obtain ⟨g1, g2⟩ := hnn j hj (by omega)
    have g3 := (hpl.kid hx).nn1 g1
    refine ⟨⟨g3.1, g3.2, fun e => ?_⟩, fun e => ?_⟩
    · rcases g2 with g2 | g2
      · omega
      · exact g2
    · rcases (hpl.kid hx).kinds with ⟨g4, -⟩ | ⟨g4, -⟩ | ⟨-, -, -, g4⟩
      · omega
      · omega
      · exact g4
  have htag : t.tag ≠ tNull := (hpl.nn1 fun e => by have := e.1; omega).2
  have hkn : ∀ s ∈ ks, s ≠ e0 := fun s hs e => (hkw s hs).1 (by rw [e]; rfl)
  have hvn : ∀ s ∈ vs, s ≠ e0 := fun s hs e => (hvw s hs).1 (by rw [e]; rfl)
  have hpx : ∀ x, some el = some x → PT 12 x ∧ nds x ≤ 400 ∧ x.kind ≠ 1 ∧ x.tag ≠ tNull := fun x hx => by
    cases hx
    exact ⟨hpe.pt, by omega, (hpe.nn1 hbn).1, (hpe.nn1 hbn).2⟩
  refine xc_two fun N8 hN8 => ?_
  refine xc_reg2 fun K hK => ?_
  simp only [rall, rsl, gres]
  (refine seqX_hide2 fun R hR => ?_; simp [go_sem, hcz, hco, hc11, hc0, hez, heo, d54, d45, hk, g2, g3, g4, g5, g65, g66, g67, hi, hii]; refine hR _ _ _ ?_; clear hR R)
  rw [seqX_nil]
  refine hK _ _ _ ?_; clear hK K
  refine hN8 _ _ _ ?_
  refine xc_two fun N9 hN9 => ?_
  refine xc_iffalse (by simp [go_sem, hcz, hco, hc11, hc0, hez, heo, d54, d45, hk, g2, g3, g4, g5, g65, g66, g67, hi, hii]) ?_
  refine hX1 _ _ _ _ ?_
  refine hN6 _ _ _ ?_
  refine xc_two fun N10 hN10 => ?_
  rw [xc_draws]
  refine vdrawK [(0, true), (1, true), (2, true), (3, false), (4, true), (5, true), (6, true), (7, true), (8, true), (9, false), (10, true), (11, true)] (ov D [(q5, .cells ce 24 (0, 0)), (q4, .cells c 24 (0, 0))]) mixed (by kernel_rfl) (View.le_refl _) fun K hK => ?_
  simp only [rsl, gres]
  iterate 2 (refine seqR_hide fun R hR => ?_; simp [go_sem, hcz, hco, hc11, hc0, hez, heo, d54, d45, hk, g2, g3, g4, g5, g65, g66, g67, hi, hii]; refine hR _ _ _ ?_; clear hR R)
  refine seqR_hide fun R hR => ?_
  simp [go_sem, hcz, hco, hc11, hc0, hez, heo, d54, d45, hk, g2, g3, g4, g5, g65, g66, g67, hi, hii]
  refine call_ov hP (one11 D el ce (hce.le hAD)) ?_
  clear hP
  rintro l1 D1 ⟨hl1, hD1⟩ hP
  obtain ⟨g1b, g1c, rfl⟩ := hl1.slice
  have hB1 := View.le_trans hAD hD1
  refine ⟨ov_mono hD1, hR _ _ _ ?_⟩; clear hR R
  refine seqR_hide fun R hR => ?_
  simp [go_sem, hcz, hco, hc11, hc0, hez, heo, d54, d45, hk, g2, g3, g4, g5, g65, g66, g67, hi, hii]
  refine call_ov hP (appendEl43 D1 t el 12 c _ (hc.le hB1) hpl.pt (by omega) (by omega) hk htag hl1 hpe.pt (by omega)) ?_
  clear hP
  rintro _ D2 ⟨ca, fa, rfl, hca, hfa, hD2⟩ hP
  obtain ⟨g2b, g2c, rfl⟩ := hfa.slice
  have hB2 := View.le_trans hB1 hD2
  have hza := hca.size
  have hpa := hca.ones
  refine hR _ _ _ ?_; clear hR R
  iterate 4 (refine seqR_hide fun R hR => ?_; simp [go_sem, hcz, hco, hc11, hc0, hez, heo, d54, d45, hk, g2, g3, g4, g5, g65, g66, g67, hi, hii, hza, hpa]; refine hR _ _ _ ?_; clear hR R)
  refine seqR_hide fun R hR => ?_
  simp [go_sem, hcz, hco, hc11, hc0, hez, heo, d54, d45, hk, g2, g3, g4, g5, g65, g66, g67, hi, hii, hza, hpa]
  intro q11 hq11
  replace hP := hP.cons hq11
  clear hq11
  have d115 : q11 ≠ q5 := (hP.ne q5 (by simp [addrs])).1
  have d511 : q5 ≠ q11 := (hP.ne q5 (by simp [addrs])).2
  have d114 : q11 ≠ q4 := (hP.ne q4 (by simp [addrs])).1
  have d411 : q4 ≠ q11 := (hP.ne q4 (by simp [addrs])).2
  refine hR _ _ _ ?_; clear hR R
  refine seqR_hide fun R hR => ?_
  simp [go_sem, hcz, hco, hc11, hc0, hez, heo, d54, d45, hk, g2, g3, g4, g5, g65, g66, g67, hi, hii, hza, hpa, d115, d511, d114, d411]
  refine hR _ _ _ ?_; clear hR R
  iterate 2 (refine seqR_hide fun R hR => ?_; simp [go_sem, hcz, hco, hc11, hc0, hez, heo, d54, d45, hk, g2, g3, g4, g5, g65, g66, g67, hi, hii, hza, hpa, d115, d511, d114, d411]; refine hR _ _ _ ?_; clear hR R)
  rw [seqR_nil]
  refine hK _ _ _ ?_; clear hK K
  refine hN10 _ _ _ ?_
  refine xc_two fun N11 hN11 => ?_
  refine xc_reg2 fun K hK => ?_
  simp only [rall, rsl, gres]
  iterate 3 (refine seqX_hide2 fun R hR => ?_; simp [go_sem, hcz, hco, hc11, hc0, hez, heo, d54, d45, hk, g2, g3, g4, g5, g65, g66, g67, hi, hii, hza, hpa, d115, d511, d114, d411]; refine hR _ _ _ ?_; clear hR R)
  refine seqX_hide2 fun R hR => ?_
  simp [go_sem, hcz, hco, hc11, hc0, hez, heo, d54, d45, hk, g2, g3, g4, g5, g65, g66, g67, hi, hii, hza, hpa, d115, d511, d114, d411]
  refine call_ov hP (setElem34 D2 t none 12 c _ _ _ ks vs (hc.le hB2) hpl.pt (by omega) (by omega) hk htag (Elems.nil _ _ _) (fun x hx => by cases hx) (hks.le hB2) (hvs.le hB2) hl h0 h5 hkn hvn hkids) ?_
  clear hP
  rintro _ D3 ⟨cb, fb, rfl, hcb, hfb, hD3⟩ hP
  obtain ⟨g3b, g3c, rfl⟩ := hfb.slice
  have hB3 := View.le_trans hB2 hD3
  have hzb := hcb.size
  have hpb := hcb.ones
  refine hR _ _ _ ?_; clear hR R
  iterate 4 (refine seqX_hide2 fun R hR => ?_; simp [go_sem, hcz, hco, hc11, hc0, hez, heo, d54, d45, hk, g2, g3, g4, g5, g65, g66, g67, hi, hii, hza, hpa, d115, d511, d114, d411, hzb, hpb]; refine hR _ _ _ ?_; clear hR R)
  refine seqX_hide2 fun R hR => ?_
  simp [go_sem, hcz, hco, hc11, hc0, hez, heo, d54, d45, hk, g2, g3, g4, g5, g65, g66, g67, hi, hii, hza, hpa, d115, d511, d114, d411, hzb, hpb]
  intro q14 hq14
  replace hP := hP.cons hq14
  clear hq14
  have d1411 : q14 ≠ q11 := (hP.ne q11 (by simp [addrs])).1
  have d1114 : q11 ≠ q14 := (hP.ne q11 (by simp [addrs])).2
  have d145 : q14 ≠ q5 := (hP.ne q5 (by simp [addrs])).1
  have d514 : q5 ≠ q14 := (hP.ne q5 (by simp [addrs])).2
  have d144 : q14 ≠ q4 := (hP.ne q4 (by simp [addrs])).1
  have d414 : q4 ≠ q14 := (hP.ne q4 (by simp [addrs])).2
  refine hR _ _ _ ?_; clear hR R
  refine seqX_hide2 fun R hR => ?_
  simp [go_sem, hcz, hco, hc11, hc0, hez, heo, d54, d45, hk, g2, g3, g4, g5, g65, g66, g67, hi, hii, hza, hpa, d115, d511, d114, d411, hzb, hpb, d1411, d1114, d145, d514, d144, d414]
  refine hR _ _ _ ?_; clear hR R
  iterate 2 (refine seqX_hide2 fun R hR => ?_; simp [go_sem, hcz, hco, hc11, hc0, hez, heo, d54, d45, hk, g2, g3, g4, g5, g65, g66, g67, hi, hii, hza, hpa, d115, d511, d114, d411, hzb, hpb, d1411, d1114, d145, d514, d144, d414]; refine hR _ _ _ ?_; clear hR R)
  rw [seqX_nil]
  refine hK _ _ _ ?_; clear hK K
  refine hN11 _ _ _ ?_
  refine xc_two fun N12 hN12 => ?_
  rw [xc_draws]
  refine vdrawK [(0, true), (1, true), (2, true), (3, true), (4, true), (5, false), (6, true), (7, true), (8, true), (9, true), (10, true), (11, false), (12, true), (13, true)] (ov D3 [(q14, .cells cb 24 (0, 0)), (q11, .cells ca 24 (0, 0)), (q5, .cells ce 24 (0, 0)), (q4, .cells c 24 (0, 0))]) mixed (by kernel_rfl) (View.le_refl _) fun K hK => ?_
  simp only [rsl, gres]
  iterate 2 (refine seqR_hide fun R hR => ?_; simp [go_sem, hcz, hco, hc11, hc0, hez, heo, d54, d45, hk, g2, g3, g4, g5, g65, g66, g67, hi, hii, hza, hpa, d115, d511, d114, d411, hzb, hpb, d1411, d1114, d145, d514, d144, d414]; refine hR _ _ _ ?_; clear hR R)
  refine seqR_hide fun R hR => ?_
  simp [go_sem, hcz, hco, hc11, hc0, hez, heo, d54, d45, hk, g2, g3, g4, g5, g65, g66, g67, hi, hii, hza, hpa, d115, d511, d114, d411, hzb, hpb, d1411, d1114, d145, d514, d144, d414]
  refine call_ov hP (one11 D3 el ce (hce.le hB3)) ?_
  clear hP
  rintro l2 D4 ⟨hl2, hD4⟩ hP
  obtain ⟨g4b, g4c, rfl⟩ := hl2.slice
  have hB4 := View.le_trans hB3 hD4
  refine ⟨ov_mono hD4, hR _ _ _ ?_⟩; clear hR R
  iterate 2 (refine seqR_hide fun R hR => ?_; simp [go_sem, hcz, hco, hc11, hc0, hez, heo, d54, d45, hk, g2, g3, g4, g5, g65, g66, g67, hi, hii, hza, hpa, d115, d511, d114, d411, hzb, hpb, d1411, d1114, d145, d514, d144, d414]; refine hR _ _ _ ?_; clear hR R)
  refine seqR_hide fun R hR => ?_
  simp [go_sem, hcz, hco, hc11, hc0, hez, heo, d54, d45, hk, g2, g3, g4, g5, g65, g66, g67, hi, hii, hza, hpa, d115, d511, d114, d411, hzb, hpb, d1411, d1114, d145, d514, d144, d414]
  refine call_ov hP (setElem34 D4 t (some el) 12 c _ _ _ ks vs (hc.le hB4) hpl.pt (by omega) (by omega) hk htag hl2 hpx (hks.le hB4) (hvs.le hB4) hl h0 h5 hkn hvn hkids) ?_
  clear hP
  rintro _ D5 ⟨cd, fd, rfl, hcd, hfd, hD5⟩ hP
  obtain ⟨g5b, g5c, rfl⟩ := hfd.slice
  have hB5 := View.le_trans hB4 hD5
  have hzd := hcd.size
  have hpd := hcd.ones
  have hca := hca.le (View.le_trans hD3 (View.le_trans hD4 hD5))
  have hcb := hcb.le (View.le_trans hD4 hD5)
  have hTa := hca.at11 (by rw [hza]; decide)
  have hTb := hcb.at11 (by rw [hzb]; decide)
  have hTd := hcd.at11 (by rw [hzd]; decide)
  rw [setK_kids2] at hTa hTb hTd
  obtain ⟨ba, ka, xa, hTa⟩ := hTa
  obtain ⟨b2, k2, xb, hTb⟩ := hTb
  obtain ⟨bd, kd, xd, hTd⟩ := hTd
  replace hTd : Trs D5 (.slice bd (resT (fitK ks vs) [el] t.kids).length kd) (resT (fitK ks vs) [el] t.kids) := hTd
  replace xd : cd[11] = .slice bd (resT (fitK ks vs) [el] t.kids).length kd := xd
  have hLa : (t.kids ++ [el]).length = t.kids.length + 1 := by simp
  have hLb : resT (fitK ks vs) (opt1 none) t.kids = setT (fitK ks vs) [] t.kids := resT_nil _ _
  rw [hLb] at hTb xb
  have hLd := resT_len (fitK ks vs) el t.kids
  generalize (t.kids ++ [el]).length = na at hTa xa hLa
  generalize hnb : (setT (fitK ks vs) [] t.kids).length = nb at hTb xb
  generalize (resT (fitK ks vs) [el] t.kids).length = nd at hTd xd hLd
  have hwn : IntKind.i64.wrap ((t.kids.length : Int) + 1) = (na : Int) := by rw [wrap_in (by omega) (by omega)]; omega
  have hw0 : IntKind.i64.wrap 0 = 0 := wrap_in (by decide) (by decide)
  have hlt : ¬ (nd : Int) < t.kids.length := by omega
  have hlt2 : ¬ nd < t.kids.length := by omega
  refine hR _ _ _ ?_; clear hR R
  iterate 4 (refine seqR_hide fun R hR => ?_; simp [go_sem, hcz, hco, hc11, hc0, hez, heo, d54, d45, hk, g2, g3, g4, g5, g65, g66, g67, hi, hii, hza, hpa, d115, d511, d114, d411, hzb, hpb, d1411, d1114, d145, d514, d144, d414, hzd, hpd, xa, xb, xd, hwn, hw0, hlt, hlt2]; refine hR _ _ _ ?_; clear hR R)
  refine seqR_hide fun R hR => ?_
  simp [go_sem, hcz, hco, hc11, hc0, hez, heo, d54, d45, hk, g2, g3, g4, g5, g65, g66, g67, hi, hii, hza, hpa, d115, d511, d114, d411, hzb, hpb, d1411, d1114, d145, d514, d144, d414, hzd, hpd, xa, xb, xd, hwn, hw0, hlt, hlt2]
  intro q17 hq17
  replace hP := hP.cons hq17
  clear hq17
  have d1714 : q17 ≠ q14 := (hP.ne q14 (by simp [addrs])).1
  have d1417 : q14 ≠ q17 := (hP.ne q14 (by simp [addrs])).2
  have d1711 : q17 ≠ q11 := (hP.ne q11 (by simp [addrs])).1
  have d1117 : q11 ≠ q17 := (hP.ne q11 (by simp [addrs])).2
  have d175 : q17 ≠ q5 := (hP.ne q5 (by simp [addrs])).1
  have d517 : q5 ≠ q17 := (hP.ne q5 (by simp [addrs])).2
  have d174 : q17 ≠ q4 := (hP.ne q4 (by simp [addrs])).1
  have d417 : q4 ≠ q17 := (hP.ne q4 (by simp [addrs])).2
  refine hR _ _ _ ?_; clear hR R
  refine seqR_hide fun R hR => ?_
  simp [go_sem, hcz, hco, hc11, hc0, hez, heo, d54, d45, hk, g2, g3, g4, g5, g65, g66, g67, hi, hii, hza, hpa, d115, d511, d114, d411, hzb, hpb, d1411, d1114, d145, d514, d144, d414, hzd, hpd, xa, xb, xd, hwn, hw0, hlt, hlt2, d1714, d1417, d1711, d1117, d175, d517, d174, d417]
  refine hR _ _ _ ?_; clear hR R
  iterate 2 (refine seqR_hide fun R hR => ?_; simp [go_sem, hcz, hco, hc11, hc0, hez, heo, d54, d45, hk, g2, g3, g4, g5, g65, g66, g67, hi, hii, hza, hpa, d115, d511, d114, d411, hzb, hpb, d1411, d1114, d145, d514, d144, d414, hzd, hpd, xa, xb, xd, hwn, hw0, hlt, hlt2, d1714, d1417, d1711, d1117, d175, d517, d174, d417]; refine hR _ _ _ ?_; clear hR R)
  rw [seqR_nil]
  refine hK _ _ _ ?_; clear hK K
  refine hN12 _ _ _ ?_
  refine xc_two fun N13 hN13 => ?_
  refine xc_two fun N14 hN14 => ?_
  refine xc_reg2 fun K hK => ?_
  simp only [rall, rsl, gres]
  iterate 25 (refine seqX_hide2 fun R hR => ?_; simp [go_sem, hcz, hco, hc11, hc0, hez, heo, d54, d45, hk, g2, g3, g4, g5, g65, g66, g67, hi, hii, hza, hpa, d115, d511, d114, d411, hzb, hpb, d1411, d1114, d145, d514, d144, d414, hzd, hpd, xa, xb, xd, hwn, hw0, hlt, hlt2, d1714, d1417, d1711, d1117, d175, d517, d174, d417]; refine hR _ _ _ ?_; clear hR R)
  rw [seqX_nil]
  refine hK _ _ _ ?_; clear hK K
  refine hN14 _ _ _ ?_
  refine xc_iffalse (by simp [go_sem, hcz, hco, hc11, hc0, hez, heo, d54, d45, hk, g2, g3, g4, g5, g65, g66, g67, hi, hii, hza, hpa, d115, d511, d114, d411, hzb, hpb, d1411, d1114, d145, d514, d144, d414, hzd, hpd, xa, xb, xd, hwn, hw0, hlt, hlt2, d1714, d1417, d1711, d1117, d175, d517, d174, d417]) ?_
  refine hN13 _ _ _ ?_
  refine xc_two fun N15 hN15 => ?_
  refine xc_reg2 fun K hK => ?_
  simp only [rall, rsl, gres]
  (refine seqX_hide2 fun R hR => ?_; simp [go_sem, hcz, hco, hc11, hc0, hez, heo, d54, d45, hk, g2, g3, g4, g5, g65, g66, g67, hi, hii, hza, hpa, d115, d511, d114, d411, hzb, hpb, d1411, d1114, d145, d514, d144, d414, hzd, hpd, xa, xb, xd, hwn, hw0, hlt, hlt2, d1714, d1417, d1711, d1117, d175, d517, d174, d417]; refine hR _ _ _ ?_; clear hR R)
  rw [seqX_nil]
  refine hK _ _ _ ?_; clear hK K
  refine hN15 _ _ _ ?_
  refine xc_two fun N16 hN16 => ?_
  refine xc_two fun N17 hN17 => ?_
  refine xc_reg2 fun K hK => ?_
  simp only [rall, rsl, gres]
  iterate 4 (refine seqX_hide2 fun R hR => ?_; simp [go_sem, hcz, hco, hc11, hc0, hez, heo, d54, d45, hk, g2, g3, g4, g5, g65, g66, g67, hi, hii, hza, hpa, d115, d511, d114, d411, hzb, hpb, d1411, d1114, d145, d514, d144, d414, hzd, hpd, xa, xb, xd, hwn, hw0, hlt, hlt2, d1714, d1417, d1711, d1117, d175, d517, d174, d417]; refine hR _ _ _ ?_; clear hR R)
  rw [seqX_nil]
  refine hK _ _ _ ?_; clear hK K
  refine hN17 _ _ _ ?_
  rw [xc_block]
  rw [xc_loop]
  refine vloopK (fun k' e ds A' => ∃ (j : Nat) (D6 : View) (k : Nat), k' = t.kids.length - j ∧ ds = [] ∧ A' = ov D6 [(q17, .cells cd 24 (0, 0)), (q14, .cells cb 24 (0, 0)), (q11, .cells ca 24 (0, 0)), (q5, .cells ce 24 (0, 0)), (q4, .cells c 24 (0, 0))] ∧ Priv D6 [q17, q14, q11, q5, q4] ∧ e 2 = .slice kb ks.length kc ∧ e 3 = .slice wb vs.length wc ∧ e 4 = .pointer (some ⟨q4, 0, none⟩) ∧ e 11 = .pointer (some ⟨q11, 0, none⟩) ∧ e 14 = .pointer (some ⟨q14, 0, none⟩) ∧ e 17 = .pointer (some ⟨q17, 0, none⟩) ∧ e 20 = .int .i64 k ∧ e 137 = .slice bb t.kids.length bc0 ∧ e 138 = .int .i64 t.kids.length ∧ e 139 = .int .i64 j ∧ (j ≤ t.kids.length) ∧ (D5 ≤ D6) ∧ (k = (setT (fitK ks vs) [] (t.kids.take j)).length) ∧ (k ≤ j)) _ ⟨0, D5, 0, rfl, rfl, rfl, hP, by simp [go_sem, hcz, hco, hc11, hc0, hez, heo, d54, d45, hk, g2, g3, g4, g5, g65, g66, g67, hi, hii, hza, hpa, d115, d511, d114, d411, hzb, hpb, d1411, d1114, d145, d514, d144, d414, hzd, hpd, xa, xb, xd, hwn, hw0, hlt, hlt2, d1714, d1417, d1711, d1117, d175, d517, d174, d417], by simp [go_sem, hcz, hco, hc11, hc0, hez, heo, d54, d45, hk, g2, g3, g4, g5, g65, g66, g67, hi, hii, hza, hpa, d115, d511, d114, d411, hzb, hpb, d1411, d1114, d145, d514, d144, d414, hzd, hpd, xa, xb, xd, hwn, hw0, hlt, hlt2, d1714, d1417, d1711, d1117, d175, d517, d174, d417], by simp [go_sem, hcz, hco, hc11, hc0, hez, heo, d54, d45, hk, g2, g3, g4, g5, g65, g66, g67, hi, hii, hza, hpa, d115, d511, d114, d411, hzb, hpb, d1411, d1114, d145, d514, d144, d414, hzd, hpd, xa, xb, xd, hwn, hw0, hlt, hlt2, d1714, d1417, d1711, d1117, d175, d517, d174, d417], by simp [go_sem, hcz, hco, hc11, hc0, hez, heo, d54, d45, hk, g2, g3, g4, g5, g65, g66, g67, hi, hii, hza, hpa, d115, d511, d114, d411, hzb, hpb, d1411, d1114, d145, d514, d144, d414, hzd, hpd, xa, xb, xd, hwn, hw0, hlt, hlt2, d1714, d1417, d1711, d1117, d175, d517, d174, d417], by simp [go_sem, hcz, hco, hc11, hc0, hez, heo, d54, d45, hk, g2, g3, g4, g5, g65, g66, g67, hi, hii, hza, hpa, d115, d511, d114, d411, hzb, hpb, d1411, d1114, d145, d514, d144, d414, hzd, hpd, xa, xb, xd, hwn, hw0, hlt, hlt2, d1714, d1417, d1711, d1117, d175, d517, d174, d417], by simp [go_sem, hcz, hco, hc11, hc0, hez, heo, d54, d45, hk, g2, g3, g4, g5, g65, g66, g67, hi, hii, hza, hpa, d115, d511, d114, d411, hzb, hpb, d1411, d1114, d145, d514, d144, d414, hzd, hpd, xa, xb, xd, hwn, hw0, hlt, hlt2, d1714, d1417, d1711, d1117, d175, d517, d174, d417], by simp [go_sem, hcz, hco, hc11, hc0, hez, heo, d54, d45, hk, g2, g3, g4, g5, g65, g66, g67, hi, hii, hza, hpa, d115, d511, d114, d411, hzb, hpb, d1411, d1114, d145, d514, d144, d414, hzd, hpd, xa, xb, xd, hwn, hw0, hlt, hlt2, d1714, d1417, d1711, d1117, d175, d517, d174, d417], by simp [go_sem, hcz, hco, hc11, hc0, hez, heo, d54, d45, hk, g2, g3, g4, g5, g65, g66, g67, hi, hii, hza, hpa, d115, d511, d114, d411, hzb, hpb, d1411, d1114, d145, d514, d144, d414, hzd, hpd, xa, xb, xd, hwn, hw0, hlt, hlt2, d1714, d1417, d1711, d1117, d175, d517, d174, d417], by simp [go_sem, hcz, hco, hc11, hc0, hez, heo, d54, d45, hk, g2, g3, g4, g5, g65, g66, g67, hi, hii, hza, hpa, d115, d511, d114, d411, hzb, hpb, d1411, d1114, d145, d514, d144, d414, hzd, hpd, xa, xb, xd, hwn, hw0, hlt, hlt2, d1714, d1417, d1711, d1117, d175, d517, d174, d417], by simp [go_sem, hcz, hco, hc11, hc0, hez, heo, d54, d45, hk, g2, g3, g4, g5, g65, g66, g67, hi, hii, hza, hpa, d115, d511, d114, d411, hzb, hpb, d1411, d1114, d145, d514, d144, d414, hzd, hpd, xa, xb, xd, hwn, hw0, hlt, hlt2, d1714, d1417, d1711, d1117, d175, d517, d174, d417], by omega, View.le_refl _, rfl, Nat.le_refl _⟩ ?_
  clear g2 g3 g4 g5 g65 g66 g67
  clear hP
  rintro k' e ds _ ⟨j, D6, k, rfl, rfl, rfl, hP, g2, g3, g4, g11, g14, g17, g20, g137, g138, g139, hjl, hD56, hkj, hkj2⟩ J1 X1 hJ1 hX1
  refine xc_sound _ ?_
  have hwj : IntKind.i64.wrap ((j : Int) + 1) = ((j + 1 : Nat) : Int) := by rw [wrap_in (by omega) (by omega)]; omega
  have hwk : IntKind.i64.wrap ((k : Int) + 1) = ((k + 1 : Nat) : Int) := by rw [wrap_in (by omega) (by omega)]; omega
  have hB6 := View.le_trans hB5 hD56
  by_cases hj : j < t.kids.length
  rotate_left
  · have hji : ¬ (j : Int) < t.kids.length := by omega
    rw [List.take_of_length_le (by omega), hnb] at hkj
    have hkb : ((k : Int) == (nb : Int)) = true := by rw [hkj]; exact beq_self_eq_true _
    refine xc_two fun N18 hN18 => ?_
    refine xc_reg2 fun K hK => ?_
    simp only [rall, rsl, gres]
    (refine seqX_hide2 fun R hR => ?_; simp [go_sem, hcz, hco, hc11, hc0, hez, heo, d54, d45, hk, hi, hii, hza, hpa, d115, d511, d114, d411, hzb, hpb, d1411, d1114, d145, d514, d144, d414, hzd, hpd, xa, xb, xd, hwn, hw0, hlt, hlt2, d1714, d1417, d1711, d1117, d175, d517, d174, d417, g2, g3, g4, g11, g14, g17, g20, g137, g138, g139, hj, hji, hkj]; refine hR _ _ _ ?_; clear hR R)
    rw [seqX_nil]
    refine hK _ _ _ ?_; clear hK K
    refine hN18 _ _ _ ?_
    refine xc_two fun N19 hN19 => ?_
    refine xc_iffalse (by simp [go_sem, hcz, hco, hc11, hc0, hez, heo, d54, d45, hk, hi, hii, hza, hpa, d115, d511, d114, d411, hzb, hpb, d1411, d1114, d145, d514, d144, d414, hzd, hpd, xa, xb, xd, hwn, hw0, hlt, hlt2, d1714, d1417, d1711, d1117, d175, d517, d174, d417, g2, g3, g4, g11, g14, g17, g20, g137, g138, g139, hj, hji, hkj]) ?_
    refine hX1 _ _ _ _ ?_
    refine hN16 _ _ _ ?_
    refine xc_two fun N20 hN20 => ?_
    refine xc_reg2 fun K hK => ?_
    simp only [rall, rsl, gres]
    iterate 6 (refine seqX_hide2 fun R hR => ?_; simp [go_sem, hcz, hco, hc11, hc0, hez, heo, d54, d45, hk, hi, hii, hza, hpa, d115, d511, d114, d411, hzb, hpb, d1411, d1114, d145, d514, d144, d414, hzd, hpd, xa, xb, xd, hwn, hw0, hlt, hlt2, d1714, d1417, d1711, d1117, d175, d517, d174, d417, g2, g3, g4, g11, g14, g17, g20, g137, g138, g139, hj, hji, hkj]; refine hR _ _ _ ?_; clear hR R)
    refine seqX_hide2 fun R hR => ?_
    simp [go_sem, hcz, hco, hc11, hc0, hez, heo, d54, d45, hk, hi, hii, hza, hpa, d115, d511, d114, d411, hzb, hpb, d1411, d1114, d145, d514, d144, d414, hzd, hpd, xa, xb, xd, hwn, hw0, hlt, hlt2, d1714, d1417, d1711, d1117, d175, d517, d174, d417, g2, g3, g4, g11, g14, g17, g20, g137, g138, g139, hj, hji, hkj]
    refine call_ov hP (lives28 D6) ?_
    clear hP
    rintro _ D7 ⟨rfl, hD7⟩ hP
    refine hR _ _ _ ?_; clear hR R
    iterate 2 (refine seqX_hide2 fun R hR => ?_; simp [go_sem, hcz, hco, hc11, hc0, hez, heo, d54, d45, hk, hi, hii, hza, hpa, d115, d511, d114, d411, hzb, hpb, d1411, d1114, d145, d514, d144, d414, hzd, hpd, xa, xb, xd, hwn, hw0, hlt, hlt2, d1714, d1417, d1711, d1117, d175, d517, d174, d417, g2, g3, g4, g11, g14, g17, g20, g137, g138, g139, hj, hji, hkj]; refine hR _ _ _ ?_; clear hR R)
    rw [seqX_nil]
    refine hK _ _ _ ?_; clear hK K
    refine hN20 _ _ _ ?_
    simp [go_sem, hcz, hco, hc11, hc0, hez, heo, d54, d45, hk, hi, hii, hza, hpa, d115, d511, d114, d411, hzb, hpb, d1411, d1114, d145, d514, d144, d414, hzd, hpd, xa, xb, xd, hwn, hw0, hlt, hlt2, d1714, d1417, d1711, d1117, d175, d517, d174, d417, g2, g3, g4, g11, g14, g17, g20, g137, g138, g139, hj, hji, hkj]
    exact View.le_trans hB6 (View.le_trans hD7 (le_ov hP))
  have hji : (j : Int) < t.kids.length := by omega
  obtain ⟨ai, ci, e1, u1, hci, -⟩ := trs_at htr (List.getElem?_eq_getElem hj)
  subst e1
  have u1 := le_cells hB6 _ _ _ u1
  have hci := hci.le hB6
  have hzi := hci.size
  have hoi := hci.ones
  obtain ⟨aa, cai, e2, u2, hcai, hja⟩ := trs_at hTa (show (t.kids ++ [el])[j]? = some t.kids[j] by rw [List.getElem?_append_left hj]; exact List.getElem?_eq_getElem hj)
  subst e2
  have u2 := le_cells hD56 _ _ _ u2
  have hcai := hcai.le hD56
  have hzai := hcai.size
  have hoai := hcai.ones
  have hjai : (j : Int) < na := by omega
  have hnk : nds t.kids[j] ≤ 1000000 := by have := nds_kid' (List.getElem_mem hj); omega
  have hfe := (hpl.kid (List.getElem_mem hj)).fit hl h0 hvn
  have hkz2 : t.kids[j].kids.length ≤ 1000000 := by have h1 := nds_kl9 t.kids[j]; omega
  have hstp := setT_step (fitK ks vs) [] t.kids hj
  refine xc_two fun N18 hN18 => ?_
  refine xc_reg2 fun K hK => ?_
  simp only [rall, rsl, gres]
  (refine seqX_hide2 fun R hR => ?_; simp [go_sem, hcz, hco, hc11, hc0, hez, heo, d54, d45, hk, hi, hii, hza, hpa, d115, d511, d114, d411, hzb, hpb, d1411, d1114, d145, d514, d144, d414, hzd, hpd, xa, xb, xd, hwn, hw0, hlt, hlt2, d1714, d1417, d1711, d1117, d175, d517, d174, d417, g2, g3, g4, g11, g14, g17, g20, g137, g138, g139, hj, hji, hwj, hwk, hzi, hoi, hzai, hoai, hja, hjai, bcs hP u1, bcs hP u2, xindexAt, vload]; refine hR _ _ _ ?_; clear hR R)
  rw [seqX_nil]
  refine hK _ _ _ ?_; clear hK K
  refine hN18 _ _ _ ?_
  refine xc_two fun N19 hN19 => ?_
  refine xc_iftrue (by simp [go_sem, hcz, hco, hc11, hc0, hez, heo, d54, d45, hk, hi, hii, hza, hpa, d115, d511, d114, d411, hzb, hpb, d1411, d1114, d145, d514, d144, d414, hzd, hpd, xa, xb, xd, hwn, hw0, hlt, hlt2, d1714, d1417, d1711, d1117, d175, d517, d174, d417, g2, g3, g4, g11, g14, g17, g20, g137, g138, g139, hj, hji, hwj, hwk, hzi, hoi, hzai, hoai, hja, hjai, bcs hP u1, bcs hP u2, xindexAt, vload]) ?_
  refine hN19 _ _ _ ?_
  refine xc_two fun N20 hN20 => ?_
  rw [xc_block]
  refine xc_two fun N21 hN21 => ?_
  refine xc_reg2 fun K hK => ?_
  simp only [rall, rsl, gres]
  iterate 3 (refine seqX_hide2 fun R hR => ?_; simp [go_sem, hcz, hco, hc11, hc0, hez, heo, d54, d45, hk, hi, hii, hza, hpa, d115, d511, d114, d411, hzb, hpb, d1411, d1114, d145, d514, d144, d414, hzd, hpd, xa, xb, xd, hwn, hw0, hlt, hlt2, d1714, d1417, d1711, d1117, d175, d517, d174, d417, g2, g3, g4, g11, g14, g17, g20, g137, g138, g139, hj, hji, hwj, hwk, hzi, hoi, hzai, hoai, hja, hjai, bcs hP u1, bcs hP u2, xindexAt, vload]; refine hR _ _ _ ?_; clear hR R)
  refine seqX_hide2 fun R hR => ?_
  simp [go_sem, hcz, hco, hc11, hc0, hez, heo, d54, d45, hk, hi, hii, hza, hpa, d115, d511, d114, d411, hzb, hpb, d1411, d1114, d145, d514, d144, d414, hzd, hpd, xa, xb, xd, hwn, hw0, hlt, hlt2, d1714, d1417, d1711, d1117, d175, d517, d174, d417, g2, g3, g4, g11, g14, g17, g20, g137, g138, g139, hj, hji, hwj, hwk, hzi, hoi, hzai, hoai, hja, hjai, bcs hP u1, bcs hP u2, xindexAt, vload]
  intro q22 hq22
  replace hP := hP.cons hq22
  clear hq22
  have d2217 : q22 ≠ q17 := (hP.ne q17 (by simp [addrs])).1
  have d1722 : q17 ≠ q22 := (hP.ne q17 (by simp [addrs])).2
  have d2214 : q22 ≠ q14 := (hP.ne q14 (by simp [addrs])).1
  have d1422 : q14 ≠ q22 := (hP.ne q14 (by simp [addrs])).2
  have d2211 : q22 ≠ q11 := (hP.ne q11 (by simp [addrs])).1
  have d1122 : q11 ≠ q22 := (hP.ne q11 (by simp [addrs])).2
  have d225 : q22 ≠ q5 := (hP.ne q5 (by simp [addrs])).1
  have d522 : q5 ≠ q22 := (hP.ne q5 (by simp [addrs])).2
  have d224 : q22 ≠ q4 := (hP.ne q4 (by simp [addrs])).1
  have d422 : q4 ≠ q22 := (hP.ne q4 (by simp [addrs])).2
  refine hR _ _ _ ?_; clear hR R
  (refine seqX_hide2 fun R hR => ?_; simp [go_sem, hcz, hco, hc11, hc0, hez, heo, d54, d45, hk, hi, hii, hza, hpa, d115, d511, d114, d411, hzb, hpb, d1411, d1114, d145, d514, d144, d414, hzd, hpd, xa, xb, xd, hwn, hw0, hlt, hlt2, d1714, d1417, d1711, d1117, d175, d517, d174, d417, g2, g3, g4, g11, g14, g17, g20, g137, g138, g139, hj, hji, hwj, hwk, hzi, hoi, hzai, hoai, hja, hjai, bcs hP u1, bcs hP u2, xindexAt, vload, d2217, d1722, d2214, d1422, d2211, d1122, d225, d522, d224, d422]; refine hR _ _ _ ?_; clear hR R)
  refine seqX_hide2 fun R hR => ?_
  simp [go_sem, hcz, hco, hc11, hc0, hez, heo, d54, d45, hk, hi, hii, hza, hpa, d115, d511, d114, d411, hzb, hpb, d1411, d1114, d145, d514, d144, d414, hzd, hpd, xa, xb, xd, hwn, hw0, hlt, hlt2, d1714, d1417, d1711, d1117, d175, d517, d174, d417, g2, g3, g4, g11, g14, g17, g20, g137, g138, g139, hj, hji, hwj, hwk, hzi, hoi, hzai, hoai, hja, hjai, bcs hP u1, bcs hP u2, xindexAt, vload, d2217, d1722, d2214, d1422, d2211, d1122, d225, d522, d224, d422]
  refine hR _ _ _ ?_; clear hR R
  rw [seqX_nil]
  refine hK _ _ _ ?_; clear hK K
  refine hN21 _ _ _ ?_
  refine xc_two fun N22 hN22 => ?_
  refine xc_two fun N23 hN23 => ?_
  rw [xc_draws]
  refine vdrawK [(0, true), (1, true), (2, true), (3, true), (4, true), (5, true), (6, false), (7, true)] (ov D6 [(q22, .cells ci 24 (0, 0)), (q17, .cells cd 24 (0, 0)), (q14, .cells cb 24 (0, 0)), (q11, .cells ca 24 (0, 0)), (q5, .cells ce 24 (0, 0)), (q4, .cells c 24 (0, 0))]) mixed (by kernel_rfl) (View.le_refl _) fun K hK => ?_
  simp only [rsl, gres]
  iterate 6 (refine seqR_hide fun R hR => ?_; simp [go_sem, hcz, hco, hc11, hc0, hez, heo, d54, d45, hk, hi, hii, hza, hpa, d115, d511, d114, d411, hzb, hpb, d1411, d1114, d145, d514, d144, d414, hzd, hpd, xa, xb, xd, hwn, hw0, hlt, hlt2, d1714, d1417, d1711, d1117, d175, d517, d174, d417, g2, g3, g4, g11, g14, g17, g20, g137, g138, g139, hj, hji, hwj, hwk, hzi, hoi, hzai, hoai, hja, hjai, bcs hP u1, bcs hP u2, xindexAt, vload, d2217, d1722, d2214, d1422, d2211, d1122, d225, d522, d224, d422]; refine hR _ _ _ ?_; clear hR R)
  refine seqR_hide fun R hR => ?_
  simp [go_sem, hcz, hco, hc11, hc0, hez, heo, d54, d45, hk, hi, hii, hza, hpa, d115, d511, d114, d411, hzb, hpb, d1411, d1114, d145, d514, d144, d414, hzd, hpd, xa, xb, xd, hwn, hw0, hlt, hlt2, d1714, d1417, d1711, d1117, d175, d517, d174, d417, g2, g3, g4, g11, g14, g17, g20, g137, g138, g139, hj, hji, hwj, hwk, hzi, hoi, hzai, hoai, hja, hjai, bcs hP u1, bcs hP u2, xindexAt, vload, d2217, d1722, d2214, d1422, d2211, d1122, d225, d522, d224, d422]
  refine call_ov hP (exact44 t.kids[j] D6 cai ci hcai hci hnk) ?_
  clear hP
  rintro _ D7 ⟨rfl, hD7⟩ hP
  have hD57 := View.le_trans hD56 hD7
  have hB7 := View.le_trans hB5 hD57
  refine hR _ _ _ ?_; clear hR R
  (refine seqR_hide fun R hR => ?_; simp [go_sem, hcz, hco, hc11, hc0, hez, heo, d54, d45, hk, hi, hii, hza, hpa, d115, d511, d114, d411, hzb, hpb, d1411, d1114, d145, d514, d144, d414, hzd, hpd, xa, xb, xd, hwn, hw0, hlt, hlt2, d1714, d1417, d1711, d1117, d175, d517, d174, d417, g2, g3, g4, g11, g14, g17, g20, g137, g138, g139, hj, hji, hwj, hwk, hzi, hoi, hzai, hoai, hja, hjai, xindexAt, vload, d2217, d1722, d2214, d1422, d2211, d1122, d225, d522, d224, d422]; refine hR _ _ _ ?_; clear hR R)
  rw [seqR_nil]
  refine hK _ _ _ ?_; clear hK K
  refine hN23 _ _ _ ?_
  refine xc_iffalse (by simp [go_sem, hcz, hco, hc11, hc0, hez, heo, d54, d45, hk, hi, hii, hza, hpa, d115, d511, d114, d411, hzb, hpb, d1411, d1114, d145, d514, d144, d414, hzd, hpd, xa, xb, xd, hwn, hw0, hlt, hlt2, d1714, d1417, d1711, d1117, d175, d517, d174, d417, g2, g3, g4, g11, g14, g17, g20, g137, g138, g139, hj, hji, hwj, hwk, hzi, hoi, hzai, hoai, hja, hjai, xindexAt, vload, d2217, d1722, d2214, d1422, d2211, d1122, d225, d522, d224, d422]) ?_
  refine hN22 _ _ _ ?_
  refine xc_two fun N24 hN24 => ?_
  refine xc_two fun N25 hN25 => ?_
  refine xc_reg2 fun K hK => ?_
  simp only [rall, rsl, gres]
  iterate 3 (refine seqX_hide2 fun R hR => ?_; simp [go_sem, hcz, hco, hc11, hc0, hez, heo, d54, d45, hk, hi, hii, hza, hpa, d115, d511, d114, d411, hzb, hpb, d1411, d1114, d145, d514, d144, d414, hzd, hpd, xa, xb, xd, hwn, hw0, hlt, hlt2, d1714, d1417, d1711, d1117, d175, d517, d174, d417, g2, g3, g4, g11, g14, g17, g20, g137, g138, g139, hj, hji, hwj, hwk, hzi, hoi, hzai, hoai, hja, hjai, xindexAt, vload, d2217, d1722, d2214, d1422, d2211, d1122, d225, d522, d224, d422]; refine hR _ _ _ ?_; clear hR R)
  refine seqX_hide2 fun R hR => ?_
  simp [go_sem, hcz, hco, hc11, hc0, hez, heo, d54, d45, hk, hi, hii, hza, hpa, d115, d511, d114, d411, hzb, hpb, d1411, d1114, d145, d514, d144, d414, hzd, hpd, xa, xb, xd, hwn, hw0, hlt, hlt2, d1714, d1417, d1711, d1117, d175, d517, d174, d417, g2, g3, g4, g11, g14, g17, g20, g137, g138, g139, hj, hji, hwj, hwk, hzi, hoi, hzai, hoai, hja, hjai, xindexAt, vload, d2217, d1722, d2214, d1422, d2211, d1122, d225, d522, d224, d422]
  refine call_ov hP (fits38 D7 _ ci _ _ ks vs (hci.le hD7) (hks.le hB7) (hvs.le hB7) hl (by omega) hkn hkz2) ?_
  clear hP
  rintro r D8 ⟨hr, hD8⟩ hP
  rw [hfe] at hr
  subst hr
  have hD58 := View.le_trans hD57 hD8
  cases hfit : (fitK ks vs) t.kids[j] with
  | true =>
    rw [hfit, if_pos rfl, List.append_nil] at hstp
    refine hR _ _ _ ?_; clear hR R
    rw [seqX_nil]
    refine hK _ _ _ ?_; clear hK K
    refine hN25 _ _ _ ?_
    refine xc_iftrue (by simp [go_sem, hcz, hco, hc11, hc0, hez, heo, d54, d45, hk, hi, hii, hza, hpa, d115, d511, d114, d411, hzb, hpb, d1411, d1114, d145, d514, d144, d414, hzd, hpd, xa, xb, xd, hwn, hw0, hlt, hlt2, d1714, d1417, d1711, d1117, d175, d517, d174, d417, g2, g3, g4, g11, g14, g17, g20, g137, g138, g139, hj, hji, hwj, hwk, hzi, hoi, hzai, hoai, hja, hjai, xindexAt, vload, d2217, d1722, d2214, d1422, d2211, d1122, d225, d522, d224, d422, hfit]) ?_
    refine hN20 _ _ _ ?_
    refine xc_reg2 fun K hK => ?_
    simp only [rall, rsl, gres]
    iterate 2 (refine seqX_hide2 fun R hR => ?_; simp [go_sem, hcz, hco, hc11, hc0, hez, heo, d54, d45, hk, hi, hii, hza, hpa, d115, d511, d114, d411, hzb, hpb, d1411, d1114, d145, d514, d144, d414, hzd, hpd, xa, xb, xd, hwn, hw0, hlt, hlt2, d1714, d1417, d1711, d1117, d175, d517, d174, d417, g2, g3, g4, g11, g14, g17, g20, g137, g138, g139, hj, hji, hwj, hwk, hzi, hoi, hzai, hoai, hja, hjai, xindexAt, vload, d2217, d1722, d2214, d1422, d2211, d1122, d225, d522, d224, d422, hfit]; refine hR _ _ _ ?_; clear hR R)
    rw [seqX_nil]
    refine hK _ _ _ ?_; clear hK K
    refine sink_goal 0 hP rfl fun hPn lq22 nq22 => ?_
    clear hP; have hP := hPn; clear hPn
    simp only [List.eraseIdx_cons_zero, List.eraseIdx_cons_succ, addrs_cons, addrs_nil] at hP ⊢
    refine hJ1 (t.kids.length - (j + 1)) _ _ _ (by omega) ⟨j + 1, _, k, rfl, rfl, rfl, hP, by simp [go_sem, hcz, hco, hc11, hc0, hez, heo, d54, d45, hk, hi, hii, hza, hpa, d115, d511, d114, d411, hzb, hpb, d1411, d1114, d145, d514, d144, d414, hzd, hpd, xa, xb, xd, hwn, hw0, hlt, hlt2, d1714, d1417, d1711, d1117, d175, d517, d174, d417, g2, g3, g4, g11, g14, g17, g20, g137, g138, g139, hj, hji, hwj, hwk, hzi, hoi, hzai, hoai, hja, hjai, xindexAt, vload, d2217, d1722, d2214, d1422, d2211, d1122, d225, d522, d224, d422, hfit], by simp [go_sem, hcz, hco, hc11, hc0, hez, heo, d54, d45, hk, hi, hii, hza, hpa, d115, d511, d114, d411, hzb, hpb, d1411, d1114, d145, d514, d144, d414, hzd, hpd, xa, xb, xd, hwn, hw0, hlt, hlt2, d1714, d1417, d1711, d1117, d175, d517, d174, d417, g2, g3, g4, g11, g14, g17, g20, g137, g138, g139, hj, hji, hwj, hwk, hzi, hoi, hzai, hoai, hja, hjai, xindexAt, vload, d2217, d1722, d2214, d1422, d2211, d1122, d225, d522, d224, d422, hfit], by simp [go_sem, hcz, hco, hc11, hc0, hez, heo, d54, d45, hk, hi, hii, hza, hpa, d115, d511, d114, d411, hzb, hpb, d1411, d1114, d145, d514, d144, d414, hzd, hpd, xa, xb, xd, hwn, hw0, hlt, hlt2, d1714, d1417, d1711, d1117, d175, d517, d174, d417, g2, g3, g4, g11, g14, g17, g20, g137, g138, g139, hj, hji, hwj, hwk, hzi, hoi, hzai, hoai, hja, hjai, xindexAt, vload, d2217, d1722, d2214, d1422, d2211, d1122, d225, d522, d224, d422, hfit], by simp [go_sem, hcz, hco, hc11, hc0, hez, heo, d54, d45, hk, hi, hii, hza, hpa, d115, d511, d114, d411, hzb, hpb, d1411, d1114, d145, d514, d144, d414, hzd, hpd, xa, xb, xd, hwn, hw0, hlt, hlt2, d1714, d1417, d1711, d1117, d175, d517, d174, d417, g2, g3, g4, g11, g14, g17, g20, g137, g138, g139, hj, hji, hwj, hwk, hzi, hoi, hzai, hoai, hja, hjai, xindexAt, vload, d2217, d1722, d2214, d1422, d2211, d1122, d225, d522, d224, d422, hfit], by simp [go_sem, hcz, hco, hc11, hc0, hez, heo, d54, d45, hk, hi, hii, hza, hpa, d115, d511, d114, d411, hzb, hpb, d1411, d1114, d145, d514, d144, d414, hzd, hpd, xa, xb, xd, hwn, hw0, hlt, hlt2, d1714, d1417, d1711, d1117, d175, d517, d174, d417, g2, g3, g4, g11, g14, g17, g20, g137, g138, g139, hj, hji, hwj, hwk, hzi, hoi, hzai, hoai, hja, hjai, xindexAt, vload, d2217, d1722, d2214, d1422, d2211, d1122, d225, d522, d224, d422, hfit], by simp [go_sem, hcz, hco, hc11, hc0, hez, heo, d54, d45, hk, hi, hii, hza, hpa, d115, d511, d114, d411, hzb, hpb, d1411, d1114, d145, d514, d144, d414, hzd, hpd, xa, xb, xd, hwn, hw0, hlt, hlt2, d1714, d1417, d1711, d1117, d175, d517, d174, d417, g2, g3, g4, g11, g14, g17, g20, g137, g138, g139, hj, hji, hwj, hwk, hzi, hoi, hzai, hoai, hja, hjai, xindexAt, vload, d2217, d1722, d2214, d1422, d2211, d1122, d225, d522, d224, d422, hfit], by simp [go_sem, hcz, hco, hc11, hc0, hez, heo, d54, d45, hk, hi, hii, hza, hpa, d115, d511, d114, d411, hzb, hpb, d1411, d1114, d145, d514, d144, d414, hzd, hpd, xa, xb, xd, hwn, hw0, hlt, hlt2, d1714, d1417, d1711, d1117, d175, d517, d174, d417, g2, g3, g4, g11, g14, g17, g20, g137, g138, g139, hj, hji, hwj, hwk, hzi, hoi, hzai, hoai, hja, hjai, xindexAt, vload, d2217, d1722, d2214, d1422, d2211, d1122, d225, d522, d224, d422, hfit], by simp [go_sem, hcz, hco, hc11, hc0, hez, heo, d54, d45, hk, hi, hii, hza, hpa, d115, d511, d114, d411, hzb, hpb, d1411, d1114, d145, d514, d144, d414, hzd, hpd, xa, xb, xd, hwn, hw0, hlt, hlt2, d1714, d1417, d1711, d1117, d175, d517, d174, d417, g2, g3, g4, g11, g14, g17, g20, g137, g138, g139, hj, hji, hwj, hwk, hzi, hoi, hzai, hoai, hja, hjai, xindexAt, vload, d2217, d1722, d2214, d1422, d2211, d1122, d225, d522, d224, d422, hfit], by simp [go_sem, hcz, hco, hc11, hc0, hez, heo, d54, d45, hk, hi, hii, hza, hpa, d115, d511, d114, d411, hzb, hpb, d1411, d1114, d145, d514, d144, d414, hzd, hpd, xa, xb, xd, hwn, hw0, hlt, hlt2, d1714, d1417, d1711, d1117, d175, d517, d174, d417, g2, g3, g4, g11, g14, g17, g20, g137, g138, g139, hj, hji, hwj, hwk, hzi, hoi, hzai, hoai, hja, hjai, xindexAt, vload, d2217, d1722, d2214, d1422, d2211, d1122, d225, d522, d224, d422, hfit], by simp [go_sem, hcz, hco, hc11, hc0, hez, heo, d54, d45, hk, hi, hii, hza, hpa, d115, d511, d114, d411, hzb, hpb, d1411, d1114, d145, d514, d144, d414, hzd, hpd, xa, xb, xd, hwn, hw0, hlt, hlt2, d1714, d1417, d1711, d1117, d175, d517, d174, d417, g2, g3, g4, g11, g14, g17, g20, g137, g138, g139, hj, hji, hwj, hwk, hzi, hoi, hzai, hoai, hja, hjai, xindexAt, vload, d2217, d1722, d2214, d1422, d2211, d1122, d225, d522, d224, d422, hfit], by omega, View.le_trans hD58 lq22, by rw [hstp]; exact hkj, by omega⟩
  | false =>
  rw [hfit, if_neg (by decide)] at hstp
  have hbk := setT_at hj hfit
  rw [← hkj] at hbk
  have hdk := resT_at (e := el) hj hfit
  obtain ⟨ab, cbk, e3, u3, hcbk, hkb⟩ := trs_at hTb hbk
  subst e3
  obtain ⟨ad, cdj, e4, u4, hcdj, hjd⟩ := trs_at hTd hdk
  subst e4
  have u3 := le_cells hD58 _ _ _ u3
  have u4a := le_cells hD58 _ _ _ u4
  have hcbk := hcbk.le hD58
  have hzbk := hcbk.size
  have hobk := hcbk.ones
  have hzdj := hcdj.size
  have hodj := hcdj.ones
  have hkbi : (k : Int) < nb := by omega
  have hkb2 : ¬ (nb : Int) ≤ k := by omega
  have hkb3 : ¬ nb ≤ k := by omega
  have hjdi : (j : Int) < nd := by omega
  refine hR _ _ _ ?_; clear hR R
  rw [seqX_nil]
  refine hK _ _ _ ?_; clear hK K
  refine hN25 _ _ _ ?_
  refine xc_iffalse (by simp [go_sem, hcz, hco, hc11, hc0, hez, heo, d54, d45, hk, hi, hii, hza, hpa, d115, d511, d114, d411, hzb, hpb, d1411, d1114, d145, d514, d144, d414, hzd, hpd, xa, xb, xd, hwn, hw0, hlt, hlt2, d1714, d1417, d1711, d1117, d175, d517, d174, d417, g2, g3, g4, g11, g14, g17, g20, g137, g138, g139, hj, hji, hwj, hwk, hzi, hoi, hzai, hoai, hja, hjai, xindexAt, vload, d2217, d1722, d2214, d1422, d2211, d1122, d225, d522, d224, d422, hfit, hzbk, hobk, hzdj, hodj, hkb, hkbi, hkb2, hkb3, hjd, hjdi, bcs hP u3, bcs hP u4a]) ?_
  refine hN24 _ _ _ ?_
  refine xc_two fun N26 hN26 => ?_
  refine xc_two fun N27 hN27 => ?_
  have hP8 := hP
  rw [xc_draws]
  refine vdrawK [(0, true), (1, true), (2, true), (3, true), (4, true), (5, true), (6, true), (7, true), (8, true), (9, true), (10, true), (11, true), (12, true), (13, true), (14, true), (15, true), (16, true), (17, true), (18, true), (19, true), (20, true), (21, true), (22, false), (23, true), (24, true)] (ov D8 [(q22, .cells ci 24 (0, 0)), (q17, .cells cd 24 (0, 0)), (q14, .cells cb 24 (0, 0)), (q11, .cells ca 24 (0, 0)), (q5, .cells ce 24 (0, 0)), (q4, .cells c 24 (0, 0))]) mixed (by kernel_rfl) (View.le_refl _) fun K hK => ?_
  simp only [rsl, gres]
  iterate 12 (refine seqR_hide fun R hR => ?_; simp [go_sem, hcz, hco, hc11, hc0, hez, heo, d54, d45, hk, hi, hii, hza, hpa, d115, d511, d114, d411, hzb, hpb, d1411, d1114, d145, d514, d144, d414, hzd, hpd, xa, xb, xd, hwn, hw0, hlt, hlt2, d1714, d1417, d1711, d1117, d175, d517, d174, d417, g2, g3, g4, g11, g14, g17, g20, g137, g138, g139, hj, hji, hwj, hwk, hzi, hoi, hzai, hoai, hja, hjai, xindexAt, vload, d2217, d1722, d2214, d1422, d2211, d1122, d225, d522, d224, d422, hfit, hzbk, hobk, hzdj, hodj, hkb, hkbi, hkb2, hkb3, hjd, hjdi, bcs hP u3, bcs hP u4a]; refine hR _ _ _ ?_; clear hR R)
  refine seqR_hide fun R hR => ?_
  simp [go_sem, hcz, hco, hc11, hc0, hez, heo, d54, d45, hk, hi, hii, hza, hpa, d115, d511, d114, d411, hzb, hpb, d1411, d1114, d145, d514, d144, d414, hzd, hpd, xa, xb, xd, hwn, hw0, hlt, hlt2, d1714, d1417, d1711, d1117, d175, d517, d174, d417, g2, g3, g4, g11, g14, g17, g20, g137, g138, g139, hj, hji, hwj, hwk, hzi, hoi, hzai, hoai, hja, hjai, xindexAt, vload, d2217, d1722, d2214, d1422, d2211, d1122, d225, d522, d224, d422, hfit, hzbk, hobk, hzdj, hodj, hkb, hkbi, hkb2, hkb3, hjd, hjdi, bcs hP u3, bcs hP u4a]
  refine call_ov hP (exact44 t.kids[j] D8 cbk ci hcbk (hci.le (View.le_trans hD7 hD8)) hnk) ?_
  clear hP
  rintro _ D9 ⟨rfl, hD9⟩ hP
  have hD59 := View.le_trans hD58 hD9
  refine ⟨ov_mono hD9, hR _ _ _ ?_⟩; clear hR R
  iterate 9 (refine seqR_hide fun R hR => ?_; simp [go_sem, hcz, hco, hc11, hc0, hez, heo, d54, d45, hk, hi, hii, hza, hpa, d115, d511, d114, d411, hzb, hpb, d1411, d1114, d145, d514, d144, d414, hzd, hpd, xa, xb, xd, hwn, hw0, hlt, hlt2, d1714, d1417, d1711, d1117, d175, d517, d174, d417, g2, g3, g4, g11, g14, g17, g20, g137, g138, g139, hj, hji, hwj, hwk, hzi, hoi, hzai, hoai, hja, hjai, xindexAt, vload, d2217, d1722, d2214, d1422, d2211, d1122, d225, d522, d224, d422, hfit, hzbk, hobk, hzdj, hodj, hkb, hkbi, hkb2, hkb3, hjd, hjdi, bcs hP8 u4a]; refine hR _ _ _ ?_; clear hR R)
  refine seqR_hide fun R hR => ?_
  simp [go_sem, hcz, hco, hc11, hc0, hez, heo, d54, d45, hk, hi, hii, hza, hpa, d115, d511, d114, d411, hzb, hpb, d1411, d1114, d145, d514, d144, d414, hzd, hpd, xa, xb, xd, hwn, hw0, hlt, hlt2, d1714, d1417, d1711, d1117, d175, d517, d174, d417, g2, g3, g4, g11, g14, g17, g20, g137, g138, g139, hj, hji, hwj, hwk, hzi, hoi, hzai, hoai, hja, hjai, xindexAt, vload, d2217, d1722, d2214, d1422, d2211, d1122, d225, d522, d224, d422, hfit, hzbk, hobk, hzdj, hodj, hkb, hkbi, hkb2, hkb3, hjd, hjdi, bcs hP8 u4a]
  refine call_ov hP (exact44 t.kids[j] D9 cdj ci (hcdj.le hD59) (hci.le (View.le_trans hD7 (View.le_trans hD8 hD9))) hnk) ?_
  clear hP
  rintro _ D10 ⟨rfl, hD10⟩ hP
  refine hR _ _ _ ?_; clear hR R
  iterate 2 (refine seqR_hide fun R hR => ?_; simp [go_sem, hcz, hco, hc11, hc0, hez, heo, d54, d45, hk, hi, hii, hza, hpa, d115, d511, d114, d411, hzb, hpb, d1411, d1114, d145, d514, d144, d414, hzd, hpd, xa, xb, xd, hwn, hw0, hlt, hlt2, d1714, d1417, d1711, d1117, d175, d517, d174, d417, g2, g3, g4, g11, g14, g17, g20, g137, g138, g139, hj, hji, hwj, hwk, hzi, hoi, hzai, hoai, hja, hjai, xindexAt, vload, d2217, d1722, d2214, d1422, d2211, d1122, d225, d522, d224, d422, hfit, hzbk, hobk, hzdj, hodj, hkb, hkbi, hkb2, hkb3, hjd, hjdi]; refine hR _ _ _ ?_; clear hR R)
  rw [seqR_nil]
  refine hK _ _ _ ?_; clear hK K
  refine hN27 _ _ _ ?_
  refine xc_iffalse (by simp [go_sem, hcz, hco, hc11, hc0, hez, heo, d54, d45, hk, hi, hii, hza, hpa, d115, d511, d114, d411, hzb, hpb, d1411, d1114, d145, d514, d144, d414, hzd, hpd, xa, xb, xd, hwn, hw0, hlt, hlt2, d1714, d1417, d1711, d1117, d175, d517, d174, d417, g2, g3, g4, g11, g14, g17, g20, g137, g138, g139, hj, hji, hwj, hwk, hzi, hoi, hzai, hoai, hja, hjai, xindexAt, vload, d2217, d1722, d2214, d1422, d2211, d1122, d225, d522, d224, d422, hfit, hzbk, hobk, hzdj, hodj, hkb, hkbi, hkb2, hkb3, hjd, hjdi]) ?_
  refine hN26 _ _ _ ?_
  refine xc_reg2 fun K hK => ?_
  simp only [rall, rsl, gres]
  iterate 3 (refine seqX_hide2 fun R hR => ?_; simp [go_sem, hcz, hco, hc11, hc0, hez, heo, d54, d45, hk, hi, hii, hza, hpa, d115, d511, d114, d411, hzb, hpb, d1411, d1114, d145, d514, d144, d414, hzd, hpd, xa, xb, xd, hwn, hw0, hlt, hlt2, d1714, d1417, d1711, d1117, d175, d517, d174, d417, g2, g3, g4, g11, g14, g17, g20, g137, g138, g139, hj, hji, hwj, hwk, hzi, hoi, hzai, hoai, hja, hjai, xindexAt, vload, d2217, d1722, d2214, d1422, d2211, d1122, d225, d522, d224, d422, hfit, hzbk, hobk, hzdj, hodj, hkb, hkbi, hkb2, hkb3, hjd, hjdi]; refine hR _ _ _ ?_; clear hR R)
  rw [seqX_nil]
  refine hK _ _ _ ?_; clear hK K
  refine hN20 _ _ _ ?_
  refine xc_reg2 fun K hK => ?_
  simp only [rall, rsl, gres]
  iterate 2 (refine seqX_hide2 fun R hR => ?_; simp [go_sem, hcz, hco, hc11, hc0, hez, heo, d54, d45, hk, hi, hii, hza, hpa, d115, d511, d114, d411, hzb, hpb, d1411, d1114, d145, d514, d144, d414, hzd, hpd, xa, xb, xd, hwn, hw0, hlt, hlt2, d1714, d1417, d1711, d1117, d175, d517, d174, d417, g2, g3, g4, g11, g14, g17, g20, g137, g138, g139, hj, hji, hwj, hwk, hzi, hoi, hzai, hoai, hja, hjai, xindexAt, vload, d2217, d1722, d2214, d1422, d2211, d1122, d225, d522, d224, d422, hfit, hzbk, hobk, hzdj, hodj, hkb, hkbi, hkb2, hkb3, hjd, hjdi]; refine hR _ _ _ ?_; clear hR R)
  rw [seqX_nil]
  refine hK _ _ _ ?_; clear hK K
  refine sink_goal 0 hP rfl fun hPn lq22 nq22 => ?_
  clear hP; have hP := hPn; clear hPn
  simp only [List.eraseIdx_cons_zero, List.eraseIdx_cons_succ, addrs_cons, addrs_nil] at hP ⊢
  refine hJ1 (t.kids.length - (j + 1)) _ _ _ (by omega) ⟨j + 1, _, k + 1, rfl, rfl, rfl, hP, by simp [go_sem, hcz, hco, hc11, hc0, hez, heo, d54, d45, hk, hi, hii, hza, hpa, d115, d511, d114, d411, hzb, hpb, d1411, d1114, d145, d514, d144, d414, hzd, hpd, xa, xb, xd, hwn, hw0, hlt, hlt2, d1714, d1417, d1711, d1117, d175, d517, d174, d417, g2, g3, g4, g11, g14, g17, g20, g137, g138, g139, hj, hji, hwj, hwk, hzi, hoi, hzai, hoai, hja, hjai, xindexAt, vload, d2217, d1722, d2214, d1422, d2211, d1122, d225, d522, d224, d422, hfit, hzbk, hobk, hzdj, hodj, hkb, hkbi, hkb2, hkb3, hjd, hjdi], by simp [go_sem, hcz, hco, hc11, hc0, hez, heo, d54, d45, hk, hi, hii, hza, hpa, d115, d511, d114, d411, hzb, hpb, d1411, d1114, d145, d514, d144, d414, hzd, hpd, xa, xb, xd, hwn, hw0, hlt, hlt2, d1714, d1417, d1711, d1117, d175, d517, d174, d417, g2, g3, g4, g11, g14, g17, g20, g137, g138, g139, hj, hji, hwj, hwk, hzi, hoi, hzai, hoai, hja, hjai, xindexAt, vload, d2217, d1722, d2214, d1422, d2211, d1122, d225, d522, d224, d422, hfit, hzbk, hobk, hzdj, hodj, hkb, hkbi, hkb2, hkb3, hjd, hjdi], by simp [go_sem, hcz, hco, hc11, hc0, hez, heo, d54, d45, hk, hi, hii, hza, hpa, d115, d511, d114, d411, hzb, hpb, d1411, d1114, d145, d514, d144, d414, hzd, hpd, xa, xb, xd, hwn, hw0, hlt, hlt2, d1714, d1417, d1711, d1117, d175, d517, d174, d417, g2, g3, g4, g11, g14, g17, g20, g137, g138, g139, hj, hji, hwj, hwk, hzi, hoi, hzai, hoai, hja, hjai, xindexAt, vload, d2217, d1722, d2214, d1422, d2211, d1122, d225, d522, d224, d422, hfit, hzbk, hobk, hzdj, hodj, hkb, hkbi, hkb2, hkb3, hjd, hjdi], by simp [go_sem, hcz, hco, hc11, hc0, hez, heo, d54, d45, hk, hi, hii, hza, hpa, d115, d511, d114, d411, hzb, hpb, d1411, d1114, d145, d514, d144, d414, hzd, hpd, xa, xb, xd, hwn, hw0, hlt, hlt2, d1714, d1417, d1711, d1117, d175, d517, d174, d417, g2, g3, g4, g11, g14, g17, g20, g137, g138, g139, hj, hji, hwj, hwk, hzi, hoi, hzai, hoai, hja, hjai, xindexAt, vload, d2217, d1722, d2214, d1422, d2211, d1122, d225, d522, d224, d422, hfit, hzbk, hobk, hzdj, hodj, hkb, hkbi, hkb2, hkb3, hjd, hjdi], by simp [go_sem, hcz, hco, hc11, hc0, hez, heo, d54, d45, hk, hi, hii, hza, hpa, d115, d511, d114, d411, hzb, hpb, d1411, d1114, d145, d514, d144, d414, hzd, hpd, xa, xb, xd, hwn, hw0, hlt, hlt2, d1714, d1417, d1711, d1117, d175, d517, d174, d417, g2, g3, g4, g11, g14, g17, g20, g137, g138, g139, hj, hji, hwj, hwk, hzi, hoi, hzai, hoai, hja, hjai, xindexAt, vload, d2217, d1722, d2214, d1422, d2211, d1122, d225, d522, d224, d422, hfit, hzbk, hobk, hzdj, hodj, hkb, hkbi, hkb2, hkb3, hjd, hjdi], by simp [go_sem, hcz, hco, hc11, hc0, hez, heo, d54, d45, hk, hi, hii, hza, hpa, d115, d511, d114, d411, hzb, hpb, d1411, d1114, d145, d514, d144, d414, hzd, hpd, xa, xb, xd, hwn, hw0, hlt, hlt2, d1714, d1417, d1711, d1117, d175, d517, d174, d417, g2, g3, g4, g11, g14, g17, g20, g137, g138, g139, hj, hji, hwj, hwk, hzi, hoi, hzai, hoai, hja, hjai, xindexAt, vload, d2217, d1722, d2214, d1422, d2211, d1122, d225, d522, d224, d422, hfit, hzbk, hobk, hzdj, hodj, hkb, hkbi, hkb2, hkb3, hjd, hjdi], by simp [go_sem, hcz, hco, hc11, hc0, hez, heo, d54, d45, hk, hi, hii, hza, hpa, d115, d511, d114, d411, hzb, hpb, d1411, d1114, d145, d514, d144, d414, hzd, hpd, xa, xb, xd, hwn, hw0, hlt, hlt2, d1714, d1417, d1711, d1117, d175, d517, d174, d417, g2, g3, g4, g11, g14, g17, g20, g137, g138, g139, hj, hji, hwj, hwk, hzi, hoi, hzai, hoai, hja, hjai, xindexAt, vload, d2217, d1722, d2214, d1422, d2211, d1122, d225, d522, d224, d422, hfit, hzbk, hobk, hzdj, hodj, hkb, hkbi, hkb2, hkb3, hjd, hjdi], by simp [go_sem, hcz, hco, hc11, hc0, hez, heo, d54, d45, hk, hi, hii, hza, hpa, d115, d511, d114, d411, hzb, hpb, d1411, d1114, d145, d514, d144, d414, hzd, hpd, xa, xb, xd, hwn, hw0, hlt, hlt2, d1714, d1417, d1711, d1117, d175, d517, d174, d417, g2, g3, g4, g11, g14, g17, g20, g137, g138, g139, hj, hji, hwj, hwk, hzi, hoi, hzai, hoai, hja, hjai, xindexAt, vload, d2217, d1722, d2214, d1422, d2211, d1122, d225, d522, d224, d422, hfit, hzbk, hobk, hzdj, hodj, hkb, hkbi, hkb2, hkb3, hjd, hjdi], by simp [go_sem, hcz, hco, hc11, hc0, hez, heo, d54, d45, hk, hi, hii, hza, hpa, d115, d511, d114, d411, hzb, hpb, d1411, d1114, d145, d514, d144, d414, hzd, hpd, xa, xb, xd, hwn, hw0, hlt, hlt2, d1714, d1417, d1711, d1117, d175, d517, d174, d417, g2, g3, g4, g11, g14, g17, g20, g137, g138, g139, hj, hji, hwj, hwk, hzi, hoi, hzai, hoai, hja, hjai, xindexAt, vload, d2217, d1722, d2214, d1422, d2211, d1122, d225, d522, d224, d422, hfit, hzbk, hobk, hzdj, hodj, hkb, hkbi, hkb2, hkb3, hjd, hjdi], by simp [go_sem, hcz, hco, hc11, hc0, hez, heo, d54, d45, hk, hi, hii, hza, hpa, d115, d511, d114, d411, hzb, hpb, d1411, d1114, d145, d514, d144, d414, hzd, hpd, xa, xb, xd, hwn, hw0, hlt, hlt2, d1714, d1417, d1711, d1117, d175, d517, d174, d417, g2, g3, g4, g11, g14, g17, g20, g137, g138, g139, hj, hji, hwj, hwk, hzi, hoi, hzai, hoai, hja, hjai, xindexAt, vload, d2217, d1722, d2214, d1422, d2211, d1122, d225, d522, d224, d422, hfit, hzbk, hobk, hzdj, hodj, hkb, hkbi, hkb2, hkb3, hjd, hjdi], by omega, View.le_trans hD59 (View.le_trans hD10 lq22), by rw [hstp, List.length_append, ← hkj]; rfl, by omega⟩
theorem law11 (W : World) (c : Array Value) (t : Tr) (hh : IsTr (full W) t c ∧ SB t) (ce : Array Value) (el : Tr) (he : IsTr (full W) el ce ∧ SB el) (kv : Value) (ks : List ByteArray) (hks : Texts (full W) kv ks ∧ ks.length ≤ maxLen ∧ ∀ s ∈ ks, s.size ≤ maxLen) (vv : Value) (vs : List ByteArray) (hvs : Texts (full W) vv vs ∧ vs.length ≤ maxLen ∧ ∀ s ∈ vs, s.size ≤ maxLen) : VCalls Try.prog 11 #[.agg c, .agg ce, kv, vv] (full W) fun r A' => r = .bool true ∧ full W ≤ A' := keep11 (full W) c t hh ce el he kv ks hks.1 vv vs hvs.1
end Go.Proofs.YtpinamipjddobaaV

/- Trees: law 9 (FnTreeSetElement). -/
import Derived.Test.YtpinamipjddobaaSD
import Derived.Test.YtpinamipjddobaaRQ
import Derived.Test.YtpinamipjddobaaRY
import Derived.Test.YtpinamipjddobaaRZ
namespace Go.Proofs.YtpinamipjddobaaV
open Go.RowKit
set_option linter.unusedSimpArgs false
set_option linter.unusedVariables false
set_option maxRecDepth 20000 in
set_option maxHeartbeats 400000 in
theorem fits36 (A : View) (v : Value) (l : List ByteArray) (h : Texts A v l) : VCalls Try.prog 36 #[v] A fun r A' => FB (l.length ≤ 2147483647 ∧ ∀ s ∈ l, s.size ≤ 2147483647) r ∧ A ≤ A' := by
  obtain ⟨bs, cp, rfl⟩ := h.slice
  refine xcalls Try.func36 rfl (by simp [Try.ntmps36]) ?_
  simp only [Try.f36]
  have hP : Priv A (addrs []) := Priv.nil A
  show xc _ _ _ _ _ _ (ov A [])
  refine xc_two fun N1 hN1 => ?_
  refine xc_reg2 fun K hK => ?_
  simp only [rall, rsl, gres]
  (refine seqX_hide2 fun R hR => ?_; simp [go_sem]; refine hR _ _ _ ?_; clear hR R)
  rw [seqX_nil]
  refine hK _ _ _ ?_; clear hK K
  refine hN1 _ _ _ ?_
  refine xc_two fun N2 hN2 => ?_
  refine xc_two fun N3 hN3 => ?_
  refine xc_reg2 fun K hK => ?_
  simp only [rall, rsl, gres]
  iterate 3 (refine seqX_hide2 fun R hR => ?_; simp [go_sem]; refine hR _ _ _ ?_; clear hR R)
  rw [seqX_nil]
  refine hK _ _ _ ?_; clear hK K
  refine hN3 _ _ _ ?_
  rcases Int.lt_or_le 2147483647 (l.length : Int) with h0 | h0
  · skip
    refine xc_iftrue (by simp [go_sem, h0]) ?_
    refine xc_two fun N4 hN4 => ?_
    refine xc_reg2 fun K hK => ?_
    simp only [rall, rsl, gres]
    (refine seqX_hide2 fun R hR => ?_; simp [go_sem, h0]; refine hR _ _ _ ?_; clear hR R)
    rw [seqX_nil]
    refine hK _ _ _ ?_; clear hK K
    refine hN4 _ _ _ ?_
    simp [go_sem]
    exact ⟨FB.no _, View.le_refl _⟩
  refine xc_iffalse (by simp [go_sem, h0]) ?_
  refine hN2 _ _ _ ?_
  refine xc_two fun N4 hN4 => ?_
  refine xc_two fun N5 hN5 => ?_
  refine xc_reg2 fun K hK => ?_
  simp only [rall, rsl, gres]
  iterate 3 (refine seqX_hide2 fun R hR => ?_; simp [go_sem, h0]; refine hR _ _ _ ?_; clear hR R)
  rw [seqX_nil]
  refine hK _ _ _ ?_; clear hK K
  refine hN5 _ _ _ ?_
  rw [xc_block]
  rw [xc_loop]
  refine vloopK (fun k' e ds A' => ∃ (j : Nat), k' = l.length - j ∧ ds = [] ∧ A' = ov A [] ∧ Priv A [] ∧ e 8 = .slice bs l.length cp ∧ e 9 = .int .i64 l.length ∧ e 10 = .int .i64 j ∧ (j ≤ l.length) ∧ (∀ i (h : i < l.length), i < j → l[i].size ≤ 2147483647)) _ ⟨0, rfl, rfl, rfl, hP, by simp [go_sem], by simp [go_sem], by simp [go_sem], by omega, fun i h hj => by omega⟩ ?_
  clear hP
  rintro k' e ds A' ⟨j, rfl, rfl, hV, hP, g8, g9, g10, hjl, hsz⟩ J1 X1 hJ1 hX1
  refine xc_sound _ ?_
  replace hV := Eq.symm hV; subst hV; replace hP : Priv A (addrs []) := hP
  have hw1 : IntKind.i64.wrap ((j : Int) + 1) = ((j + 1 : Nat) : Int) := by rw [wrap_in (by omega) (by omega)]; omega
  by_cases hj : j < l.length
  · have hji : (j : Int) < l.length := by omega
    obtain ⟨a, cap, f1, u1⟩ := h.at' hj
    simp only [Value.slice.injEq] at f1
    obtain ⟨rfl, -, rfl⟩ := f1
    refine xc_two fun N6 hN6 => ?_
    refine xc_reg2 fun K hK => ?_
    simp only [rall, rsl, gres]
    (refine seqX_hide2 fun R hR => ?_; simp [go_sem, g8, g9, g10, hj, hji, hw1, bc hP u1, xindexAt, vload]; refine hR _ _ _ ?_; clear hR R)
    rw [seqX_nil]
    refine hK _ _ _ ?_; clear hK K
    refine hN6 _ _ _ ?_
    refine xc_two fun N7 hN7 => ?_
    refine xc_iftrue (by simp [go_sem, g8, g9, g10, hj, hji, hw1, bc hP u1, xindexAt, vload]) ?_
    refine hN7 _ _ _ ?_
    refine xc_two fun N8 hN8 => ?_
    rw [xc_block]
    refine xc_two fun N9 hN9 => ?_
    refine xc_reg2 fun K hK => ?_
    simp only [rall, rsl, gres]
    iterate 3 (refine seqX_hide2 fun R hR => ?_; simp [go_sem, g8, g9, g10, hj, hji, hw1, bc hP u1, xindexAt, vload]; refine hR _ _ _ ?_; clear hR R)
    rw [seqX_nil]
    refine hK _ _ _ ?_; clear hK K
    refine hN9 _ _ _ ?_
    refine xc_two fun N10 hN10 => ?_
    refine xc_reg2 fun K hK => ?_
    simp only [rall, rsl, gres]
    iterate 3 (refine seqX_hide2 fun R hR => ?_; simp [go_sem, g8, g9, g10, hj, hji, hw1, bc hP u1, xindexAt, vload]; refine hR _ _ _ ?_; clear hR R)
    rw [seqX_nil]
    refine hK _ _ _ ?_; clear hK K
    refine hN10 _ _ _ ?_
    rcases Int.lt_or_le 2147483647 (l[j].size : Int) with h1 | h1
    · skip
      refine xc_iftrue (by simp [go_sem, g8, g9, g10, hj, hji, hw1, bc hP u1, xindexAt, vload, h1]) ?_
      refine xc_two fun N11 hN11 => ?_
      refine xc_reg2 fun K hK => ?_
      simp only [rall, rsl, gres]
      (refine seqX_hide2 fun R hR => ?_; simp [go_sem, g8, g9, g10, hj, hji, hw1, bc hP u1, xindexAt, vload, h1]; refine hR _ _ _ ?_; clear hR R)
      rw [seqX_nil]
      refine hK _ _ _ ?_; clear hK K
      refine hN11 _ _ _ ?_
      refine hX1 _ _ _ _ ?_
      simp [go_sem, g8, g9, g10, hj, hji, hw1, bc hP u1, xindexAt, vload]
      exact ⟨FB.no _, View.le_refl _⟩
    refine xc_iffalse (by simp [go_sem, g8, g9, g10, hj, hji, hw1, bc hP u1, xindexAt, vload, h1]) ?_
    refine hN8 _ _ _ ?_
    refine xc_reg2 fun K hK => ?_
    simp only [rall, rsl, gres]
    iterate 2 (refine seqX_hide2 fun R hR => ?_; simp [go_sem, g8, g9, g10, hj, hji, hw1, bc hP u1, xindexAt, vload, h1]; refine hR _ _ _ ?_; clear hR R)
    rw [seqX_nil]
    refine hK _ _ _ ?_; clear hK K
    have hsz2 : ∀ i (h : i < l.length), i < j + 1 → l[i].size ≤ 2147483647 := fun i h hi => by
      rcases Nat.lt_or_eq_of_le (Nat.le_of_lt_succ hi) with h2 | h2
      · exact hsz i h h2
      · subst h2; omega
    refine hJ1 (l.length - (j + 1)) _ _ _ (by omega) ⟨j + 1, rfl, rfl, rfl, hP, by simp [go_sem, g8, g9, g10, hj, hji, hw1, bc hP u1, xindexAt, vload], by simp [go_sem, g8, g9, g10, hj, hji, hw1, bc hP u1, xindexAt, vload], by simp [go_sem, g8, g9, g10, hj, hji, hw1, bc hP u1, xindexAt, vload], by omega, hsz2⟩
  · have hji : ¬ (j : Int) < l.length := by omega
    refine xc_two fun N6 hN6 => ?_
    refine xc_reg2 fun K hK => ?_
    simp only [rall, rsl, gres]
    (refine seqX_hide2 fun R hR => ?_; simp [go_sem, g8, g9, g10, hj, hji]; refine hR _ _ _ ?_; clear hR R)
    rw [seqX_nil]
    refine hK _ _ _ ?_; clear hK K
    refine hN6 _ _ _ ?_
    refine xc_two fun N7 hN7 => ?_
    refine xc_iffalse (by simp [go_sem, g8, g9, g10, hj, hji]) ?_
    refine hX1 _ _ _ _ ?_
    refine hN4 _ _ _ ?_
    refine xc_two fun N8 hN8 => ?_
    refine xc_reg2 fun K hK => ?_
    simp only [rall, rsl, gres]
    (refine seqX_hide2 fun R hR => ?_; simp [go_sem, g8, g9, g10, hj, hji]; refine hR _ _ _ ?_; clear hR R)
    rw [seqX_nil]
    refine hK _ _ _ ?_; clear hK K
    refine hN8 _ _ _ ?_
    simp [go_sem, g8, g9, g10, hj, hji]
    refine ⟨FB.yes ⟨by omega, fun s hs => ?_⟩, View.le_refl _⟩
    obtain ⟨i, hi, rfl⟩ := List.getElem_of_mem hs
    exact hsz i hi (by omega)
theorem PL.kid3 {lv : Nat} {t x : Tr} (h : PL lv t) (hx : x ∈ t.kids) : PL (lv - 1) x := by
  obtain ⟨k, st, tag, val, an, hh, l, f, row, col, al, kids, rfl⟩ := t.ex
  rw [PL] at h
  obtain ⟨j, hj, rfl⟩ := List.getElem_of_mem hx
  exact h.2.2.2 j hj
/-- What a plain tree is. -/
theorem PL.kinds {lv : Nat} {t : Tr} (h : PL lv t) : (t.kind = 8 ∧ t.kids = []) ∨ (t.kind = 2 ∧ t.tag = tSeq ∧ t.value = e0) ∨ (t.kind = 4 ∧ t.tag = tMap ∧ t.value = e0 ∧ t.kids.length % 2 = 0) := by
  obtain ⟨k, st, tag, val, an, hh, l, f, row, col, al, kids, rfl⟩ := t.ex
  rw [PL] at h
  obtain ⟨-, -, h | h | h, -⟩ := h
  · exact .inl ⟨h.1, h.2.1⟩
  · exact .inr (.inl h)
  · exact .inr (.inr ⟨h.1, h.2.1, h.2.2.1, h.2.2.2.1⟩)
theorem PL.nn1 {lv : Nat} {t : Tr} (h : PL lv t) (hn : ¬ (t.kind = 8 ∧ t.tag = tNull)) : t.kind ≠ 1 ∧ t.tag ≠ tNull := by
  rcases h.kinds with ⟨h1, -⟩ | ⟨h1, h2, -⟩ | ⟨h1, h2, -⟩
  · exact ⟨by omega, fun e => hn ⟨h1, e⟩⟩
  · exact ⟨by omega, by rw [h2]; decide⟩
  · exact ⟨by omega, by rw [h2]; decide⟩
theorem fitM_eq {x : Tr} {lv : Nat} (hx : PL lv x) (h4 : x.kind = 4) : ∀ (ks vs : List ByteArray), (∀ s ∈ vs, s ≠ e0) → fitM x ks vs = fitB x ks vs
  | [], _, _ => by rw [fitM, fitB]; all_goals simp
  | _ :: _, [], _ => by rw [fitM, fitB]; all_goals simp
  | k :: ks, v :: vs, h => by
    rw [fitM, fitB, fitM_eq hx h4 ks vs fun s hs => h s (List.mem_cons_of_mem _ hs)]
    congr 1
    rw [fit1, fldOf, if_pos h4, mfl]
    cases hf : fld x.kids k with
    | none => rfl
    | some y =>
      show Option.isSome (if y.value = v then some y else none) = (decide (y.kind = 8) && decide (y.value = v))
      by_cases hv : y.value = v
      · have hy := hx.kid3 (fld_mem hf)
        have hv0 := h v List.mem_cons_self
        have hk8 : y.kind = 8 := by
          rcases hy.kinds with ⟨h1, -⟩ | ⟨-, -, h2⟩ | ⟨-, -, h2, -⟩
          · exact h1
          · exact absurd (hv.symm.trans h2) hv0
          · exact absurd (hv.symm.trans h2) hv0
        rw [if_pos hv, decide_eq_true hv, decide_eq_true hk8]
        rfl
      · rw [if_neg hv, decide_eq_false hv]
        simp
theorem fit_eq {x : Tr} {lv : Nat} (hx : PL lv x) {ks vs : List ByteArray} (hl : ks.length = vs.length) (h0 : 0 < ks.length) (h : ∀ s ∈ vs, s ≠ e0) : fitB x ks vs = fitK ks vs x := by
  rw [fitK]
  by_cases h4 : x.kind = 4
  · rw [decide_eq_true h4, Bool.true_and, fitM_eq hx h4 ks vs h]
  · rw [decide_eq_false h4, Bool.false_and]
    cases ks with
    | nil => exact absurd h0 (by decide)
    | cons k ks =>
      cases vs with
      | nil => cases hl
      | cons v vs => rw [fitB, fit1, fldOf, if_neg h4]; rfl
theorem nds_setK {t : Tr} {o : Option Tr} (f : Tr → Bool) (hn : nds t ≤ 400) (ho : ∀ x, o = some x → nds x ≤ 400) : nds (t.setK (resT f (opt1 o) t.kids)) ≤ 1000000 := by
  obtain ⟨k, st, tag, val, an, hh, l, f', row, col, al, kids, rfl⟩ := t.ex
  rw [nds_mk] at hn
  show nds (.mk k st tag val an hh l f' row col al (resT f (opt1 o) kids)) ≤ 1000000
  rw [nds_mk]
  have := nds_resT f (opt1 o) kids (by
    cases o with
    | none => exact Nat.zero_le _
    | some y =>
      have := ho _ rfl
      show ([y].map nds).sum ≤ 400
      simp
      omega) (by omega)
  omega
theorem same_seq (t : Tr) (l : List Tr) (hk : t.kind = 2) : Same (t.setK l) (.mk 2 0 tSeq e0 e0 e0 e0 e0 0 0 (-1) l) := by
  obtain ⟨k, st, tag, val, an, hh, ln, f', row, col, al, kids, rfl⟩ := t.ex
  replace hk : k = 2 := hk
  subst hk
  show Same (.mk 2 st tag val an hh ln f' row col al l) _
  rw [Same]
  exact ⟨rfl, rfl, fun e => absurd e (by decide), fun j hj _ => Same.refl _⟩
theorem nds_kl9 (t : Tr) : t.kids.length ≤ nds t := by
  obtain ⟨k, st, tag, val, an, h, l, f, row, col, al, kids, rfl⟩ := t.ex
  rw [nds_mk]
  have := len_sum kids
  show kids.length ≤ _
  omega
theorem IsTr.at0 {A : View} {t : Tr} {c : Array Value} (hc : IsTr A t c) (h : 0 < c.size) : c[0] = .int .i64 t.kind := by
  obtain ⟨k, st, tag, val, an, hh, l, f, row, col, al, kids, rfl⟩ := t.ex
  obtain ⟨bb, bc0, rfl, g⟩ := hc.open
  rfl
theorem IsTr.at11 {A : View} {t : Tr} {c : Array Value} (hc : IsTr A t c) (h : 11 < c.size) : ∃ bb bc0, c[11] = .slice bb t.kids.length bc0 ∧ Trs A (.slice bb t.kids.length bc0) t.kids := by
  obtain ⟨k, st, tag, val, an, hh, l, f, row, col, al, kids, rfl⟩ := t.ex
  obtain ⟨bb, bc0, rfl, g⟩ := hc.open
  exact ⟨_, _, rfl, g⟩
set_option maxRecDepth 20000 in
set_option maxHeartbeats 400000 in
theorem setEl9 (A : View) (c : Array Value) (t : Tr) (hh : IsTr A t c ∧ SB t) (el : Value) (eo : List Tr) (he : Trs A el eo ∧ eo.length ≤ 1125899906842624 ∧ ∀ x ∈ eo, SB x) (kv : Value) (ks : List ByteArray) (hks : Texts A kv ks) (vv : Value) (vs : List ByteArray) (hvs : Texts A vv vs) : VCalls Try.prog 9 #[.agg c, el, kv, vv] A fun r A' => r = .bool true ∧ A ≤ A' := by
  obtain ⟨hc, hsb⟩ := hh
  obtain ⟨hel, hez, hes⟩ := he
  have hcz := hc.size
  have hco := hc.ones
  obtain ⟨kb, kc, rfl⟩ := hks.slice
  obtain ⟨wb, wc, rfl⟩ := hvs.slice
  obtain ⟨bb, bc0, hc11, htr⟩ := hc.at11 (by rw [hcz]; decide)
  obtain ⟨eb, ec, rfl⟩ := hel.slice
  refine xcalls Try.func9 rfl (by simp [Try.ntmps9]) ?_
  simp only [Try.f9]
  have hP : Priv A (addrs []) := Priv.nil A
  show xc _ _ _ _ _ _ (ov A [])
  refine xc_two fun N1 hN1 => ?_
  refine xc_reg2 fun K hK => ?_
  simp only [rall, rsl, gres]
  refine seqX_hide2 fun R hR => ?_
  simp [go_sem, hcz, hco, hc11]
  intro q4 hq4
  replace hP := hP.cons hq4
  clear hq4
  refine hR _ _ _ ?_; clear hR R
  (refine seqX_hide2 fun R hR => ?_; simp [go_sem, hcz, hco, hc11]; refine hR _ _ _ ?_; clear hR R)
  rw [seqX_nil]
  refine hK _ _ _ ?_; clear hK K
  refine hN1 _ _ _ ?_
  refine xc_two fun N2 hN2 => ?_
  refine xc_two fun N3 hN3 => ?_
  refine xc_reg2 fun K hK => ?_
  simp only [rall, rsl, gres]
  (refine seqX_hide2 fun R hR => ?_; simp [go_sem, hcz, hco, hc11]; refine hR _ _ _ ?_; clear hR R)
  refine seqX_hide2 fun R hR => ?_
  simp [go_sem, hcz, hco, hc11]
  refine call_ov hP (fits8 A t c hc) ?_
  clear hP
  rintro _ A1 ⟨⟨b, rfl, hb8⟩, hA1⟩ hP
  cases b with
  | false =>
    refine hR _ _ _ ?_; clear hR R
    iterate 8 (refine seqX_hide2 fun R hR => ?_; simp [go_sem, hcz, hco, hc11]; refine hR _ _ _ ?_; clear hR R)
    refine seqX_hide2 fun R hR => ?_
    simp [go_sem, hcz, hco, hc11]
    refine hR _ _ _ ?_; clear hR R
    iterate 4 (refine seqX_hide2 fun R hR => ?_; simp [go_sem, hcz, hco, hc11]; refine hR _ _ _ ?_; clear hR R)
    refine seqX_hide2 fun R hR => ?_
    simp [go_sem, hcz, hco, hc11]
    refine hR _ _ _ ?_; clear hR R
    iterate 2 (refine seqX_hide2 fun R hR => ?_; simp [go_sem, hcz, hco, hc11]; refine hR _ _ _ ?_; clear hR R)
    rw [seqX_nil]
    refine hK _ _ _ ?_; clear hK K
    refine hN3 _ _ _ ?_
    refine xc_iftrue (by simp [go_sem, hcz, hco, hc11]) ?_
    refine xc_two fun N4 hN4 => ?_
    refine xc_reg2 fun K hK => ?_
    simp only [rall, rsl, gres]
    (refine seqX_hide2 fun R hR => ?_; simp [go_sem, hcz, hco, hc11]; refine hR _ _ _ ?_; clear hR R)
    rw [seqX_nil]
    refine hK _ _ _ ?_; clear hK K
    refine hN4 _ _ _ ?_
    simp [go_sem, hcz, hco, hc11]
    exact View.le_trans hA1 (le_ov hP)
  | true =>
  replace hb8 := hb8 rfl
  by_cases h1 : eo.length ≤ 2147483647
  rotate_left
  · have z1 : (2147483647 : Int) < eo.length := by omega
    refine hR _ _ _ ?_; clear hR R
    iterate 8 (refine seqX_hide2 fun R hR => ?_; simp [go_sem, hcz, hco, hc11, z1]; refine hR _ _ _ ?_; clear hR R)
    refine seqX_hide2 fun R hR => ?_
    simp [go_sem, hcz, hco, hc11, z1]
    refine hR _ _ _ ?_; clear hR R
    iterate 4 (refine seqX_hide2 fun R hR => ?_; simp [go_sem, hcz, hco, hc11, z1]; refine hR _ _ _ ?_; clear hR R)
    refine seqX_hide2 fun R hR => ?_
    simp [go_sem, hcz, hco, hc11, z1]
    refine hR _ _ _ ?_; clear hR R
    iterate 2 (refine seqX_hide2 fun R hR => ?_; simp [go_sem, hcz, hco, hc11, z1]; refine hR _ _ _ ?_; clear hR R)
    rw [seqX_nil]
    refine hK _ _ _ ?_; clear hK K
    refine hN3 _ _ _ ?_
    refine xc_iftrue (by simp [go_sem, hcz, hco, hc11, z1]) ?_
    refine xc_two fun N4 hN4 => ?_
    refine xc_reg2 fun K hK => ?_
    simp only [rall, rsl, gres]
    (refine seqX_hide2 fun R hR => ?_; simp [go_sem, hcz, hco, hc11, z1]; refine hR _ _ _ ?_; clear hR R)
    rw [seqX_nil]
    refine hK _ _ _ ?_; clear hK K
    refine hN4 _ _ _ ?_
    simp [go_sem, hcz, hco, hc11, z1]
    exact View.le_trans hA1 (le_ov hP)
  have z1 : ¬ (2147483647 : Int) < eo.length := by omega
  refine hR _ _ _ ?_; clear hR R
  iterate 8 (refine seqX_hide2 fun R hR => ?_; simp [go_sem, hcz, hco, hc11, z1]; refine hR _ _ _ ?_; clear hR R)
  refine seqX_hide2 fun R hR => ?_
  simp [go_sem, hcz, hco, hc11, z1]
  refine call_ov hP (fits36 A1 _ ks (hks.le hA1)) ?_
  clear hP
  rintro _ A2 ⟨⟨b, rfl, hbk⟩, hA2⟩ hP
  have hA := View.le_trans hA1 hA2
  cases b with
  | false =>
    refine hR _ _ _ ?_; clear hR R
    iterate 4 (refine seqX_hide2 fun R hR => ?_; simp [go_sem, hcz, hco, hc11, z1]; refine hR _ _ _ ?_; clear hR R)
    refine seqX_hide2 fun R hR => ?_
    simp [go_sem, hcz, hco, hc11, z1]
    refine hR _ _ _ ?_; clear hR R
    iterate 2 (refine seqX_hide2 fun R hR => ?_; simp [go_sem, hcz, hco, hc11, z1]; refine hR _ _ _ ?_; clear hR R)
    rw [seqX_nil]
    refine hK _ _ _ ?_; clear hK K
    refine hN3 _ _ _ ?_
    refine xc_iftrue (by simp [go_sem, hcz, hco, hc11, z1]) ?_
    refine xc_two fun N4 hN4 => ?_
    refine xc_reg2 fun K hK => ?_
    simp only [rall, rsl, gres]
    (refine seqX_hide2 fun R hR => ?_; simp [go_sem, hcz, hco, hc11, z1]; refine hR _ _ _ ?_; clear hR R)
    rw [seqX_nil]
    refine hK _ _ _ ?_; clear hK K
    refine hN4 _ _ _ ?_
    simp [go_sem, hcz, hco, hc11, z1]
    exact View.le_trans hA (le_ov hP)
  | true =>
  obtain ⟨hkl, hkz⟩ := hbk rfl
  refine hR _ _ _ ?_; clear hR R
  iterate 4 (refine seqX_hide2 fun R hR => ?_; simp [go_sem, hcz, hco, hc11, z1]; refine hR _ _ _ ?_; clear hR R)
  refine seqX_hide2 fun R hR => ?_
  simp [go_sem, hcz, hco, hc11, z1]
  refine call_ov hP (fits36 A2 _ vs (hvs.le hA)) ?_
  clear hP
  rintro _ A3 ⟨⟨b, rfl, hbv⟩, hA3⟩ hP
  have hA := View.le_trans hA hA3
  cases b with
  | false =>
    refine hR _ _ _ ?_; clear hR R
    iterate 2 (refine seqX_hide2 fun R hR => ?_; simp [go_sem, hcz, hco, hc11, z1]; refine hR _ _ _ ?_; clear hR R)
    rw [seqX_nil]
    refine hK _ _ _ ?_; clear hK K
    refine hN3 _ _ _ ?_
    refine xc_iftrue (by simp [go_sem, hcz, hco, hc11, z1]) ?_
    refine xc_two fun N4 hN4 => ?_
    refine xc_reg2 fun K hK => ?_
    simp only [rall, rsl, gres]
    (refine seqX_hide2 fun R hR => ?_; simp [go_sem, hcz, hco, hc11, z1]; refine hR _ _ _ ?_; clear hR R)
    rw [seqX_nil]
    refine hK _ _ _ ?_; clear hK K
    refine hN4 _ _ _ ?_
    simp [go_sem, hcz, hco, hc11, z1]
    exact View.le_trans hA (le_ov hP)
  | true =>
  obtain ⟨hvl, hvz⟩ := hbv rfl
  refine hR _ _ _ ?_; clear hR R
  iterate 2 (refine seqX_hide2 fun R hR => ?_; simp [go_sem, hcz, hco, hc11, z1]; refine hR _ _ _ ?_; clear hR R)
  rw [seqX_nil]
  refine hK _ _ _ ?_; clear hK K
  refine hN3 _ _ _ ?_
  refine xc_iffalse (by simp [go_sem, hcz, hco, hc11, z1]) ?_
  refine hN2 _ _ _ ?_
  refine xc_two fun N4 hN4 => ?_
  refine xc_two fun N5 hN5 => ?_
  refine xc_reg2 fun K hK => ?_
  simp only [rall, rsl, gres]
  iterate 4 (refine seqX_hide2 fun R hR => ?_; simp [go_sem, hcz, hco, hc11, z1]; refine hR _ _ _ ?_; clear hR R)
  rw [seqX_nil]
  refine hK _ _ _ ?_; clear hK K
  refine hN5 _ _ _ ?_
  rw [xc_block]
  rw [xc_loop]
  refine vloopK (fun k' e ds A' => ∃ (i : Nat) (D : View), k' = t.kids.length - i ∧ ds = [] ∧ A' = ov D [(q4, .cells c 24 (0, 0))] ∧ Priv D [q4] ∧ e 1 = .slice eb eo.length ec ∧ e 2 = .slice kb ks.length kc ∧ e 3 = .slice wb vs.length wc ∧ e 4 = .pointer (some ⟨q4, 0, none⟩) ∧ e 37 = .slice bb t.kids.length bc0 ∧ e 38 = .int .i64 t.kids.length ∧ e 39 = .int .i64 i ∧ (i ≤ t.kids.length) ∧ (A ≤ D) ∧ (∀ j (h : j < t.kids.length), j < i → ¬ (t.kids[j].kind = 8 ∧ t.kids[j].tag = tNull) ∧ (t.kids[j].kind = 8 ∨ t.kids[j].kids.length ≠ 0))) _ ⟨0, A3, rfl, rfl, rfl, hP, by simp [go_sem, hcz, hco, hc11, z1], by simp [go_sem, hcz, hco, hc11, z1], by simp [go_sem, hcz, hco, hc11, z1], by simp [go_sem, hcz, hco, hc11, z1], by simp [go_sem, hcz, hco, hc11, z1], by simp [go_sem, hcz, hco, hc11, z1], by simp [go_sem, hcz, hco, hc11, z1], by omega, hA, fun j h hj => by omega⟩ ?_
  clear hP
  rintro k' e ds _ ⟨i, D, rfl, rfl, rfl, hP, g1, g2, g3, g4, g37, g38, g39, hil, hAD, hnn⟩ J1 X1 hJ1 hX1
  refine xc_sound _ ?_
  have hw1 : IntKind.i64.wrap ((i : Int) + 1) = ((i + 1 : Nat) : Int) := by rw [wrap_in (by omega) (by omega)]; omega
  by_cases hi : i < t.kids.length
  · have hii : (i : Int) < t.kids.length := by omega
    obtain ⟨bs, cap, f1, hel1⟩ := htr
    simp only [Value.slice.injEq, true_and] at f1
    obtain ⟨hb1, hbc1⟩ := f1
    obtain ⟨a1, ci, ha1, u1, hci⟩ := hel1 i hi
    rw [ha1] at hb1
    subst hb1
    have u1 := le_cells hAD _ _ _ u1
    have hci := hci.le hAD
    have hz1 := hci.size
    have ho1 := hci.ones
    have hci0 := hci.at0 (by rw [hz1]; decide)
    obtain ⟨bi, ci0, hc11i, -⟩ := hci.at11 (by rw [hz1]; decide)
    refine xc_two fun N6 hN6 => ?_
    refine xc_reg2 fun K hK => ?_
    simp only [rall, rsl, gres]
    (refine seqX_hide2 fun R hR => ?_; simp [go_sem, hcz, hco, hc11, z1, g1, g2, g3, g4, g37, g38, g39, hi, hii, hw1, hz1, ho1, hci0, hc11i, bcs hP u1]; refine hR _ _ _ ?_; clear hR R)
    rw [seqX_nil]
    refine hK _ _ _ ?_; clear hK K
    refine hN6 _ _ _ ?_
    refine xc_two fun N7 hN7 => ?_
    refine xc_iftrue (by simp [go_sem, hcz, hco, hc11, z1, g1, g2, g3, g4, g37, g38, g39, hi, hii, hw1, hz1, ho1, hci0, hc11i, bcs hP u1]) ?_
    refine hN7 _ _ _ ?_
    refine xc_two fun N8 hN8 => ?_
    rw [xc_block]
    refine xc_two fun N9 hN9 => ?_
    refine xc_reg2 fun K hK => ?_
    simp only [rall, rsl, gres]
    iterate 2 (refine seqX_hide2 fun R hR => ?_; simp [go_sem, hcz, hco, hc11, z1, g1, g2, g3, g4, g37, g38, g39, hi, hii, hw1, hz1, ho1, hci0, hc11i, bcs hP u1]; refine hR _ _ _ ?_; clear hR R)
    refine seqX_hide2 fun R hR => ?_
    simp [go_sem, hcz, hco, hc11, z1, g1, g2, g3, g4, g37, g38, g39, hi, hii, hw1, hz1, ho1, hci0, hc11i, bcs hP u1]
    intro q10 hq10
    replace hP := hP.cons hq10
    clear hq10
    have d104 : q10 ≠ q4 := (hP.ne q4 (by simp [addrs])).1
    have d410 : q4 ≠ q10 := (hP.ne q4 (by simp [addrs])).2
    refine hR _ _ _ ?_; clear hR R
    refine seqX_hide2 fun R hR => ?_
    simp [go_sem, hcz, hco, hc11, z1, g1, g2, g3, g4, g37, g38, g39, hi, hii, hw1, hz1, ho1, hci0, hc11i, bcs hP u1, d104, d410]
    refine hR _ _ _ ?_; clear hR R
    rw [seqX_nil]
    refine hK _ _ _ ?_; clear hK K
    refine hN9 _ _ _ ?_
    refine xc_two fun N10 hN10 => ?_
    refine xc_reg2 fun K hK => ?_
    simp only [rall, rsl, gres]
    (refine seqX_hide2 fun R hR => ?_; simp [go_sem, hcz, hco, hc11, z1, g1, g2, g3, g4, g37, g38, g39, hi, hii, hw1, hz1, ho1, hci0, hc11i, bcs hP u1, d104, d410]; refine hR _ _ _ ?_; clear hR R)
    refine seqX_hide2 fun R hR => ?_
    simp [go_sem, hcz, hco, hc11, z1, g1, g2, g3, g4, g37, g38, g39, hi, hii, hw1, hz1, ho1, hci0, hc11i, bcs hP u1, d104, d410]
    refine call_ov hP (isNull16 D _ ci hci) ?_
    clear hP
    rintro _ D2 ⟨⟨b, rfl, hb⟩, hD2⟩ hP
    have hAD2 := View.le_trans hAD hD2
    cases b with
    | true =>
      refine hR _ _ _ ?_; clear hR R
      iterate 11 (refine seqX_hide2 fun R hR => ?_; simp [go_sem, hcz, hco, hc11, z1, g1, g2, g3, g4, g37, g38, g39, hi, hii, hw1, hz1, ho1, hci0, hc11i, d104, d410]; refine hR _ _ _ ?_; clear hR R)
      rw [seqX_nil]
      refine hK _ _ _ ?_; clear hK K
      refine hN10 _ _ _ ?_
      refine xc_iftrue (by simp [go_sem, hcz, hco, hc11, z1, g1, g2, g3, g4, g37, g38, g39, hi, hii, hw1, hz1, ho1, hci0, hc11i, d104, d410]) ?_
      refine xc_two fun N11 hN11 => ?_
      refine xc_reg2 fun K hK => ?_
      simp only [rall, rsl, gres]
      (refine seqX_hide2 fun R hR => ?_; simp [go_sem, hcz, hco, hc11, z1, g1, g2, g3, g4, g37, g38, g39, hi, hii, hw1, hz1, ho1, hci0, hc11i, d104, d410]; refine hR _ _ _ ?_; clear hR R)
      rw [seqX_nil]
      refine hK _ _ _ ?_; clear hK K
      refine hN11 _ _ _ ?_
      refine hX1 _ _ _ _ ?_
      simp [go_sem, hcz, hco, hc11, z1, g1, g2, g3, g4, g37, g38, g39, hi, hii, hw1, hz1, ho1, hci0, hc11i, d104, d410]
      exact View.le_trans hAD2 (le_ov hP)
    | false =>
    have hb := hb rfl
    by_cases hk8 : t.kids[i].kind = 8
    · skip
      refine hR _ _ _ ?_; clear hR R
      iterate 11 (refine seqX_hide2 fun R hR => ?_; simp [go_sem, hcz, hco, hc11, z1, g1, g2, g3, g4, g37, g38, g39, hi, hii, hw1, hz1, ho1, hci0, hc11i, d104, d410, hk8]; refine hR _ _ _ ?_; clear hR R)
      rw [seqX_nil]
      refine hK _ _ _ ?_; clear hK K
      refine hN10 _ _ _ ?_
      refine xc_iffalse (by simp [go_sem, hcz, hco, hc11, z1, g1, g2, g3, g4, g37, g38, g39, hi, hii, hw1, hz1, ho1, hci0, hc11i, d104, d410, hk8]) ?_
      refine hN8 _ _ _ ?_
      refine xc_reg2 fun K hK => ?_
      simp only [rall, rsl, gres]
      iterate 2 (refine seqX_hide2 fun R hR => ?_; simp [go_sem, hcz, hco, hc11, z1, g1, g2, g3, g4, g37, g38, g39, hi, hii, hw1, hz1, ho1, hci0, hc11i, d104, d410, hk8]; refine hR _ _ _ ?_; clear hR R)
      rw [seqX_nil]
      refine hK _ _ _ ?_; clear hK K
      refine sink_goal 0 hP rfl fun hPn lq10 nq10 => ?_
      clear hP; have hP := hPn; clear hPn
      simp only [List.eraseIdx_cons_zero, List.eraseIdx_cons_succ, addrs_cons, addrs_nil] at hP ⊢
      have hnn2 : ∀ j (h : j < t.kids.length), j < i + 1 → ¬ (t.kids[j].kind = 8 ∧ t.kids[j].tag = tNull) ∧ (t.kids[j].kind = 8 ∨ t.kids[j].kids.length ≠ 0) := fun j h hj => by
        rcases Nat.lt_or_eq_of_le (Nat.le_of_lt_succ hj) with h2 | h2
        · exact hnn j h h2
        · subst h2; exact ⟨hb, .inl hk8⟩
      refine hJ1 (t.kids.length - (i + 1)) _ _ _ (by omega) ⟨i + 1, _, rfl, rfl, rfl, hP, by simp [go_sem, hcz, hco, hc11, z1, g1, g2, g3, g4, g37, g38, g39, hi, hii, hw1, hz1, ho1, hci0, hc11i, d104, d410, hk8], by simp [go_sem, hcz, hco, hc11, z1, g1, g2, g3, g4, g37, g38, g39, hi, hii, hw1, hz1, ho1, hci0, hc11i, d104, d410, hk8], by simp [go_sem, hcz, hco, hc11, z1, g1, g2, g3, g4, g37, g38, g39, hi, hii, hw1, hz1, ho1, hci0, hc11i, d104, d410, hk8], by simp [go_sem, hcz, hco, hc11, z1, g1, g2, g3, g4, g37, g38, g39, hi, hii, hw1, hz1, ho1, hci0, hc11i, d104, d410, hk8], by simp [go_sem, hcz, hco, hc11, z1, g1, g2, g3, g4, g37, g38, g39, hi, hii, hw1, hz1, ho1, hci0, hc11i, d104, d410, hk8], by simp [go_sem, hcz, hco, hc11, z1, g1, g2, g3, g4, g37, g38, g39, hi, hii, hw1, hz1, ho1, hci0, hc11i, d104, d410, hk8], by simp [go_sem, hcz, hco, hc11, z1, g1, g2, g3, g4, g37, g38, g39, hi, hii, hw1, hz1, ho1, hci0, hc11i, d104, d410, hk8], by omega, View.le_trans hAD2 lq10, hnn2⟩
    have hkb : (t.kids[i].kind != 8) = true := bne_iff_ne.2 hk8
    by_cases hk0 : t.kids[i].kids.length = 0
    · have hkn : t.kids[i].kids = [] := List.eq_nil_of_length_eq_zero hk0
      refine hR _ _ _ ?_; clear hR R
      iterate 11 (refine seqX_hide2 fun R hR => ?_; simp [go_sem, hcz, hco, hc11, z1, g1, g2, g3, g4, g37, g38, g39, hi, hii, hw1, hz1, ho1, hci0, hc11i, d104, d410, hk8, hkb, hk0, hkn]; refine hR _ _ _ ?_; clear hR R)
      rw [seqX_nil]
      refine hK _ _ _ ?_; clear hK K
      refine hN10 _ _ _ ?_
      refine xc_iftrue (by simp [go_sem, hcz, hco, hc11, z1, g1, g2, g3, g4, g37, g38, g39, hi, hii, hw1, hz1, ho1, hci0, hc11i, d104, d410, hk8, hkb, hk0, hkn]) ?_
      refine xc_two fun N11 hN11 => ?_
      refine xc_reg2 fun K hK => ?_
      simp only [rall, rsl, gres]
      (refine seqX_hide2 fun R hR => ?_; simp [go_sem, hcz, hco, hc11, z1, g1, g2, g3, g4, g37, g38, g39, hi, hii, hw1, hz1, ho1, hci0, hc11i, d104, d410, hk8, hkb, hk0, hkn]; refine hR _ _ _ ?_; clear hR R)
      rw [seqX_nil]
      refine hK _ _ _ ?_; clear hK K
      refine hN11 _ _ _ ?_
      refine hX1 _ _ _ _ ?_
      simp [go_sem, hcz, hco, hc11, z1, g1, g2, g3, g4, g37, g38, g39, hi, hii, hw1, hz1, ho1, hci0, hc11i, d104, d410, hk8, hkb, hk0, hkn]
      exact View.le_trans hAD2 (le_ov hP)
    have hkn : ¬ t.kids[i].kids = [] := fun e => hk0 (by rw [e]; rfl)
    have hki : ¬ (t.kids[i].kids.length : Int) = 0 := by omega
    refine hR _ _ _ ?_; clear hR R
    iterate 11 (refine seqX_hide2 fun R hR => ?_; simp [go_sem, hcz, hco, hc11, z1, g1, g2, g3, g4, g37, g38, g39, hi, hii, hw1, hz1, ho1, hci0, hc11i, d104, d410, hk8, hkb, hk0, hkn, hki]; refine hR _ _ _ ?_; clear hR R)
    rw [seqX_nil]
    refine hK _ _ _ ?_; clear hK K
    refine hN10 _ _ _ ?_
    refine xc_iffalse (by simp [go_sem, hcz, hco, hc11, z1, g1, g2, g3, g4, g37, g38, g39, hi, hii, hw1, hz1, ho1, hci0, hc11i, d104, d410, hk8, hkb, hk0, hkn, hki]) ?_
    refine hN8 _ _ _ ?_
    refine xc_reg2 fun K hK => ?_
    simp only [rall, rsl, gres]
    iterate 2 (refine seqX_hide2 fun R hR => ?_; simp [go_sem, hcz, hco, hc11, z1, g1, g2, g3, g4, g37, g38, g39, hi, hii, hw1, hz1, ho1, hci0, hc11i, d104, d410, hk8, hkb, hk0, hkn, hki]; refine hR _ _ _ ?_; clear hR R)
    rw [seqX_nil]
    refine hK _ _ _ ?_; clear hK K
    refine sink_goal 0 hP rfl fun hPn lq10 nq10 => ?_
    clear hP; have hP := hPn; clear hPn
    simp only [List.eraseIdx_cons_zero, List.eraseIdx_cons_succ, addrs_cons, addrs_nil] at hP ⊢
    have hnn2 : ∀ j (h : j < t.kids.length), j < i + 1 → ¬ (t.kids[j].kind = 8 ∧ t.kids[j].tag = tNull) ∧ (t.kids[j].kind = 8 ∨ t.kids[j].kids.length ≠ 0) := fun j h hj => by
      rcases Nat.lt_or_eq_of_le (Nat.le_of_lt_succ hj) with h2 | h2
      · exact hnn j h h2
      · subst h2; exact ⟨hb, .inr hk0⟩
    refine hJ1 (t.kids.length - (i + 1)) _ _ _ (by omega) ⟨i + 1, _, rfl, rfl, rfl, hP, by simp [go_sem, hcz, hco, hc11, z1, g1, g2, g3, g4, g37, g38, g39, hi, hii, hw1, hz1, ho1, hci0, hc11i, d104, d410, hk8, hkb, hk0, hkn, hki], by simp [go_sem, hcz, hco, hc11, z1, g1, g2, g3, g4, g37, g38, g39, hi, hii, hw1, hz1, ho1, hci0, hc11i, d104, d410, hk8, hkb, hk0, hkn, hki], by simp [go_sem, hcz, hco, hc11, z1, g1, g2, g3, g4, g37, g38, g39, hi, hii, hw1, hz1, ho1, hci0, hc11i, d104, d410, hk8, hkb, hk0, hkn, hki], by simp [go_sem, hcz, hco, hc11, z1, g1, g2, g3, g4, g37, g38, g39, hi, hii, hw1, hz1, ho1, hci0, hc11i, d104, d410, hk8, hkb, hk0, hkn, hki], by simp [go_sem, hcz, hco, hc11, z1, g1, g2, g3, g4, g37, g38, g39, hi, hii, hw1, hz1, ho1, hci0, hc11i, d104, d410, hk8, hkb, hk0, hkn, hki], by simp [go_sem, hcz, hco, hc11, z1, g1, g2, g3, g4, g37, g38, g39, hi, hii, hw1, hz1, ho1, hci0, hc11i, d104, d410, hk8, hkb, hk0, hkn, hki], by simp [go_sem, hcz, hco, hc11, z1, g1, g2, g3, g4, g37, g38, g39, hi, hii, hw1, hz1, ho1, hci0, hc11i, d104, d410, hk8, hkb, hk0, hkn, hki], by omega, View.le_trans hAD2 lq10, hnn2⟩
  have hii : ¬ (i : Int) < t.kids.length := by omega
  refine xc_two fun N6 hN6 => ?_
  refine xc_reg2 fun K hK => ?_
  simp only [rall, rsl, gres]
  (refine seqX_hide2 fun R hR => ?_; simp [go_sem, hcz, hco, hc11, z1, g1, g2, g3, g4, g37, g38, g39, hi, hii]; refine hR _ _ _ ?_; clear hR R)
  rw [seqX_nil]
  refine hK _ _ _ ?_; clear hK K
  refine hN6 _ _ _ ?_
  refine xc_two fun N7 hN7 => ?_
  refine xc_iffalse (by simp [go_sem, hcz, hco, hc11, z1, g1, g2, g3, g4, g37, g38, g39, hi, hii]) ?_
  refine hX1 _ _ _ _ ?_
  refine hN4 _ _ _ ?_
  refine xc_two fun N8 hN8 => ?_
  refine xc_two fun N9 hN9 => ?_
  refine xc_reg2 fun K hK => ?_
  simp only [rall, rsl, gres]
  (refine seqX_hide2 fun R hR => ?_; simp [go_sem, hcz, hco, hc11, z1, g1, g2, g3, g4, g37, g38, g39, hi, hii]; refine hR _ _ _ ?_; clear hR R)
  refine seqX_hide2 fun R hR => ?_
  simp [go_sem, hcz, hco, hc11, z1, g1, g2, g3, g4, g37, g38, g39, hi, hii]
  refine call_ov hP (tfIs13 D t c 2 (hc.le hAD) hsb) ?_
  clear hP
  rintro _ D1 ⟨⟨b, rfl, hbt⟩, hD1⟩ hP
  have hA4 := View.le_trans hAD hD1
  cases b with
  | false =>
    refine hR _ _ _ ?_; clear hR R
    iterate 4 (refine seqX_hide2 fun R hR => ?_; simp [go_sem, hcz, hco, hc11, z1, g1, g2, g3, g4, g37, g38, g39, hi, hii]; refine hR _ _ _ ?_; clear hR R)
    refine seqX_hide2 fun R hR => ?_
    simp [go_sem, hcz, hco, hc11, z1, g1, g2, g3, g4, g37, g38, g39, hi, hii]
    refine hR _ _ _ ?_; clear hR R
    iterate 15 (refine seqX_hide2 fun R hR => ?_; simp [go_sem, hcz, hco, hc11, z1, g1, g2, g3, g4, g37, g38, g39, hi, hii]; refine hR _ _ _ ?_; clear hR R)
    refine seqX_hide2 fun R hR => ?_
    simp [go_sem, hcz, hco, hc11, z1, g1, g2, g3, g4, g37, g38, g39, hi, hii]
    refine hR _ _ _ ?_; clear hR R
    iterate 5 (refine seqX_hide2 fun R hR => ?_; simp [go_sem, hcz, hco, hc11, z1, g1, g2, g3, g4, g37, g38, g39, hi, hii]; refine hR _ _ _ ?_; clear hR R)
    refine seqX_hide2 fun R hR => ?_
    simp [go_sem, hcz, hco, hc11, z1, g1, g2, g3, g4, g37, g38, g39, hi, hii]
    refine hR _ _ _ ?_; clear hR R
    iterate 3 (refine seqX_hide2 fun R hR => ?_; simp [go_sem, hcz, hco, hc11, z1, g1, g2, g3, g4, g37, g38, g39, hi, hii]; refine hR _ _ _ ?_; clear hR R)
    rw [seqX_nil]
    refine hK _ _ _ ?_; clear hK K
    refine hN9 _ _ _ ?_
    refine xc_iftrue (by simp [go_sem, hcz, hco, hc11, z1, g1, g2, g3, g4, g37, g38, g39, hi, hii]) ?_
    refine xc_two fun N10 hN10 => ?_
    refine xc_reg2 fun K hK => ?_
    simp only [rall, rsl, gres]
    (refine seqX_hide2 fun R hR => ?_; simp [go_sem, hcz, hco, hc11, z1, g1, g2, g3, g4, g37, g38, g39, hi, hii]; refine hR _ _ _ ?_; clear hR R)
    rw [seqX_nil]
    refine hK _ _ _ ?_; clear hK K
    refine hN10 _ _ _ ?_
    simp [go_sem, hcz, hco, hc11, z1, g1, g2, g3, g4, g37, g38, g39, hi, hii]
    exact View.le_trans hA4 (le_ov hP)
  | true =>
  obtain ⟨hk, hpl, hnd⟩ := hbt rfl
  refine hR _ _ _ ?_; clear hR R
  iterate 4 (refine seqX_hide2 fun R hR => ?_; simp [go_sem, hcz, hco, hc11, z1, g1, g2, g3, g4, g37, g38, g39, hi, hii]; refine hR _ _ _ ?_; clear hR R)
  refine seqX_hide2 fun R hR => ?_
  simp [go_sem, hcz, hco, hc11, z1, g1, g2, g3, g4, g37, g38, g39, hi, hii]
  refine call_same hP (keyed37 D1 _ _ ks vs (hks.le hA4) (hvs.le hA4) hkl hvl (fun s hs => by have := hkz s hs; omega) (fun s hs => by have := hvz s hs; omega)) ?_
  rintro _ ⟨b, rfl, hbkv⟩
  cases b with
  | false =>
    refine hR _ _ _ ?_; clear hR R
    iterate 15 (refine seqX_hide2 fun R hR => ?_; simp [go_sem, hcz, hco, hc11, z1, g1, g2, g3, g4, g37, g38, g39, hi, hii]; refine hR _ _ _ ?_; clear hR R)
    refine seqX_hide2 fun R hR => ?_
    simp [go_sem, hcz, hco, hc11, z1, g1, g2, g3, g4, g37, g38, g39, hi, hii]
    refine hR _ _ _ ?_; clear hR R
    iterate 5 (refine seqX_hide2 fun R hR => ?_; simp [go_sem, hcz, hco, hc11, z1, g1, g2, g3, g4, g37, g38, g39, hi, hii]; refine hR _ _ _ ?_; clear hR R)
    refine seqX_hide2 fun R hR => ?_
    simp [go_sem, hcz, hco, hc11, z1, g1, g2, g3, g4, g37, g38, g39, hi, hii]
    refine hR _ _ _ ?_; clear hR R
    iterate 3 (refine seqX_hide2 fun R hR => ?_; simp [go_sem, hcz, hco, hc11, z1, g1, g2, g3, g4, g37, g38, g39, hi, hii]; refine hR _ _ _ ?_; clear hR R)
    rw [seqX_nil]
    refine hK _ _ _ ?_; clear hK K
    refine hN9 _ _ _ ?_
    refine xc_iftrue (by simp [go_sem, hcz, hco, hc11, z1, g1, g2, g3, g4, g37, g38, g39, hi, hii]) ?_
    refine xc_two fun N10 hN10 => ?_
    refine xc_reg2 fun K hK => ?_
    simp only [rall, rsl, gres]
    (refine seqX_hide2 fun R hR => ?_; simp [go_sem, hcz, hco, hc11, z1, g1, g2, g3, g4, g37, g38, g39, hi, hii]; refine hR _ _ _ ?_; clear hR R)
    rw [seqX_nil]
    refine hK _ _ _ ?_; clear hK K
    refine hN10 _ _ _ ?_
    simp [go_sem, hcz, hco, hc11, z1, g1, g2, g3, g4, g37, g38, g39, hi, hii]
    exact View.le_trans hA4 (le_ov hP)
  | true =>
  obtain ⟨hl, h0, h5, hkw, hvw⟩ := hbkv rfl
  have tl : ∀ (o : Option Tr) (D3 : View) (e : Env), Priv D3 [q4] → e 1 = .slice eb eo.length ec → e 2 = .slice kb ks.length kc → e 3 = .slice wb vs.length wc → e 4 = .pointer (some ⟨q4, 0, none⟩) → (A ≤ D3) → (eo = opt1 o) → (∀ x, o = some x → PL 12 x ∧ nds x ≤ 50 ∧ ¬ (x.kind = 8 ∧ x.tag = tNull)) → N8 e [] (ov D3 [(q4, .cells c 24 (0, 0))]) := by
    clear g1 g2 g3 g4 g37 g38 g39
    clear hP
    intro o D3 e hP g1 g2 g3 g4 hA heo hpo
    refine hN8 _ _ _ ?_
    subst heo
    have hkids : ∀ x ∈ t.kids, EN x ∧ (x.kind = 4 → x.kids.length % 2 = 0) := fun x hx => by
      obtain ⟨j, hj, rfl⟩ := List.getElem_of_mem hx
      obtain ⟨g1, g2⟩ := hnn j hj (by omega)
      have g3 := (hpl.kid3 hx).nn1 g1
      refine ⟨⟨g3.1, g3.2, fun e => ?_⟩, fun e => ?_⟩
      · rcases g2 with g2 | g2
        · omega
        · exact g2
      · rcases (hpl.kid3 hx).kinds with ⟨g4, -⟩ | ⟨g4, -⟩ | ⟨-, -, -, g4⟩
        · omega
        · omega
        · exact g4
    have htag : t.tag ≠ tNull := (hpl.nn1 fun e => by have := e.1; omega).2
    have hkn : ∀ s ∈ ks, s ≠ e0 := fun s hs e => (hkw s hs).1 (by rw [e]; rfl)
    have hvn : ∀ s ∈ vs, s ≠ e0 := fun s hs e => (hvw s hs).1 (by rw [e]; rfl)
    have hol : (opt1 o).length ≤ 1 := by cases o <;> simp [opt1]
    refine xc_two fun N10 hN10 => ?_
    refine xc_reg2 fun K hK => ?_
    simp only [rall, rsl, gres]
    iterate 4 (refine seqX_hide2 fun R hR => ?_; simp [go_sem, hcz, hco, hc11, z1, hi, hii, g1, g2, g3, g4]; refine hR _ _ _ ?_; clear hR R)
    refine seqX_hide2 fun R hR => ?_
    simp [go_sem, hcz, hco, hc11, z1, hi, hii, g1, g2, g3, g4]
    refine call_ov hP (setElem34 D3 t o 12 c _ _ _ ks vs (hc.le hA) hpl.pt (by omega) (by omega) hk htag (hel.le hA) (fun x hx => ⟨(hpo x hx).1.pt, by have := (hpo x hx).2.1; omega, (hpo x hx).1.nn1 (hpo x hx).2.2⟩) (hks.le hA) (hvs.le hA) hl h0 h5 hkn hvn hkids) ?_
    clear hP
    rintro _ A5 ⟨c1, fv, rfl, hc1, hfv, hA35⟩ hP
    have hA5 := View.le_trans hA hA35
    have hcz1 := hc1.size
    have hco1 := hc1.ones
    obtain ⟨fb, fc, rfl⟩ := hfv.slice
    obtain ⟨es, hes1, hes2, hes3⟩ := trs_parts (hel.le hA5)
    refine hR _ _ _ ?_; clear hR R
    iterate 4 (refine seqX_hide2 fun R hR => ?_; simp [go_sem, hcz, hco, hc11, z1, hi, hii, g1, g2, g3, g4, hcz1, hco1]; refine hR _ _ _ ?_; clear hR R)
    refine seqX_hide2 fun R hR => ?_
    simp [go_sem, hcz, hco, hc11, z1, hi, hii, g1, g2, g3, g4, hcz1, hco1]
    intro q11 hq11
    replace hP := hP.cons hq11
    clear hq11
    have d114 : q11 ≠ q4 := (hP.ne q4 (by simp [addrs])).1
    have d411 : q4 ≠ q11 := (hP.ne q4 (by simp [addrs])).2
    refine hR _ _ _ ?_; clear hR R
    refine seqX_hide2 fun R hR => ?_
    simp [go_sem, hcz, hco, hc11, z1, hi, hii, g1, g2, g3, g4, hcz1, hco1, d114, d411]
    refine hR _ _ _ ?_; clear hR R
    iterate 2 (refine seqX_hide2 fun R hR => ?_; simp [go_sem, hcz, hco, hc11, z1, hi, hii, g1, g2, g3, g4, hcz1, hco1, d114, d411]; refine hR _ _ _ ?_; clear hR R)
    rw [seqX_nil]
    refine hK _ _ _ ?_; clear hK K
    refine hN10 _ _ _ ?_
    refine xc_two fun N11 hN11 => ?_
    refine xc_reg2 fun K hK => ?_
    simp only [rall, rsl, gres]
    (refine seqX_hide2 fun R hR => ?_; simp [go_sem, hcz, hco, hc11, z1, hi, hii, g1, g2, g3, g4, hcz1, hco1, d114, d411]; refine hR _ _ _ ?_; clear hR R)
    rw [seqX_nil]
    refine hK _ _ _ ?_; clear hK K
    refine hN11 _ _ _ ?_
    refine xc_two fun N12 hN12 => ?_
    refine xc_reg2 fun K hK => ?_
    simp only [rall, rsl, gres]
    (refine seqX_hide2 fun R hR => ?_; simp [go_sem, hcz, hco, hc11, z1, hi, hii, g1, g2, g3, g4, hcz1, hco1, d114, d411]; refine hR _ _ _ ?_; clear hR R)
    rw [seqX_nil]
    refine hK _ _ _ ?_; clear hK K
    refine hN12 _ _ _ ?_
    refine xc_two fun N13 hN13 => ?_
    refine xc_two fun N14 hN14 => ?_
    refine xc_reg2 fun K hK => ?_
    simp only [rall, rsl, gres]
    iterate 4 (refine seqX_hide2 fun R hR => ?_; simp [go_sem, hcz, hco, hc11, z1, hi, hii, g1, g2, g3, g4, hcz1, hco1, d114, d411]; refine hR _ _ _ ?_; clear hR R)
    rw [seqX_nil]
    refine hK _ _ _ ?_; clear hK K
    refine hN14 _ _ _ ?_
    rw [xc_block]
    rw [xc_loop]
    refine vloopK (fun k' e ds A' => ∃ (i : Nat) (D : View) (w : Value) (n : Nat) (cs : List Value) (met : Bool), k' = t.kids.length - i ∧ ds = [] ∧ A' = ov D [(q11, .cells c1 24 (0, 0)), (q4, .cells c 24 (0, 0))] ∧ Priv D [q11, q4] ∧ e 1 = .slice eb (opt1 o).length ec ∧ e 2 = .slice kb ks.length kc ∧ e 3 = .slice wb vs.length wc ∧ e 4 = .pointer (some ⟨q4, 0, none⟩) ∧ e 11 = .pointer (some ⟨q11, 0, none⟩) ∧ e 12 = .slice fb (opt1 o).length fc ∧ e 13 = .int .i64 0 ∧ e 14 = w ∧ e 15 = .bool met ∧ e 99 = .slice bb t.kids.length bc0 ∧ e 100 = .int .i64 t.kids.length ∧ e 101 = .int .i64 i ∧ (i ≤ t.kids.length) ∧ (A5 ≤ D) ∧ (Own A5 D 24 12 w n cs) ∧ (n = (setT (fitK ks vs) (opt1 o) (t.kids.take i)).length) ∧ (cs.length = n * 12) ∧ (Parts 12 cs (setT (fitK ks vs) (opt1 o) (t.kids.take i)) (IsTr A5)) ∧ (n ≤ i) ∧ (met = (t.kids.take i).any (fitK ks vs))) _ ⟨0, A5, .slice none 0 0, 0, [], false, rfl, rfl, rfl, hP, by simp [go_sem, hcz, hco, hc11, z1, hi, hii, g1, g2, g3, g4, hcz1, hco1, d114, d411], by simp [go_sem, hcz, hco, hc11, z1, hi, hii, g1, g2, g3, g4, hcz1, hco1, d114, d411], by simp [go_sem, hcz, hco, hc11, z1, hi, hii, g1, g2, g3, g4, hcz1, hco1, d114, d411], by simp [go_sem, hcz, hco, hc11, z1, hi, hii, g1, g2, g3, g4, hcz1, hco1, d114, d411], by simp [go_sem, hcz, hco, hc11, z1, hi, hii, g1, g2, g3, g4, hcz1, hco1, d114, d411], by simp [go_sem, hcz, hco, hc11, z1, hi, hii, g1, g2, g3, g4, hcz1, hco1, d114, d411], by simp [go_sem, hcz, hco, hc11, z1, hi, hii, g1, g2, g3, g4, hcz1, hco1, d114, d411], by simp [go_sem, hcz, hco, hc11, z1, hi, hii, g1, g2, g3, g4, hcz1, hco1, d114, d411], by simp [go_sem, hcz, hco, hc11, z1, hi, hii, g1, g2, g3, g4, hcz1, hco1, d114, d411], by simp [go_sem, hcz, hco, hc11, z1, hi, hii, g1, g2, g3, g4, hcz1, hco1, d114, d411], by simp [go_sem, hcz, hco, hc11, z1, hi, hii, g1, g2, g3, g4, hcz1, hco1, d114, d411], by simp [go_sem, hcz, hco, hc11, z1, hi, hii, g1, g2, g3, g4, hcz1, hco1, d114, d411], by omega, View.le_refl _, Own.nil _ _ _ _, rfl, rfl, Parts.nil _ _, Nat.le_refl _, rfl⟩ ?_
    clear g1 g2 g3 g4
    clear hP
    rintro k' e ds _ ⟨i, D, w, n, cs, met, rfl, rfl, rfl, hP, g1, g2, g3, g4, g11, g12, g13, g14, g15, g99, g100, g101, hil, hAD, hO, hn, hcl, hps, hni, hmet⟩ J1 X1 hJ1 hX1
    refine xc_sound _ ?_
    have hw1 : IntKind.i64.wrap ((i : Int) + 1) = ((i + 1 : Nat) : Int) := by rw [wrap_in (by omega) (by omega)]; omega
    obtain ⟨xb, xcp, rfl⟩ := hO.shape
    by_cases hi : i < t.kids.length
    · have hii : (i : Int) < t.kids.length := by omega
      obtain ⟨bs, cap, f1, hel1⟩ := htr
      simp only [Value.slice.injEq, true_and] at f1
      obtain ⟨hb1, hbc1⟩ := f1
      obtain ⟨a1, ci, ha1, u1, hci0⟩ := hel1 i hi
      rw [ha1] at hb1
      subst hb1
      have u1 := le_cells (View.le_trans hA5 hAD) _ _ _ u1
      have hci5 := hci0.le hA5
      have hz1 := hci0.size
      have ho1 := hci0.ones
      have hfe := fit_eq (hpl.kid3 (List.getElem_mem hi)) hl h0 hvn
      have hstp := setT_step (fitK ks vs) (opt1 o) t.kids hi
      have hkz : t.kids[i].kids.length ≤ 1000000 := by have h1 := nds_kid' (List.getElem_mem hi); have h2 := nds_kl9 t.kids[i]; omega
      have hany : (t.kids.take (i + 1)).any (fitK ks vs) = ((t.kids.take i).any (fitK ks vs) || fitK ks vs t.kids[i]) := by
        rw [List.take_succ_eq_append_getElem hi, List.any_append]
        simp
      refine xc_two fun N15 hN15 => ?_
      refine xc_reg2 fun K hK => ?_
      simp only [rall, rsl, gres]
      (refine seqX_hide2 fun R hR => ?_; simp [go_sem, hcz, hco, hc11, z1, hi, hii, hcz1, hco1, d114, d411, g1, g2, g3, g4, g11, g12, g13, g14, g15, g99, g100, g101, hw1, hz1, ho1, bcs hP u1]; refine hR _ _ _ ?_; clear hR R)
      rw [seqX_nil]
      refine hK _ _ _ ?_; clear hK K
      refine hN15 _ _ _ ?_
      refine xc_two fun N16 hN16 => ?_
      refine xc_iftrue (by simp [go_sem, hcz, hco, hc11, z1, hi, hii, hcz1, hco1, d114, d411, g1, g2, g3, g4, g11, g12, g13, g14, g15, g99, g100, g101, hw1, hz1, ho1, bcs hP u1]) ?_
      refine hN16 _ _ _ ?_
      refine xc_two fun N17 hN17 => ?_
      rw [xc_block]
      refine xc_two fun N18 hN18 => ?_
      refine xc_reg2 fun K hK => ?_
      simp only [rall, rsl, gres]
      iterate 2 (refine seqX_hide2 fun R hR => ?_; simp [go_sem, hcz, hco, hc11, z1, hi, hii, hcz1, hco1, d114, d411, g1, g2, g3, g4, g11, g12, g13, g14, g15, g99, g100, g101, hw1, hz1, ho1, bcs hP u1]; refine hR _ _ _ ?_; clear hR R)
      refine seqX_hide2 fun R hR => ?_
      simp [go_sem, hcz, hco, hc11, z1, hi, hii, hcz1, hco1, d114, d411, g1, g2, g3, g4, g11, g12, g13, g14, g15, g99, g100, g101, hw1, hz1, ho1, bcs hP u1]
      intro q17 hq17
      replace hP := hP.cons hq17
      clear hq17
      have d1711 : q17 ≠ q11 := (hP.ne q11 (by simp [addrs])).1
      have d1117 : q11 ≠ q17 := (hP.ne q11 (by simp [addrs])).2
      have d174 : q17 ≠ q4 := (hP.ne q4 (by simp [addrs])).1
      have d417 : q4 ≠ q17 := (hP.ne q4 (by simp [addrs])).2
      refine hR _ _ _ ?_; clear hR R
      refine seqX_hide2 fun R hR => ?_
      simp [go_sem, hcz, hco, hc11, z1, hi, hii, hcz1, hco1, d114, d411, g1, g2, g3, g4, g11, g12, g13, g14, g15, g99, g100, g101, hw1, hz1, ho1, bcs hP u1, d1711, d1117, d174, d417]
      refine hR _ _ _ ?_; clear hR R
      rw [seqX_nil]
      refine hK _ _ _ ?_; clear hK K
      refine hN18 _ _ _ ?_
      refine xc_two fun N19 hN19 => ?_
      refine xc_two fun N20 hN20 => ?_
      refine xc_reg2 fun K hK => ?_
      simp only [rall, rsl, gres]
      iterate 3 (refine seqX_hide2 fun R hR => ?_; simp [go_sem, hcz, hco, hc11, z1, hi, hii, hcz1, hco1, d114, d411, g1, g2, g3, g4, g11, g12, g13, g14, g15, g99, g100, g101, hw1, hz1, ho1, bcs hP u1, d1711, d1117, d174, d417]; refine hR _ _ _ ?_; clear hR R)
      refine seqX_hide2 fun R hR => ?_
      simp [go_sem, hcz, hco, hc11, z1, hi, hii, hcz1, hco1, d114, d411, g1, g2, g3, g4, g11, g12, g13, g14, g15, g99, g100, g101, hw1, hz1, ho1, bcs hP u1, d1711, d1117, d174, d417]
      refine call_ov hP (fits38 D _ ci _ _ ks vs (hci5.le hAD) (hks.le (View.le_trans hA5 hAD)) (hvs.le (View.le_trans hA5 hAD)) hl (by omega) hkn hkz) ?_
      clear hP
      rintro r D2 ⟨hr, hD2⟩ hP
      rw [hfe] at hr
      subst hr
      have hAD2 := View.le_trans hAD hD2
      have hO2 := hO.le hD2
      cases hfit : fitK ks vs t.kids[i] with
      | true =>
        rw [hfit, Bool.or_true] at hany
        rw [hfit, if_pos rfl] at hstp
        refine hR _ _ _ ?_; clear hR R
        rw [seqX_nil]
        refine hK _ _ _ ?_; clear hK K
        refine hN20 _ _ _ ?_
        refine xc_iftrue (by simp [go_sem, hcz, hco, hc11, z1, hi, hii, hcz1, hco1, d114, d411, g1, g2, g3, g4, g11, g12, g13, g14, g15, g99, g100, g101, hw1, hz1, ho1, d1711, d1117, d174, d417, hfit]) ?_
        refine xc_two fun N21 hN21 => ?_
        refine xc_reg2 fun K hK => ?_
        simp only [rall, rsl, gres]
        iterate 2 (refine seqX_hide2 fun R hR => ?_; simp [go_sem, hcz, hco, hc11, z1, hi, hii, hcz1, hco1, d114, d411, g1, g2, g3, g4, g11, g12, g13, g14, g15, g99, g100, g101, hw1, hz1, ho1, d1711, d1117, d174, d417, hfit]; refine hR _ _ _ ?_; clear hR R)
        refine seqX_hide2 fun R hR => ?_
        simp [go_sem, hcz, hco, hc11, z1, hi, hii, hcz1, hco1, d114, d411, g1, g2, g3, g4, g11, g12, g13, g14, g15, g99, g100, g101, hw1, hz1, ho1, d1711, d1117, d174, d417, hfit]
        refine append_ov (cs := es) (m := (opt1 o).length) hP ti22 ti22 (fun k => by simp) ti24 rfl (by decide) hO2 hAD2 ?_ (by simp [isStr]) (ones_parts hes2 hes3) (by omega) ?_
        · refine appended_le (View.le_trans hAD2 ?_) (hes1 _)
          exact le_ov hP
        clear hP
        rintro v4 D4 hA4 hO4 - hP
        obtain ⟨yb, ycp, rfl⟩ := hO4.shape
        refine hR _ _ _ ?_; clear hR R
        iterate 2 (refine seqX_hide2 fun R hR => ?_; simp [go_sem, hcz, hco, hc11, z1, hi, hii, hcz1, hco1, d114, d411, g1, g2, g3, g4, g11, g12, g13, g14, g15, g99, g100, g101, hw1, hz1, ho1, d1711, d1117, d174, d417, hfit]; refine hR _ _ _ ?_; clear hR R)
        rw [seqX_nil]
        refine hK _ _ _ ?_; clear hK K
        refine hN21 _ _ _ ?_
        refine hN17 _ _ _ ?_
        refine xc_reg2 fun K hK => ?_
        simp only [rall, rsl, gres]
        iterate 2 (refine seqX_hide2 fun R hR => ?_; simp [go_sem, hcz, hco, hc11, z1, hi, hii, hcz1, hco1, d114, d411, g1, g2, g3, g4, g11, g12, g13, g14, g15, g99, g100, g101, hw1, hz1, ho1, d1711, d1117, d174, d417, hfit]; refine hR _ _ _ ?_; clear hR R)
        rw [seqX_nil]
        refine hK _ _ _ ?_; clear hK K
        refine sink_goal 0 hP rfl fun hPn lq17 nq17 => ?_
        clear hP; have hP := hPn; clear hPn
        simp only [List.eraseIdx_cons_zero, List.eraseIdx_cons_succ, addrs_cons, addrs_nil] at hP ⊢
        have hn2 : n + (opt1 o).length = (setT (fitK ks vs) (opt1 o) (t.kids.take (i + 1))).length := by rw [hstp, List.length_append, hn]
        refine hJ1 (t.kids.length - (i + 1)) _ _ _ (by omega) ⟨i + 1, _, .slice yb (n + (opt1 o).length) ycp, n + (opt1 o).length, cs ++ es, true, rfl, rfl, rfl, hP, by simp [go_sem, hcz, hco, hc11, z1, hi, hii, hcz1, hco1, d114, d411, g1, g2, g3, g4, g11, g12, g13, g14, g15, g99, g100, g101, hw1, hz1, ho1, d1711, d1117, d174, d417, hfit], by simp [go_sem, hcz, hco, hc11, z1, hi, hii, hcz1, hco1, d114, d411, g1, g2, g3, g4, g11, g12, g13, g14, g15, g99, g100, g101, hw1, hz1, ho1, d1711, d1117, d174, d417, hfit], by simp [go_sem, hcz, hco, hc11, z1, hi, hii, hcz1, hco1, d114, d411, g1, g2, g3, g4, g11, g12, g13, g14, g15, g99, g100, g101, hw1, hz1, ho1, d1711, d1117, d174, d417, hfit], by simp [go_sem, hcz, hco, hc11, z1, hi, hii, hcz1, hco1, d114, d411, g1, g2, g3, g4, g11, g12, g13, g14, g15, g99, g100, g101, hw1, hz1, ho1, d1711, d1117, d174, d417, hfit], by simp [go_sem, hcz, hco, hc11, z1, hi, hii, hcz1, hco1, d114, d411, g1, g2, g3, g4, g11, g12, g13, g14, g15, g99, g100, g101, hw1, hz1, ho1, d1711, d1117, d174, d417, hfit], by simp [go_sem, hcz, hco, hc11, z1, hi, hii, hcz1, hco1, d114, d411, g1, g2, g3, g4, g11, g12, g13, g14, g15, g99, g100, g101, hw1, hz1, ho1, d1711, d1117, d174, d417, hfit], by simp [go_sem, hcz, hco, hc11, z1, hi, hii, hcz1, hco1, d114, d411, g1, g2, g3, g4, g11, g12, g13, g14, g15, g99, g100, g101, hw1, hz1, ho1, d1711, d1117, d174, d417, hfit], by simp [go_sem, hcz, hco, hc11, z1, hi, hii, hcz1, hco1, d114, d411, g1, g2, g3, g4, g11, g12, g13, g14, g15, g99, g100, g101, hw1, hz1, ho1, d1711, d1117, d174, d417, hfit], by simp [go_sem, hcz, hco, hc11, z1, hi, hii, hcz1, hco1, d114, d411, g1, g2, g3, g4, g11, g12, g13, g14, g15, g99, g100, g101, hw1, hz1, ho1, d1711, d1117, d174, d417, hfit], by simp [go_sem, hcz, hco, hc11, z1, hi, hii, hcz1, hco1, d114, d411, g1, g2, g3, g4, g11, g12, g13, g14, g15, g99, g100, g101, hw1, hz1, ho1, d1711, d1117, d174, d417, hfit], by simp [go_sem, hcz, hco, hc11, z1, hi, hii, hcz1, hco1, d114, d411, g1, g2, g3, g4, g11, g12, g13, g14, g15, g99, g100, g101, hw1, hz1, ho1, d1711, d1117, d174, d417, hfit], by simp [go_sem, hcz, hco, hc11, z1, hi, hii, hcz1, hco1, d114, d411, g1, g2, g3, g4, g11, g12, g13, g14, g15, g99, g100, g101, hw1, hz1, ho1, d1711, d1117, d174, d417, hfit], by omega, View.le_trans hA4 lq17, hO4.le lq17, hn2, by rw [List.length_append, hcl, hes2]; omega, by rw [hstp]; exact hps.app hes3 (by rw [hcl, hn]), by omega, hany.symm⟩
      | false =>
        rw [hfit, Bool.or_false] at hany
        rw [hfit] at hstp
        replace hstp : setT (fitK ks vs) (opt1 o) (t.kids.take (i + 1)) = setT (fitK ks vs) (opt1 o) (t.kids.take i) ++ [t.kids[i]] := hstp
        refine hR _ _ _ ?_; clear hR R
        rw [seqX_nil]
        refine hK _ _ _ ?_; clear hK K
        refine hN20 _ _ _ ?_
        refine xc_iffalse (by simp [go_sem, hcz, hco, hc11, z1, hi, hii, hcz1, hco1, d114, d411, g1, g2, g3, g4, g11, g12, g13, g14, g15, g99, g100, g101, hw1, hz1, ho1, d1711, d1117, d174, d417, hfit]) ?_
        refine hN19 _ _ _ ?_
        refine xc_reg2 fun K hK => ?_
        simp only [rall, rsl, gres]
        iterate 2 (refine seqX_hide2 fun R hR => ?_; simp [go_sem, hcz, hco, hc11, z1, hi, hii, hcz1, hco1, d114, d411, g1, g2, g3, g4, g11, g12, g13, g14, g15, g99, g100, g101, hw1, hz1, ho1, d1711, d1117, d174, d417, hfit]; refine hR _ _ _ ?_; clear hR R)
        refine seqX_hide2 fun R hR => ?_
        simp [go_sem, hcz, hco, hc11, z1, hi, hii, hcz1, hco1, d114, d411, g1, g2, g3, g4, g11, g12, g13, g14, g15, g99, g100, g101, hw1, hz1, ho1, d1711, d1117, d174, d417, hfit]
        intro q114 hq114
        replace hP := hP.cons hq114
        clear hq114
        have d11417 : q114 ≠ q17 := (hP.ne q17 (by simp [addrs])).1
        have d17114 : q17 ≠ q114 := (hP.ne q17 (by simp [addrs])).2
        have d11411 : q114 ≠ q11 := (hP.ne q11 (by simp [addrs])).1
        have d11114 : q11 ≠ q114 := (hP.ne q11 (by simp [addrs])).2
        have d1144 : q114 ≠ q4 := (hP.ne q4 (by simp [addrs])).1
        have d4114 : q4 ≠ q114 := (hP.ne q4 (by simp [addrs])).2
        refine hR _ _ _ ?_; clear hR R
        refine seqX_hide2 fun R hR => ?_
        simp [go_sem, hcz, hco, hc11, z1, hi, hii, hcz1, hco1, d114, d411, g1, g2, g3, g4, g11, g12, g13, g14, g15, g99, g100, g101, hw1, hz1, ho1, d1711, d1117, d174, d417, hfit, d11417, d17114, d11411, d11114, d1144, d4114]
        refine append_ov (cs := ci.toList) (m := 1) hP ti22 ti22 (fun k => by simp) ti24 rfl (by decide) hO2 hAD2 (appended_block (ov_at_here _ _ _ _) (by rw [hz1])) (by simp [isStr]) (List.all_eq_true.1 ho1) (by omega) ?_
        clear hP
        rintro v4 D4 hA4 hO4 - hP
        obtain ⟨yb, ycp, rfl⟩ := hO4.shape
        refine hR _ _ _ ?_; clear hR R
        (refine seqX_hide2 fun R hR => ?_; simp [go_sem, hcz, hco, hc11, z1, hi, hii, hcz1, hco1, d114, d411, g1, g2, g3, g4, g11, g12, g13, g14, g15, g99, g100, g101, hw1, hz1, ho1, d1711, d1117, d174, d417, hfit, d11417, d17114, d11411, d11114, d1144, d4114]; refine hR _ _ _ ?_; clear hR R)
        rw [seqX_nil]
        refine hK _ _ _ ?_; clear hK K
        refine hN17 _ _ _ ?_
        refine xc_reg2 fun K hK => ?_
        simp only [rall, rsl, gres]
        iterate 2 (refine seqX_hide2 fun R hR => ?_; simp [go_sem, hcz, hco, hc11, z1, hi, hii, hcz1, hco1, d114, d411, g1, g2, g3, g4, g11, g12, g13, g14, g15, g99, g100, g101, hw1, hz1, ho1, d1711, d1117, d174, d417, hfit, d11417, d17114, d11411, d11114, d1144, d4114]; refine hR _ _ _ ?_; clear hR R)
        rw [seqX_nil]
        refine hK _ _ _ ?_; clear hK K
        refine sink_goal 0 hP rfl fun hPn lq114 nq114 => ?_
        clear hP; have hP := hPn; clear hPn
        simp only [List.eraseIdx_cons_zero, List.eraseIdx_cons_succ, addrs_cons, addrs_nil] at hP ⊢
        refine sink_goal 0 hP rfl fun hPn lq17 nq17 => ?_
        clear hP; have hP := hPn; clear hPn
        simp only [List.eraseIdx_cons_zero, List.eraseIdx_cons_succ, addrs_cons, addrs_nil] at hP ⊢
        have hn2 : n + 1 = (setT (fitK ks vs) (opt1 o) (t.kids.take (i + 1))).length := by rw [hstp, List.length_append, hn]; rfl
        refine hJ1 (t.kids.length - (i + 1)) _ _ _ (by omega) ⟨i + 1, _, .slice yb (n + 1) ycp, n + 1, cs ++ ci.toList, met, rfl, rfl, rfl, hP, by simp [go_sem, hcz, hco, hc11, z1, hi, hii, hcz1, hco1, d114, d411, g1, g2, g3, g4, g11, g12, g13, g14, g15, g99, g100, g101, hw1, hz1, ho1, d1711, d1117, d174, d417, hfit, d11417, d17114, d11411, d11114, d1144, d4114], by simp [go_sem, hcz, hco, hc11, z1, hi, hii, hcz1, hco1, d114, d411, g1, g2, g3, g4, g11, g12, g13, g14, g15, g99, g100, g101, hw1, hz1, ho1, d1711, d1117, d174, d417, hfit, d11417, d17114, d11411, d11114, d1144, d4114], by simp [go_sem, hcz, hco, hc11, z1, hi, hii, hcz1, hco1, d114, d411, g1, g2, g3, g4, g11, g12, g13, g14, g15, g99, g100, g101, hw1, hz1, ho1, d1711, d1117, d174, d417, hfit, d11417, d17114, d11411, d11114, d1144, d4114], by simp [go_sem, hcz, hco, hc11, z1, hi, hii, hcz1, hco1, d114, d411, g1, g2, g3, g4, g11, g12, g13, g14, g15, g99, g100, g101, hw1, hz1, ho1, d1711, d1117, d174, d417, hfit, d11417, d17114, d11411, d11114, d1144, d4114], by simp [go_sem, hcz, hco, hc11, z1, hi, hii, hcz1, hco1, d114, d411, g1, g2, g3, g4, g11, g12, g13, g14, g15, g99, g100, g101, hw1, hz1, ho1, d1711, d1117, d174, d417, hfit, d11417, d17114, d11411, d11114, d1144, d4114], by simp [go_sem, hcz, hco, hc11, z1, hi, hii, hcz1, hco1, d114, d411, g1, g2, g3, g4, g11, g12, g13, g14, g15, g99, g100, g101, hw1, hz1, ho1, d1711, d1117, d174, d417, hfit, d11417, d17114, d11411, d11114, d1144, d4114], by simp [go_sem, hcz, hco, hc11, z1, hi, hii, hcz1, hco1, d114, d411, g1, g2, g3, g4, g11, g12, g13, g14, g15, g99, g100, g101, hw1, hz1, ho1, d1711, d1117, d174, d417, hfit, d11417, d17114, d11411, d11114, d1144, d4114], by simp [go_sem, hcz, hco, hc11, z1, hi, hii, hcz1, hco1, d114, d411, g1, g2, g3, g4, g11, g12, g13, g14, g15, g99, g100, g101, hw1, hz1, ho1, d1711, d1117, d174, d417, hfit, d11417, d17114, d11411, d11114, d1144, d4114], by simp [go_sem, hcz, hco, hc11, z1, hi, hii, hcz1, hco1, d114, d411, g1, g2, g3, g4, g11, g12, g13, g14, g15, g99, g100, g101, hw1, hz1, ho1, d1711, d1117, d174, d417, hfit, d11417, d17114, d11411, d11114, d1144, d4114], by simp [go_sem, hcz, hco, hc11, z1, hi, hii, hcz1, hco1, d114, d411, g1, g2, g3, g4, g11, g12, g13, g14, g15, g99, g100, g101, hw1, hz1, ho1, d1711, d1117, d174, d417, hfit, d11417, d17114, d11411, d11114, d1144, d4114], by simp [go_sem, hcz, hco, hc11, z1, hi, hii, hcz1, hco1, d114, d411, g1, g2, g3, g4, g11, g12, g13, g14, g15, g99, g100, g101, hw1, hz1, ho1, d1711, d1117, d174, d417, hfit, d11417, d17114, d11411, d11114, d1144, d4114], by simp [go_sem, hcz, hco, hc11, z1, hi, hii, hcz1, hco1, d114, d411, g1, g2, g3, g4, g11, g12, g13, g14, g15, g99, g100, g101, hw1, hz1, ho1, d1711, d1117, d174, d417, hfit, d11417, d17114, d11411, d11114, d1144, d4114], by omega, View.le_trans hA4 (View.le_trans lq114 lq17), hO4.le (View.le_trans lq114 lq17), hn2, by rw [List.length_append, hcl, Array.length_toList, hz1]; omega, by rw [hstp]; exact hps.push (by rw [hcl, hn]) hz1 hci5, by omega, by rw [hany]; exact hmet⟩
    have hii : ¬ (i : Int) < t.kids.length := by omega
    obtain rfl : i = t.kids.length := by omega
    rw [List.take_length] at hn hps hmet
    have hndr := nds_setK (t := t) (o := o) (fitK ks vs) (by omega) (fun x hx => by have := (hpo x hx).2.1; omega)
    have hsame := same_seq t (resT (fitK ks vs) (opt1 o) t.kids) hk
    have hon : ∀ x ∈ opt1 o, nds x ≤ 1000000 := fun x hx => by
      cases o with
      | none => cases hx
      | some y =>
        rw [opt1, List.mem_singleton] at hx
        subst hx
        have := (hpo _ rfl).2.1
        omega
    refine xc_two fun N15 hN15 => ?_
    refine xc_reg2 fun K hK => ?_
    simp only [rall, rsl, gres]
    (refine seqX_hide2 fun R hR => ?_; simp [go_sem, hcz, hco, hc11, z1, hi, hii, hcz1, hco1, d114, d411, g1, g2, g3, g4, g11, g12, g13, g14, g15, g99, g100, g101]; refine hR _ _ _ ?_; clear hR R)
    rw [seqX_nil]
    refine hK _ _ _ ?_; clear hK K
    refine hN15 _ _ _ ?_
    refine xc_two fun N16 hN16 => ?_
    refine xc_iffalse (by simp [go_sem, hcz, hco, hc11, z1, hi, hii, hcz1, hco1, d114, d411, g1, g2, g3, g4, g11, g12, g13, g14, g15, g99, g100, g101]) ?_
    refine hX1 _ _ _ _ ?_
    refine hN13 _ _ _ ?_
    refine xc_two fun N17 hN17 => ?_
    refine xc_two fun N18 hN18 => ?_
    refine xc_reg2 fun K hK => ?_
    simp only [rall, rsl, gres]
    iterate 2 (refine seqX_hide2 fun R hR => ?_; simp [go_sem, hcz, hco, hc11, z1, hi, hii, hcz1, hco1, d114, d411, g1, g2, g3, g4, g11, g12, g13, g14, g15, g99, g100, g101]; refine hR _ _ _ ?_; clear hR R)
    rw [seqX_nil]
    refine hK _ _ _ ?_; clear hK K
    refine hN18 _ _ _ ?_
    cases met with
    | true =>
      have hT : Trs D (.slice xb n xcp) (resT (fitK ks vs) (opt1 o) t.kids) := by
        rw [resT, if_pos hmet.symm]
        exact hO.elems2 hn (hps.le fun _ _ g => IsTr.le hAD _ _ g)
      refine xc_iffalse (by simp [go_sem, hcz, hco, hc11, z1, hi, hii, hcz1, hco1, d114, d411, g1, g2, g3, g4, g11, g12, g13, g14, g15, g99, g100, g101]) ?_
      refine hN17 _ _ _ ?_
      refine xc_two fun N19 hN19 => ?_
      rw [xc_draws]
      refine vdrawK [(0, true), (1, true), (2, true), (3, true), (4, true), (5, true), (6, false), (7, true), (8, true), (9, true), (10, true), (11, false), (12, true), (13, true), (14, false), (15, true), (16, true)] (ov D [(q11, .cells c1 24 (0, 0)), (q4, .cells c 24 (0, 0))]) mixed (by kernel_rfl) (View.le_refl _) fun K hK => ?_
      simp only [rsl, gres]
      iterate 5 (refine seqR_hide fun R hR => ?_; simp [go_sem, hcz, hco, hc11, z1, hi, hii, hcz1, hco1, d114, d411, g1, g2, g3, g4, g11, g12, g13, g14, g15, g99, g100, g101]; refine hR _ _ _ ?_; clear hR R)
      refine seqR_hide fun R hR => ?_
      simp [go_sem, hcz, hco, hc11, z1, hi, hii, hcz1, hco1, d114, d411, g1, g2, g3, g4, g11, g12, g13, g14, g15, g99, g100, g101]
      refine call_ov hP (listNode39 D (resT (fitK ks vs) (opt1 o) t.kids) _ hT) ?_
      clear hP
      rintro _ B3 ⟨cl, rfl, hcl, hB3⟩ hP
      have hczl := hcl.size
      have hcol := hcl.ones
      refine ⟨ov_mono hB3, hR _ _ _ ?_⟩; clear hR R
      refine seqR_hide fun R hR => ?_
      simp [go_sem, hcz, hco, hc11, z1, hi, hii, hcz1, hco1, d114, d411, g1, g2, g3, g4, g11, g12, g13, g14, g15, g99, g100, g101, hczl, hcol]
      refine call_ov hP (same14 _ B3 _ c1 cl (hc1.le (View.le_trans hAD hB3)) hcl hsame hndr) ?_
      clear hP
      rintro _ B4 ⟨rfl, hB4⟩ hP
      refine hR _ _ _ ?_; clear hR R
      iterate 4 (refine seqR_hide fun R hR => ?_; simp [go_sem, hcz, hco, hc11, z1, hi, hii, hcz1, hco1, d114, d411, g1, g2, g3, g4, g11, g12, g13, g14, g15, g99, g100, g101, hczl, hcol]; refine hR _ _ _ ?_; clear hR R)
      refine seqR_hide fun R hR => ?_
      simp [go_sem, hcz, hco, hc11, z1, hi, hii, hcz1, hco1, d114, d411, g1, g2, g3, g4, g11, g12, g13, g14, g15, g99, g100, g101, hczl, hcol]
      have hel4 := (hel.le hA5).le (View.le_trans hAD (View.le_trans hB3 hB4))
      refine call_ov hP (sames27 B4 _ _ (opt1 o) (hfv.le (View.le_trans hAD (View.le_trans hB3 hB4))) hel4 (by cases o <;> simp [opt1]) hon) ?_
      clear hP
      rintro _ B5 ⟨rfl, hB5⟩ hP
      refine hR _ _ _ ?_; clear hR R
      iterate 2 (refine seqR_hide fun R hR => ?_; simp [go_sem, hcz, hco, hc11, z1, hi, hii, hcz1, hco1, d114, d411, g1, g2, g3, g4, g11, g12, g13, g14, g15, g99, g100, g101, hczl, hcol]; refine hR _ _ _ ?_; clear hR R)
      refine seqR_hide fun R hR => ?_
      simp [go_sem, hcz, hco, hc11, z1, hi, hii, hcz1, hco1, d114, d411, g1, g2, g3, g4, g11, g12, g13, g14, g15, g99, g100, g101, hczl, hcol]
      refine call_ov hP (lives28 B5) ?_
      clear hP
      rintro _ B6 ⟨rfl, hB6⟩ hP
      refine hR _ _ _ ?_; clear hR R
      iterate 2 (refine seqR_hide fun R hR => ?_; simp [go_sem, hcz, hco, hc11, z1, hi, hii, hcz1, hco1, d114, d411, g1, g2, g3, g4, g11, g12, g13, g14, g15, g99, g100, g101, hczl, hcol]; refine hR _ _ _ ?_; clear hR R)
      rw [seqR_nil]
      refine hK _ _ _ ?_; clear hK K
      refine hN19 _ _ _ ?_
      simp [go_sem, hcz, hco, hc11, z1, hi, hii, hcz1, hco1, d114, d411, g1, g2, g3, g4, g11, g12, g13, g14, g15, g99, g100, g101, hczl, hcol]
      exact View.le_trans hA5 (View.le_trans hAD (View.le_trans hB3 (View.le_trans hB4 (View.le_trans hB5 (View.le_trans hB6 (le_ov hP))))))
    | false =>
      refine xc_iftrue (by simp [go_sem, hcz, hco, hc11, z1, hi, hii, hcz1, hco1, d114, d411, g1, g2, g3, g4, g11, g12, g13, g14, g15, g99, g100, g101]) ?_
      refine xc_reg2 fun K hK => ?_
      simp only [rall, rsl, gres]
      iterate 2 (refine seqX_hide2 fun R hR => ?_; simp [go_sem, hcz, hco, hc11, z1, hi, hii, hcz1, hco1, d114, d411, g1, g2, g3, g4, g11, g12, g13, g14, g15, g99, g100, g101]; refine hR _ _ _ ?_; clear hR R)
      refine seqX_hide2 fun R hR => ?_
      simp [go_sem, hcz, hco, hc11, z1, hi, hii, hcz1, hco1, d114, d411, g1, g2, g3, g4, g11, g12, g13, g14, g15, g99, g100, g101]
      refine append_ov (cs := es) (m := (opt1 o).length) hP ti22 ti22 (fun k => by simp) ti24 rfl (by decide) hO hAD ?_ (by simp [isStr]) (ones_parts hes2 hes3) (by omega) ?_
      · refine appended_le (View.le_trans hAD ?_) (hes1 _)
        exact le_ov hP
      clear hP
      rintro v4 D4 hA4 hO4 - hP
      obtain ⟨yb, ycp, rfl⟩ := hO4.shape
      have hn2 : n + (opt1 o).length = (resT (fitK ks vs) (opt1 o) t.kids).length := by rw [resT, if_neg (by rw [← hmet]; decide), List.length_append, hn]
      have hT : Trs D4 (.slice yb (n + (opt1 o).length) ycp) (resT (fitK ks vs) (opt1 o) t.kids) := by
        refine hO4.elems2 hn2 ?_
        rw [resT, if_neg (by rw [← hmet]; decide)]
        exact (hps.app hes3 (by rw [hcl, hn])).le fun _ _ g => IsTr.le hA4 _ _ g
      refine hR _ _ _ ?_; clear hR R
      (refine seqX_hide2 fun R hR => ?_; simp [go_sem, hcz, hco, hc11, z1, hi, hii, hcz1, hco1, d114, d411, g1, g2, g3, g4, g11, g12, g13, g14, g15, g99, g100, g101]; refine hR _ _ _ ?_; clear hR R)
      rw [seqX_nil]
      refine hK _ _ _ ?_; clear hK K
      refine hN17 _ _ _ ?_
      refine xc_two fun N19 hN19 => ?_
      rw [xc_draws]
      refine vdrawK [(0, true), (1, true), (2, true), (3, true), (4, true), (5, true), (6, false), (7, true), (8, true), (9, true), (10, true), (11, false), (12, true), (13, true), (14, false), (15, true), (16, true)] (ov D4 [(q11, .cells c1 24 (0, 0)), (q4, .cells c 24 (0, 0))]) mixed (by kernel_rfl) (View.le_refl _) fun K hK => ?_
      simp only [rsl, gres]
      iterate 5 (refine seqR_hide fun R hR => ?_; simp [go_sem, hcz, hco, hc11, z1, hi, hii, hcz1, hco1, d114, d411, g1, g2, g3, g4, g11, g12, g13, g14, g15, g99, g100, g101]; refine hR _ _ _ ?_; clear hR R)
      refine seqR_hide fun R hR => ?_
      simp [go_sem, hcz, hco, hc11, z1, hi, hii, hcz1, hco1, d114, d411, g1, g2, g3, g4, g11, g12, g13, g14, g15, g99, g100, g101]
      refine call_ov hP (listNode39 D4 (resT (fitK ks vs) (opt1 o) t.kids) _ hT) ?_
      clear hP
      rintro _ B3 ⟨cl, rfl, hcl, hB3⟩ hP
      have hczl := hcl.size
      have hcol := hcl.ones
      refine ⟨ov_mono hB3, hR _ _ _ ?_⟩; clear hR R
      refine seqR_hide fun R hR => ?_
      simp [go_sem, hcz, hco, hc11, z1, hi, hii, hcz1, hco1, d114, d411, g1, g2, g3, g4, g11, g12, g13, g14, g15, g99, g100, g101, hczl, hcol]
      refine call_ov hP (same14 _ B3 _ c1 cl (hc1.le (View.le_trans hA4 hB3)) hcl hsame hndr) ?_
      clear hP
      rintro _ B4 ⟨rfl, hB4⟩ hP
      refine hR _ _ _ ?_; clear hR R
      iterate 4 (refine seqR_hide fun R hR => ?_; simp [go_sem, hcz, hco, hc11, z1, hi, hii, hcz1, hco1, d114, d411, g1, g2, g3, g4, g11, g12, g13, g14, g15, g99, g100, g101, hczl, hcol]; refine hR _ _ _ ?_; clear hR R)
      refine seqR_hide fun R hR => ?_
      simp [go_sem, hcz, hco, hc11, z1, hi, hii, hcz1, hco1, d114, d411, g1, g2, g3, g4, g11, g12, g13, g14, g15, g99, g100, g101, hczl, hcol]
      have hel4 := (hel.le hA5).le (View.le_trans hA4 (View.le_trans hB3 hB4))
      refine call_ov hP (sames27 B4 _ _ (opt1 o) (hfv.le (View.le_trans hA4 (View.le_trans hB3 hB4))) hel4 (by cases o <;> simp [opt1]) hon) ?_
      clear hP
      rintro _ B5 ⟨rfl, hB5⟩ hP
      refine hR _ _ _ ?_; clear hR R
      iterate 2 (refine seqR_hide fun R hR => ?_; simp [go_sem, hcz, hco, hc11, z1, hi, hii, hcz1, hco1, d114, d411, g1, g2, g3, g4, g11, g12, g13, g14, g15, g99, g100, g101, hczl, hcol]; refine hR _ _ _ ?_; clear hR R)
      refine seqR_hide fun R hR => ?_
      simp [go_sem, hcz, hco, hc11, z1, hi, hii, hcz1, hco1, d114, d411, g1, g2, g3, g4, g11, g12, g13, g14, g15, g99, g100, g101, hczl, hcol]
      refine call_ov hP (lives28 B5) ?_
      clear hP
      rintro _ B6 ⟨rfl, hB6⟩ hP
      refine hR _ _ _ ?_; clear hR R
      iterate 2 (refine seqR_hide fun R hR => ?_; simp [go_sem, hcz, hco, hc11, z1, hi, hii, hcz1, hco1, d114, d411, g1, g2, g3, g4, g11, g12, g13, g14, g15, g99, g100, g101, hczl, hcol]; refine hR _ _ _ ?_; clear hR R)
      rw [seqR_nil]
      refine hK _ _ _ ?_; clear hK K
      refine hN19 _ _ _ ?_
      simp [go_sem, hcz, hco, hc11, z1, hi, hii, hcz1, hco1, d114, d411, g1, g2, g3, g4, g11, g12, g13, g14, g15, g99, g100, g101, hczl, hcol]
      exact View.le_trans hA5 (View.le_trans hA4 (View.le_trans hB3 (View.le_trans hB4 (View.le_trans hB5 (View.le_trans hB6 (le_ov hP))))))
  by_cases h2 : 1 < eo.length
  · have z2 : (1 : Int) < eo.length := by omega
    have z3 : ¬ eo.length = 1 := by omega
    have z4 : ((eo.length : Int) == 1) = false := beq_eq_false_iff_ne.2 (by omega)
    refine hR _ _ _ ?_; clear hR R
    iterate 15 (refine seqX_hide2 fun R hR => ?_; simp [go_sem, hcz, hco, hc11, z1, g1, g2, g3, g4, g37, g38, g39, hi, hii, h2, z2, z3, z4]; refine hR _ _ _ ?_; clear hR R)
    refine seqX_hide2 fun R hR => ?_
    simp [go_sem, hcz, hco, hc11, z1, g1, g2, g3, g4, g37, g38, g39, hi, hii, h2, z2, z3, z4]
    refine hR _ _ _ ?_; clear hR R
    iterate 5 (refine seqX_hide2 fun R hR => ?_; simp [go_sem, hcz, hco, hc11, z1, g1, g2, g3, g4, g37, g38, g39, hi, hii, h2, z2, z3, z4]; refine hR _ _ _ ?_; clear hR R)
    refine seqX_hide2 fun R hR => ?_
    simp [go_sem, hcz, hco, hc11, z1, g1, g2, g3, g4, g37, g38, g39, hi, hii, h2, z2, z3, z4]
    refine hR _ _ _ ?_; clear hR R
    iterate 3 (refine seqX_hide2 fun R hR => ?_; simp [go_sem, hcz, hco, hc11, z1, g1, g2, g3, g4, g37, g38, g39, hi, hii, h2, z2, z3, z4]; refine hR _ _ _ ?_; clear hR R)
    rw [seqX_nil]
    refine hK _ _ _ ?_; clear hK K
    refine hN9 _ _ _ ?_
    refine xc_iftrue (by simp [go_sem, hcz, hco, hc11, z1, g1, g2, g3, g4, g37, g38, g39, hi, hii, h2, z2, z3, z4]) ?_
    refine xc_two fun N10 hN10 => ?_
    refine xc_reg2 fun K hK => ?_
    simp only [rall, rsl, gres]
    (refine seqX_hide2 fun R hR => ?_; simp [go_sem, hcz, hco, hc11, z1, g1, g2, g3, g4, g37, g38, g39, hi, hii, h2, z2, z3, z4]; refine hR _ _ _ ?_; clear hR R)
    rw [seqX_nil]
    refine hK _ _ _ ?_; clear hK K
    refine hN10 _ _ _ ?_
    simp [go_sem, hcz, hco, hc11, z1, g1, g2, g3, g4, g37, g38, g39, hi, hii, h2, z2, z3, z4]
    exact View.le_trans hA4 (le_ov hP)
  rcases eo with _ | ⟨x, _ | ⟨y, l⟩⟩
  · skip
    refine hR _ _ _ ?_; clear hR R
    iterate 15 (refine seqX_hide2 fun R hR => ?_; simp [go_sem, hcz, hco, hc11, z1, g1, g2, g3, g4, g37, g38, g39, hi, hii]; refine hR _ _ _ ?_; clear hR R)
    refine seqX_hide2 fun R hR => ?_
    simp [go_sem, hcz, hco, hc11, z1, g1, g2, g3, g4, g37, g38, g39, hi, hii]
    refine hR _ _ _ ?_; clear hR R
    iterate 5 (refine seqX_hide2 fun R hR => ?_; simp [go_sem, hcz, hco, hc11, z1, g1, g2, g3, g4, g37, g38, g39, hi, hii]; refine hR _ _ _ ?_; clear hR R)
    refine seqX_hide2 fun R hR => ?_
    simp [go_sem, hcz, hco, hc11, z1, g1, g2, g3, g4, g37, g38, g39, hi, hii]
    refine hR _ _ _ ?_; clear hR R
    iterate 3 (refine seqX_hide2 fun R hR => ?_; simp [go_sem, hcz, hco, hc11, z1, g1, g2, g3, g4, g37, g38, g39, hi, hii]; refine hR _ _ _ ?_; clear hR R)
    rw [seqX_nil]
    refine hK _ _ _ ?_; clear hK K
    refine hN9 _ _ _ ?_
    refine xc_iffalse (by simp [go_sem, hcz, hco, hc11, z1, g1, g2, g3, g4, g37, g38, g39, hi, hii]) ?_
    exact tl (none) (D1) _ hP (by simp [go_sem, hcz, hco, hc11, z1, g1, g2, g3, g4, g37, g38, g39, hi, hii]) (by simp [go_sem, hcz, hco, hc11, z1, g1, g2, g3, g4, g37, g38, g39, hi, hii]) (by simp [go_sem, hcz, hco, hc11, z1, g1, g2, g3, g4, g37, g38, g39, hi, hii]) (by simp [go_sem, hcz, hco, hc11, z1, g1, g2, g3, g4, g37, g38, g39, hi, hii]) (hA4) (rfl) (fun x hx => by cases hx)
  rotate_left
  · exact absurd (show 1 < (x :: y :: l).length by simp) h2
  obtain ⟨bs, cap, f1, hel1⟩ := hel
  simp only [Value.slice.injEq, true_and] at f1
  obtain ⟨hb1, hbc1⟩ := f1
  obtain ⟨a1, ci, ha1, u1, hci⟩ := hel1 0 (by simp)
  rw [ha1] at hb1
  subst hb1
  rw [show a1.add (0 * 12) = a1 from if_pos rfl] at u1
  have u1 := le_cells hA4 _ _ _ u1
  replace hci : IsTr A x ci := hci
  have hz1 := hci.size
  have ho1 := hci.ones
  refine hR _ _ _ ?_; clear hR R
  iterate 15 (refine seqX_hide2 fun R hR => ?_; simp [go_sem, hcz, hco, hc11, z1, g1, g2, g3, g4, g37, g38, g39, hi, hii, hz1, ho1, bcs hP u1, xindexAt, vload]; refine hR _ _ _ ?_; clear hR R)
  refine seqX_hide2 fun R hR => ?_
  simp [go_sem, hcz, hco, hc11, z1, g1, g2, g3, g4, g37, g38, g39, hi, hii, hz1, ho1, bcs hP u1, xindexAt, vload]
  refine call_ov hP (plainTree12 D1 x ci 50 (hci.le hA4) (hes x (by simp)) (by omega)) ?_
  clear hP
  rintro _ D5 ⟨⟨b, rfl, hbp⟩, hD5⟩ hP
  have hA5 := View.le_trans hA4 hD5
  cases b with
  | false =>
    refine hR _ _ _ ?_; clear hR R
    iterate 5 (refine seqX_hide2 fun R hR => ?_; simp [go_sem, hcz, hco, hc11, z1, g1, g2, g3, g4, g37, g38, g39, hi, hii, hz1, ho1, xindexAt, vload]; refine hR _ _ _ ?_; clear hR R)
    refine seqX_hide2 fun R hR => ?_
    simp [go_sem, hcz, hco, hc11, z1, g1, g2, g3, g4, g37, g38, g39, hi, hii, hz1, ho1, xindexAt, vload]
    refine hR _ _ _ ?_; clear hR R
    iterate 3 (refine seqX_hide2 fun R hR => ?_; simp [go_sem, hcz, hco, hc11, z1, g1, g2, g3, g4, g37, g38, g39, hi, hii, hz1, ho1, xindexAt, vload]; refine hR _ _ _ ?_; clear hR R)
    rw [seqX_nil]
    refine hK _ _ _ ?_; clear hK K
    refine hN9 _ _ _ ?_
    refine xc_iftrue (by simp [go_sem, hcz, hco, hc11, z1, g1, g2, g3, g4, g37, g38, g39, hi, hii, hz1, ho1, xindexAt, vload]) ?_
    refine xc_two fun N10 hN10 => ?_
    refine xc_reg2 fun K hK => ?_
    simp only [rall, rsl, gres]
    (refine seqX_hide2 fun R hR => ?_; simp [go_sem, hcz, hco, hc11, z1, g1, g2, g3, g4, g37, g38, g39, hi, hii, hz1, ho1, xindexAt, vload]; refine hR _ _ _ ?_; clear hR R)
    rw [seqX_nil]
    refine hK _ _ _ ?_; clear hK K
    refine hN10 _ _ _ ?_
    simp [go_sem, hcz, hco, hc11, z1, g1, g2, g3, g4, g37, g38, g39, hi, hii, hz1, ho1, xindexAt, vload]
    exact View.le_trans hA5 (le_ov hP)
  | true =>
  obtain ⟨hpx, hnx⟩ := hbp rfl
  have u5 := le_cells hD5 _ _ _ u1
  refine hR _ _ _ ?_; clear hR R
  iterate 5 (refine seqX_hide2 fun R hR => ?_; simp [go_sem, hcz, hco, hc11, z1, g1, g2, g3, g4, g37, g38, g39, hi, hii, hz1, ho1, xindexAt, vload, bcs hP u5]; refine hR _ _ _ ?_; clear hR R)
  refine seqX_hide2 fun R hR => ?_
  simp [go_sem, hcz, hco, hc11, z1, g1, g2, g3, g4, g37, g38, g39, hi, hii, hz1, ho1, xindexAt, vload, bcs hP u5]
  refine call_ov hP (isNull16 D5 x ci (hci.le hA5)) ?_
  clear hP
  rintro _ D6 ⟨⟨b, rfl, hbn⟩, hD6⟩ hP
  have hA6 := View.le_trans hA5 hD6
  cases b with
  | true =>
    refine hR _ _ _ ?_; clear hR R
    iterate 3 (refine seqX_hide2 fun R hR => ?_; simp [go_sem, hcz, hco, hc11, z1, g1, g2, g3, g4, g37, g38, g39, hi, hii, hz1, ho1, xindexAt, vload]; refine hR _ _ _ ?_; clear hR R)
    rw [seqX_nil]
    refine hK _ _ _ ?_; clear hK K
    refine hN9 _ _ _ ?_
    refine xc_iftrue (by simp [go_sem, hcz, hco, hc11, z1, g1, g2, g3, g4, g37, g38, g39, hi, hii, hz1, ho1, xindexAt, vload]) ?_
    refine xc_two fun N10 hN10 => ?_
    refine xc_reg2 fun K hK => ?_
    simp only [rall, rsl, gres]
    (refine seqX_hide2 fun R hR => ?_; simp [go_sem, hcz, hco, hc11, z1, g1, g2, g3, g4, g37, g38, g39, hi, hii, hz1, ho1, xindexAt, vload]; refine hR _ _ _ ?_; clear hR R)
    rw [seqX_nil]
    refine hK _ _ _ ?_; clear hK K
    refine hN10 _ _ _ ?_
    simp [go_sem, hcz, hco, hc11, z1, g1, g2, g3, g4, g37, g38, g39, hi, hii, hz1, ho1, xindexAt, vload]
    exact View.le_trans hA6 (le_ov hP)
  | false =>
  have hbn := hbn rfl
  refine hR _ _ _ ?_; clear hR R
  iterate 3 (refine seqX_hide2 fun R hR => ?_; simp [go_sem, hcz, hco, hc11, z1, g1, g2, g3, g4, g37, g38, g39, hi, hii, hz1, ho1, xindexAt, vload]; refine hR _ _ _ ?_; clear hR R)
  rw [seqX_nil]
  refine hK _ _ _ ?_; clear hK K
  refine hN9 _ _ _ ?_
  refine xc_iffalse (by simp [go_sem, hcz, hco, hc11, z1, g1, g2, g3, g4, g37, g38, g39, hi, hii, hz1, ho1, xindexAt, vload]) ?_
  exact tl (some x) (D6) _ hP (by simp [go_sem, hcz, hco, hc11, z1, g1, g2, g3, g4, g37, g38, g39, hi, hii, hz1, ho1, xindexAt, vload]) (by simp [go_sem, hcz, hco, hc11, z1, g1, g2, g3, g4, g37, g38, g39, hi, hii, hz1, ho1, xindexAt, vload]) (by simp [go_sem, hcz, hco, hc11, z1, g1, g2, g3, g4, g37, g38, g39, hi, hii, hz1, ho1, xindexAt, vload]) (by simp [go_sem, hcz, hco, hc11, z1, g1, g2, g3, g4, g37, g38, g39, hi, hii, hz1, ho1, xindexAt, vload]) (hA6) (rfl) (fun y hy => by cases hy; exact ⟨hpx, hnx, hbn⟩)
theorem law9 (W : World) (c : Array Value) (t : Tr) (hh : IsTr (full W) t c ∧ SB t) (el : Value) (eo : List Tr) (he : Trs (full W) el eo ∧ eo.length ≤ 1125899906842624 ∧ ∀ x ∈ eo, SB x) (kv : Value) (ks : List ByteArray) (hks : Texts (full W) kv ks ∧ ks.length ≤ maxLen ∧ ∀ s ∈ ks, s.size ≤ maxLen) (vv : Value) (vs : List ByteArray) (hvs : Texts (full W) vv vs ∧ vs.length ≤ maxLen ∧ ∀ s ∈ vs, s.size ≤ maxLen) : VCalls Try.prog 9 #[.agg c, el, kv, vv] (full W) fun r A' => r = .bool true ∧ full W ≤ A' := setEl9 (full W) c t hh el eo he kv ks hks.1 vv vs hvs.1
end Go.Proofs.YtpinamipjddobaaV

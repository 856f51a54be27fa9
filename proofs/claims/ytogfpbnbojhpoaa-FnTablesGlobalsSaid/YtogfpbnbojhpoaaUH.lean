/- Tables: what values become, each map in a block of its own. -/
import Derived.Test.YtogfpbnbojhpoaaUG
namespace Go.Proofs.YtogfpbnbojhpoaaV
open Go.RowKit
set_option linter.unusedSimpArgs false
set_option linter.unusedVariables false
def Gq (v : RV) (n m0 : Nat) (A : View) (r : Value) (A' : View) : Prop :=
  ∃ x D F J, r = .tuple #[x, .bool true] ∧ A ≤ D ∧ D m0 = none ∧ A' = D.set m0 (.cells #[.int .i64 ((n + nodes v : Nat) : Int)] 3) ∧ OV J D v x F ∧ (∀ b, F b → A b = none ∧ D b ≠ none ∧ ¬ J b) ∧ ∀ b, J b → A b = none ∧ D b ≠ none
def A63o (v : RV) : Prop := ∀ (A : View) (c : Array Value) (lv d m0 n : Nat), IsRV A v c → A m0 = none → Good v lv → d + lv ≤ 60 → n + nodes v ≤ 2000 →
  VCalls Try.prog 63 #[.agg c, .int .i64 d, .pointer (some ⟨m0, 0, none⟩)] (A.set m0 (.cells #[.int .i64 (n : Int)] 3)) fun r A' => Gq v n m0 A r A'
theorem OV.scalar {A : View} {v : RV} {x : Value} (h : AnyV (fun _ => none) v x) (h7 : kindOf v ≠ 7) : OV (fun _ => False) A v x (fun _ => False) := by
  rw [OV]
  exact .inl ⟨h7, fun _ => none, fun b o h => (by cases h), fun b o h => (by cases h), h⟩
theorem Gq.scalar {v : RV} {n m0 : Nat} {A D : View} {x : Value} (hA : A ≤ D) (hm : D m0 = none) (h : AnyV (fun _ => none) v x) (h7 : kindOf v ≠ 7) (hn : nodes v = 1) : Gq v n m0 A (.tuple #[x, .bool true]) (D.set m0 (.cells #[.int .i64 ((n : Int) + 1)] 3)) :=
  ⟨x, D, _, _, rfl, hA, hm, by rw [hn]; rfl, OV.scalar h h7, fun _ h => h.elim, fun _ h => h.elim⟩
/-- Some of the keys. -/
def gof (keys : List ByteArray) (list : List RV) (j : Nat) : ByteArray → Option RV := fun k => atR k (keys.take j) (list.take j)
theorem atR_app {k s : ByteArray} {x : RV} : ∀ {ks : List ByteArray} {xs : List RV}, ks.length = xs.length → (∀ y ∈ ks, y ≠ s) → atR k (ks ++ [s]) (xs ++ [x]) = if k = s then some x else atR k ks xs
  | [], [], _, _ => by
    simp only [List.nil_append, atR]
    by_cases h : s = k
    · rw [if_pos h, if_pos h.symm]
    · rw [if_neg h, if_neg (fun hx => h hx.symm)]
  | a :: ks, y :: xs, hl, hn => by
    have ih := atR_app (k := k) (s := s) (x := x) (ks := ks) (xs := xs) (by simpa using hl) fun z hz => hn z (List.mem_cons_of_mem _ hz)
    have ha := hn a List.mem_cons_self
    simp only [List.cons_append, atR, ih]
    by_cases h : a = k
    · subst h
      rw [if_pos rfl, if_neg ha, if_pos rfl]
    · rw [if_neg h, if_neg h]
  | [], _ :: _, hl, _ => by simp at hl
  | _ :: _, [], hl, _ => by simp at hl
theorem gof_succ {keys : List ByteArray} {list : List RV} (hr : Rising keys) (hl : keys.length = list.length) {j : Nat} (hj : j < keys.length) (k : ByteArray) : gput (gof keys list j) keys[j] (list[j]'(by omega)) k = gof keys list (j + 1) k := by
  unfold gput gof
  rw [List.take_succ_eq_append_getElem hj, List.take_succ_eq_append_getElem (show j < list.length by omega), atR_app (by simp; omega)]
  intro y hy hx
  obtain ⟨i, hi, rfl⟩ := List.getElem_of_mem hy
  rw [List.getElem_take] at hx
  have hi' : i < j := by simp at hi; omega
  exact rising_ne hr hj hi' hx
theorem gof_all {b : Bool} {i : Int} {f : Nat} {t : ByteArray} {keys : List ByteArray} {list : List RV} (hl : keys.length = list.length) (k : ByteArray) : gof keys list keys.length k = at' (.mk 7 b i f t keys list) k := by
  unfold gof at'
  simp only [if_true]
  rw [List.take_length, List.take_of_length_le (by omega)]
theorem gof_none {keys : List ByteArray} {list : List RV} (k : ByteArray) : gof keys list 0 k = none := by simp [gof, atR]
set_option maxRecDepth 20000 in
set_option maxHeartbeats 8000000 in
theorem any63o_step (k : Int) (b : Bool) (i : Int) (f : Nat) (t : ByteArray) (keys : List ByteArray) (list : List RV) (ih : ∀ j (h : j < list.length), A63o list[j]) : A63o (.mk k b i f t keys list) := by
  intro A c lv d m0 n hc hm hG hd hnn
  have hcz := hc.size
  have hco := hc.ones
  have hc0 := hc
  rw [IsRV] at hc0
  obtain ⟨ks, ls, rfl, hks, hkl, ⟨bl, cl, rfl⟩, hel⟩ := hc0
  obtain ⟨bk, ck, rfl⟩ := hks.slice
  have hG0 := hG
  rw [Good] at hG
  obtain ⟨hlv, hk6, hk7, hkk, hGs⟩ := hG
  have hnn0 := hnn
  rw [nodes_mk] at hnn
  have hP : Priv A [m0] := ⟨hm, by simp, trivial⟩
  have hw : IntKind.i64.wrap ((n : Int) + 1) = (n : Int) + 1 := wrap_in (by omega) (by omega)
  have e1 : ¬ (60 : Int) < d := by omega
  have e1' : ¬ 60 < d := by omega
  have e2 : ¬ (2000 : Int) < (n : Int) + 1 := by omega
  have e2' : ¬ 2000 < n + 1 := by omega
  have e2'' : ¬ 1999 < n := by omega
  refine xcalls Try.func63 rfl (by simp [Try.ntmps63]) ?_
  simp only [Try.f63]
  show xc _ _ _ _ _ _ (ov A [(m0, .cells #[.int .i64 (n : Int)] 3 (0, 0))])
  refine xc_two fun N1 hN1 => ?_
  refine xc_reg1 3 rfl fun K hK => ?_
  simp only [show (List.range 3).map (·, true) = [(0, true), (1, true), (2, true)] from rfl, rslv_cons, rslv_nil, List.getElem?_toArray, List.getElem?_cons_zero, List.getElem?_cons_succ, gres]
  refine seqX_hide2 fun R hR => ?_
  simp [go_sem, hw, e1, e1', e2, e2', e2'', hcz, hco]
  intro q3 hq3
  replace hP := hP.cons hq3
  clear hq3
  have d30 : q3 ≠ m0 := (hP.ne m0 (by simp [addrs])).1
  have d03 : m0 ≠ q3 := (hP.ne m0 (by simp [addrs])).2
  refine hR _ _ _ ?_; clear hR R
  iterate 2 (refine seqX_hide2 fun R hR => ?_; simp [go_sem, hw, e1, e1', e2, e2', e2'', hcz, hco, d30, d03]; refine hR _ _ _ ?_; clear hR R)
  rw [seqX_nil]
  refine hK _ _ _ ?_; clear hK K
  refine hN1 _ _ _ ?_
  refine xc_two fun N2 hN2 => ?_
  refine xc_two fun N3 hN3 => ?_
  refine xc_reg1 6 rfl fun K hK => ?_
  simp only [show (List.range 6).map (·, true) = [(0, true), (1, true), (2, true), (3, true), (4, true), (5, true)] from rfl, rslv_cons, rslv_nil, List.getElem?_toArray, List.getElem?_cons_zero, List.getElem?_cons_succ, gres]
  iterate 5 (refine seqX_hide2 fun R hR => ?_; simp [go_sem, hw, e1, e1', e2, e2', e2'', hcz, hco, d30, d03]; refine hR _ _ _ ?_; clear hR R)
  refine seqX_hide2 fun R hR => ?_
  simp [go_sem, hw, e1, e1', e2, e2', e2'', hcz, hco, d30, d03]
  refine hR _ _ _ ?_; clear hR R
  rw [seqX_nil]
  refine hK _ _ _ ?_; clear hK K
  refine hN3 _ _ _ ?_
  refine xc_two fun N4 hN4 => ?_
  refine xc_reg1 8 rfl fun K hK => ?_
  simp only [show (List.range 8).map (·, true) = [(0, true), (1, true), (2, true), (3, true), (4, true), (5, true), (6, true), (7, true)] from rfl, rslv_cons, rslv_nil, List.getElem?_toArray, List.getElem?_cons_zero, List.getElem?_cons_succ, gres]
  iterate 8 (refine seqX_hide2 fun R hR => ?_; simp [go_sem, hw, e1, e1', e2, e2', e2'', hcz, hco, d30, d03]; refine hR _ _ _ ?_; clear hR R)
  rw [seqX_nil]
  refine hK _ _ _ ?_; clear hK K
  refine hN4 _ _ _ ?_
  refine xc_iffalse (by simp [go_sem, hw, e1, e1', e2, e2', e2'', hcz, hco, d30, d03]) ?_
  refine hN2 _ _ _ ?_
  refine xc_two fun N5 hN5 => ?_
  refine xc_two fun N6 hN6 => ?_
  refine xc_reg1 2 rfl fun K hK => ?_
  simp only [show (List.range 2).map (·, true) = [(0, true), (1, true)] from rfl, rslv_cons, rslv_nil, List.getElem?_toArray, List.getElem?_cons_zero, List.getElem?_cons_succ, gres]
  iterate 2 (refine seqX_hide2 fun R hR => ?_; simp [go_sem, hw, e1, e1', e2, e2', e2'', hcz, hco, d30, d03]; refine hR _ _ _ ?_; clear hR R)
  rw [seqX_nil]
  refine hK _ _ _ ?_; clear hK K
  refine hN6 _ _ _ ?_
  rw [xc_block]
  refine xc_two fun N7 hN7 => ?_
  have leaf : ∀ x (K : Value → View → Prop) (o : Obj), k < 6 → AnyV (fun _ => none) (.mk k b i f t keys list) x → Gq (.mk k b i f t keys list) n m0 A (.tuple #[x, .bool true]) (ov A [(q3, o), (m0, .cells #[.int .i64 ((n : Int) + 1)] 3 (0, 0))]) := by
    intro x K o h6 hx
    refine sink_goal (Q := fun V => Gq (.mk k b i f t keys list) n m0 A (.tuple #[x, .bool true]) V) 0 hP rfl fun hP lq nq => ?_
    refine Gq.scalar lq hP.1 hx (by simp only [kindOf]; omega) ?_
    rw [nodes_mk, hk6 h6]
    rfl
  rcases hkk with rfl | rfl | rfl | rfl | ⟨rfl, hf⟩ | rfl | ⟨rfl, hris, hlen⟩
  · skip
    refine xc_reg1 2 rfl fun K hK => ?_
    simp only [show (List.range 2).map (·, true) = [(0, true), (1, true)] from rfl, rslv_cons, rslv_nil, List.getElem?_toArray, List.getElem?_cons_zero, List.getElem?_cons_succ, gres]
    iterate 2 (refine seqX_hide2 fun R hR => ?_; simp [go_sem, hw, e1, e1', e2, e2', e2'', hcz, hco, d30, d03]; refine hR _ _ _ ?_; clear hR R)
    rw [seqX_nil]
    refine hK _ _ _ ?_; clear hK K
    refine hN7 _ _ _ ?_
    refine xc_iftrue (by simp [go_sem, hw, e1, e1', e2, e2', e2'', hcz, hco, d30, d03]) ?_
    refine xc_two fun N8 hN8 => ?_
    refine xc_reg1 2 rfl fun K hK => ?_
    simp only [show (List.range 2).map (·, true) = [(0, true), (1, true)] from rfl, rslv_cons, rslv_nil, List.getElem?_toArray, List.getElem?_cons_zero, List.getElem?_cons_succ, gres]
    iterate 2 (refine seqX_hide2 fun R hR => ?_; simp [go_sem, hw, e1, e1', e2, e2', e2'', hcz, hco, d30, d03]; refine hR _ _ _ ?_; clear hR R)
    rw [seqX_nil]
    refine hK _ _ _ ?_; clear hK K
    refine hN8 _ _ _ ?_
    simp [go_sem, hw, e1, e1', e2, e2', e2'', hcz, hco, d30, d03]
    refine leaf _ (fun _ _ => True) _ (by omega) ?_
    rw [AnyV]; exact .inl ⟨rfl, rfl⟩
  · skip
    refine xc_reg1 2 rfl fun K hK => ?_
    simp only [show (List.range 2).map (·, true) = [(0, true), (1, true)] from rfl, rslv_cons, rslv_nil, List.getElem?_toArray, List.getElem?_cons_zero, List.getElem?_cons_succ, gres]
    iterate 2 (refine seqX_hide2 fun R hR => ?_; simp [go_sem, hw, e1, e1', e2, e2', e2'', hcz, hco, d30, d03]; refine hR _ _ _ ?_; clear hR R)
    rw [seqX_nil]
    refine hK _ _ _ ?_; clear hK K
    refine hN7 _ _ _ ?_
    refine xc_iffalse (by simp [go_sem, hw, e1, e1', e2, e2', e2'', hcz, hco, d30, d03]) ?_
    refine xc_two fun N8 hN8 => ?_
    refine xc_reg1 2 rfl fun K hK => ?_
    simp only [show (List.range 2).map (·, true) = [(0, true), (1, true)] from rfl, rslv_cons, rslv_nil, List.getElem?_toArray, List.getElem?_cons_zero, List.getElem?_cons_succ, gres]
    iterate 2 (refine seqX_hide2 fun R hR => ?_; simp [go_sem, hw, e1, e1', e2, e2', e2'', hcz, hco, d30, d03]; refine hR _ _ _ ?_; clear hR R)
    rw [seqX_nil]
    refine hK _ _ _ ?_; clear hK K
    refine hN8 _ _ _ ?_
    refine xc_iftrue (by simp [go_sem, hw, e1, e1', e2, e2', e2'', hcz, hco, d30, d03]) ?_
    refine xc_two fun N9 hN9 => ?_
    refine xc_reg1 5 rfl fun K hK => ?_
    simp only [show (List.range 5).map (·, true) = [(0, true), (1, true), (2, true), (3, true), (4, true)] from rfl, rslv_cons, rslv_nil, List.getElem?_toArray, List.getElem?_cons_zero, List.getElem?_cons_succ, gres]
    iterate 5 (refine seqX_hide2 fun R hR => ?_; simp [go_sem, hw, e1, e1', e2, e2', e2'', hcz, hco, d30, d03]; refine hR _ _ _ ?_; clear hR R)
    rw [seqX_nil]
    refine hK _ _ _ ?_; clear hK K
    refine hN9 _ _ _ ?_
    simp [go_sem, hw, e1, e1', e2, e2', e2'', hcz, hco, d30, d03]
    refine leaf _ (fun _ _ => True) _ (by omega) ?_
    rw [AnyV]; exact .inr (.inl ⟨rfl, rfl⟩)
  · skip
    refine xc_reg1 2 rfl fun K hK => ?_
    simp only [show (List.range 2).map (·, true) = [(0, true), (1, true)] from rfl, rslv_cons, rslv_nil, List.getElem?_toArray, List.getElem?_cons_zero, List.getElem?_cons_succ, gres]
    iterate 2 (refine seqX_hide2 fun R hR => ?_; simp [go_sem, hw, e1, e1', e2, e2', e2'', hcz, hco, d30, d03]; refine hR _ _ _ ?_; clear hR R)
    rw [seqX_nil]
    refine hK _ _ _ ?_; clear hK K
    refine hN7 _ _ _ ?_
    refine xc_iffalse (by simp [go_sem, hw, e1, e1', e2, e2', e2'', hcz, hco, d30, d03]) ?_
    refine xc_two fun N8 hN8 => ?_
    refine xc_reg1 2 rfl fun K hK => ?_
    simp only [show (List.range 2).map (·, true) = [(0, true), (1, true)] from rfl, rslv_cons, rslv_nil, List.getElem?_toArray, List.getElem?_cons_zero, List.getElem?_cons_succ, gres]
    iterate 2 (refine seqX_hide2 fun R hR => ?_; simp [go_sem, hw, e1, e1', e2, e2', e2'', hcz, hco, d30, d03]; refine hR _ _ _ ?_; clear hR R)
    rw [seqX_nil]
    refine hK _ _ _ ?_; clear hK K
    refine hN8 _ _ _ ?_
    refine xc_iffalse (by simp [go_sem, hw, e1, e1', e2, e2', e2'', hcz, hco, d30, d03]) ?_
    refine xc_two fun N9 hN9 => ?_
    refine xc_reg1 2 rfl fun K hK => ?_
    simp only [show (List.range 2).map (·, true) = [(0, true), (1, true)] from rfl, rslv_cons, rslv_nil, List.getElem?_toArray, List.getElem?_cons_zero, List.getElem?_cons_succ, gres]
    iterate 2 (refine seqX_hide2 fun R hR => ?_; simp [go_sem, hw, e1, e1', e2, e2', e2'', hcz, hco, d30, d03]; refine hR _ _ _ ?_; clear hR R)
    rw [seqX_nil]
    refine hK _ _ _ ?_; clear hK K
    refine hN9 _ _ _ ?_
    refine xc_iftrue (by simp [go_sem, hw, e1, e1', e2, e2', e2'', hcz, hco, d30, d03]) ?_
    refine xc_two fun N10 hN10 => ?_
    refine xc_reg1 5 rfl fun K hK => ?_
    simp only [show (List.range 5).map (·, true) = [(0, true), (1, true), (2, true), (3, true), (4, true)] from rfl, rslv_cons, rslv_nil, List.getElem?_toArray, List.getElem?_cons_zero, List.getElem?_cons_succ, gres]
    iterate 5 (refine seqX_hide2 fun R hR => ?_; simp [go_sem, hw, e1, e1', e2, e2', e2'', hcz, hco, d30, d03]; refine hR _ _ _ ?_; clear hR R)
    rw [seqX_nil]
    refine hK _ _ _ ?_; clear hK K
    refine hN10 _ _ _ ?_
    simp [go_sem, hw, e1, e1', e2, e2', e2'', hcz, hco, d30, d03]
    refine leaf _ (fun _ _ => True) _ (by omega) ?_
    rw [AnyV]; exact .inr (.inr (.inl ⟨rfl, rfl⟩))
  · skip
    refine xc_reg1 2 rfl fun K hK => ?_
    simp only [show (List.range 2).map (·, true) = [(0, true), (1, true)] from rfl, rslv_cons, rslv_nil, List.getElem?_toArray, List.getElem?_cons_zero, List.getElem?_cons_succ, gres]
    iterate 2 (refine seqX_hide2 fun R hR => ?_; simp [go_sem, hw, e1, e1', e2, e2', e2'', hcz, hco, d30, d03]; refine hR _ _ _ ?_; clear hR R)
    rw [seqX_nil]
    refine hK _ _ _ ?_; clear hK K
    refine hN7 _ _ _ ?_
    refine xc_iffalse (by simp [go_sem, hw, e1, e1', e2, e2', e2'', hcz, hco, d30, d03]) ?_
    refine xc_two fun N8 hN8 => ?_
    refine xc_reg1 2 rfl fun K hK => ?_
    simp only [show (List.range 2).map (·, true) = [(0, true), (1, true)] from rfl, rslv_cons, rslv_nil, List.getElem?_toArray, List.getElem?_cons_zero, List.getElem?_cons_succ, gres]
    iterate 2 (refine seqX_hide2 fun R hR => ?_; simp [go_sem, hw, e1, e1', e2, e2', e2'', hcz, hco, d30, d03]; refine hR _ _ _ ?_; clear hR R)
    rw [seqX_nil]
    refine hK _ _ _ ?_; clear hK K
    refine hN8 _ _ _ ?_
    refine xc_iffalse (by simp [go_sem, hw, e1, e1', e2, e2', e2'', hcz, hco, d30, d03]) ?_
    refine xc_two fun N9 hN9 => ?_
    refine xc_reg1 2 rfl fun K hK => ?_
    simp only [show (List.range 2).map (·, true) = [(0, true), (1, true)] from rfl, rslv_cons, rslv_nil, List.getElem?_toArray, List.getElem?_cons_zero, List.getElem?_cons_succ, gres]
    iterate 2 (refine seqX_hide2 fun R hR => ?_; simp [go_sem, hw, e1, e1', e2, e2', e2'', hcz, hco, d30, d03]; refine hR _ _ _ ?_; clear hR R)
    rw [seqX_nil]
    refine hK _ _ _ ?_; clear hK K
    refine hN9 _ _ _ ?_
    refine xc_iffalse (by simp [go_sem, hw, e1, e1', e2, e2', e2'', hcz, hco, d30, d03]) ?_
    refine xc_two fun N10 hN10 => ?_
    refine xc_reg1 2 rfl fun K hK => ?_
    simp only [show (List.range 2).map (·, true) = [(0, true), (1, true)] from rfl, rslv_cons, rslv_nil, List.getElem?_toArray, List.getElem?_cons_zero, List.getElem?_cons_succ, gres]
    iterate 2 (refine seqX_hide2 fun R hR => ?_; simp [go_sem, hw, e1, e1', e2, e2', e2'', hcz, hco, d30, d03]; refine hR _ _ _ ?_; clear hR R)
    rw [seqX_nil]
    refine hK _ _ _ ?_; clear hK K
    refine hN10 _ _ _ ?_
    refine xc_iffalse (by simp [go_sem, hw, e1, e1', e2, e2', e2'', hcz, hco, d30, d03]) ?_
    refine xc_two fun N11 hN11 => ?_
    refine xc_reg1 2 rfl fun K hK => ?_
    simp only [show (List.range 2).map (·, true) = [(0, true), (1, true)] from rfl, rslv_cons, rslv_nil, List.getElem?_toArray, List.getElem?_cons_zero, List.getElem?_cons_succ, gres]
    iterate 2 (refine seqX_hide2 fun R hR => ?_; simp [go_sem, hw, e1, e1', e2, e2', e2'', hcz, hco, d30, d03]; refine hR _ _ _ ?_; clear hR R)
    rw [seqX_nil]
    refine hK _ _ _ ?_; clear hK K
    refine hN11 _ _ _ ?_
    refine xc_iftrue (by simp [go_sem, hw, e1, e1', e2, e2', e2'', hcz, hco, d30, d03]) ?_
    refine xc_two fun N12 hN12 => ?_
    refine xc_reg1 5 rfl fun K hK => ?_
    simp only [show (List.range 5).map (·, true) = [(0, true), (1, true), (2, true), (3, true), (4, true)] from rfl, rslv_cons, rslv_nil, List.getElem?_toArray, List.getElem?_cons_zero, List.getElem?_cons_succ, gres]
    iterate 5 (refine seqX_hide2 fun R hR => ?_; simp [go_sem, hw, e1, e1', e2, e2', e2'', hcz, hco, d30, d03]; refine hR _ _ _ ?_; clear hR R)
    rw [seqX_nil]
    refine hK _ _ _ ?_; clear hK K
    refine hN12 _ _ _ ?_
    simp [go_sem, hw, e1, e1', e2, e2', e2'', hcz, hco, d30, d03]
    refine leaf _ (fun _ _ => True) _ (by omega) ?_
    rw [AnyV]; exact .inr (.inr (.inr (.inr (.inl ⟨rfl, rfl⟩))))
  · skip
    refine xc_reg1 2 rfl fun K hK => ?_
    simp only [show (List.range 2).map (·, true) = [(0, true), (1, true)] from rfl, rslv_cons, rslv_nil, List.getElem?_toArray, List.getElem?_cons_zero, List.getElem?_cons_succ, gres]
    iterate 2 (refine seqX_hide2 fun R hR => ?_; simp [go_sem, hw, e1, e1', e2, e2', e2'', hcz, hco, d30, d03]; refine hR _ _ _ ?_; clear hR R)
    rw [seqX_nil]
    refine hK _ _ _ ?_; clear hK K
    refine hN7 _ _ _ ?_
    refine xc_iffalse (by simp [go_sem, hw, e1, e1', e2, e2', e2'', hcz, hco, d30, d03]) ?_
    refine xc_two fun N8 hN8 => ?_
    refine xc_reg1 2 rfl fun K hK => ?_
    simp only [show (List.range 2).map (·, true) = [(0, true), (1, true)] from rfl, rslv_cons, rslv_nil, List.getElem?_toArray, List.getElem?_cons_zero, List.getElem?_cons_succ, gres]
    iterate 2 (refine seqX_hide2 fun R hR => ?_; simp [go_sem, hw, e1, e1', e2, e2', e2'', hcz, hco, d30, d03]; refine hR _ _ _ ?_; clear hR R)
    rw [seqX_nil]
    refine hK _ _ _ ?_; clear hK K
    refine hN8 _ _ _ ?_
    refine xc_iffalse (by simp [go_sem, hw, e1, e1', e2, e2', e2'', hcz, hco, d30, d03]) ?_
    refine xc_two fun N9 hN9 => ?_
    refine xc_reg1 2 rfl fun K hK => ?_
    simp only [show (List.range 2).map (·, true) = [(0, true), (1, true)] from rfl, rslv_cons, rslv_nil, List.getElem?_toArray, List.getElem?_cons_zero, List.getElem?_cons_succ, gres]
    iterate 2 (refine seqX_hide2 fun R hR => ?_; simp [go_sem, hw, e1, e1', e2, e2', e2'', hcz, hco, d30, d03]; refine hR _ _ _ ?_; clear hR R)
    rw [seqX_nil]
    refine hK _ _ _ ?_; clear hK K
    refine hN9 _ _ _ ?_
    refine xc_iffalse (by simp [go_sem, hw, e1, e1', e2, e2', e2'', hcz, hco, d30, d03]) ?_
    refine xc_two fun N10 hN10 => ?_
    refine xc_reg1 2 rfl fun K hK => ?_
    simp only [show (List.range 2).map (·, true) = [(0, true), (1, true)] from rfl, rslv_cons, rslv_nil, List.getElem?_toArray, List.getElem?_cons_zero, List.getElem?_cons_succ, gres]
    iterate 2 (refine seqX_hide2 fun R hR => ?_; simp [go_sem, hw, e1, e1', e2, e2', e2'', hcz, hco, d30, d03]; refine hR _ _ _ ?_; clear hR R)
    rw [seqX_nil]
    refine hK _ _ _ ?_; clear hK K
    refine hN10 _ _ _ ?_
    refine xc_iftrue (by simp [go_sem, hw, e1, e1', e2, e2', e2'', hcz, hco, d30, d03]) ?_
    refine xc_two fun N11 hN11 => ?_
    refine xc_reg1 5 rfl fun K hK => ?_
    simp only [show (List.range 5).map (·, true) = [(0, true), (1, true), (2, true), (3, true), (4, true)] from rfl, rslv_cons, rslv_nil, List.getElem?_toArray, List.getElem?_cons_zero, List.getElem?_cons_succ, gres]
    iterate 5 (refine seqX_hide2 fun R hR => ?_; simp [go_sem, hw, e1, e1', e2, e2', e2'', hcz, hco, d30, d03]; refine hR _ _ _ ?_; clear hR R)
    rw [seqX_nil]
    refine hK _ _ _ ?_; clear hK K
    refine hN11 _ _ _ ?_
    simp [go_sem, hw, e1, e1', e2, e2', e2'', hcz, hco, d30, d03]
    refine leaf _ (fun _ _ => True) _ (by omega) ?_
    rw [AnyV]; exact .inr (.inr (.inr (.inl ⟨rfl, rfl⟩)))
  · skip
    refine xc_reg1 2 rfl fun K hK => ?_
    simp only [show (List.range 2).map (·, true) = [(0, true), (1, true)] from rfl, rslv_cons, rslv_nil, List.getElem?_toArray, List.getElem?_cons_zero, List.getElem?_cons_succ, gres]
    iterate 2 (refine seqX_hide2 fun R hR => ?_; simp [go_sem, hw, e1, e1', e2, e2', e2'', hcz, hco, d30, d03]; refine hR _ _ _ ?_; clear hR R)
    rw [seqX_nil]
    refine hK _ _ _ ?_; clear hK K
    refine hN7 _ _ _ ?_
    refine xc_iffalse (by simp [go_sem, hw, e1, e1', e2, e2', e2'', hcz, hco, d30, d03]) ?_
    refine xc_two fun N8 hN8 => ?_
    refine xc_reg1 2 rfl fun K hK => ?_
    simp only [show (List.range 2).map (·, true) = [(0, true), (1, true)] from rfl, rslv_cons, rslv_nil, List.getElem?_toArray, List.getElem?_cons_zero, List.getElem?_cons_succ, gres]
    iterate 2 (refine seqX_hide2 fun R hR => ?_; simp [go_sem, hw, e1, e1', e2, e2', e2'', hcz, hco, d30, d03]; refine hR _ _ _ ?_; clear hR R)
    rw [seqX_nil]
    refine hK _ _ _ ?_; clear hK K
    refine hN8 _ _ _ ?_
    refine xc_iffalse (by simp [go_sem, hw, e1, e1', e2, e2', e2'', hcz, hco, d30, d03]) ?_
    refine xc_two fun N9 hN9 => ?_
    refine xc_reg1 2 rfl fun K hK => ?_
    simp only [show (List.range 2).map (·, true) = [(0, true), (1, true)] from rfl, rslv_cons, rslv_nil, List.getElem?_toArray, List.getElem?_cons_zero, List.getElem?_cons_succ, gres]
    iterate 2 (refine seqX_hide2 fun R hR => ?_; simp [go_sem, hw, e1, e1', e2, e2', e2'', hcz, hco, d30, d03]; refine hR _ _ _ ?_; clear hR R)
    rw [seqX_nil]
    refine hK _ _ _ ?_; clear hK K
    refine hN9 _ _ _ ?_
    refine xc_iffalse (by simp [go_sem, hw, e1, e1', e2, e2', e2'', hcz, hco, d30, d03]) ?_
    refine xc_two fun N10 hN10 => ?_
    refine xc_reg1 2 rfl fun K hK => ?_
    simp only [show (List.range 2).map (·, true) = [(0, true), (1, true)] from rfl, rslv_cons, rslv_nil, List.getElem?_toArray, List.getElem?_cons_zero, List.getElem?_cons_succ, gres]
    iterate 2 (refine seqX_hide2 fun R hR => ?_; simp [go_sem, hw, e1, e1', e2, e2', e2'', hcz, hco, d30, d03]; refine hR _ _ _ ?_; clear hR R)
    rw [seqX_nil]
    refine hK _ _ _ ?_; clear hK K
    refine hN10 _ _ _ ?_
    refine xc_iffalse (by simp [go_sem, hw, e1, e1', e2, e2', e2'', hcz, hco, d30, d03]) ?_
    refine xc_two fun N11 hN11 => ?_
    refine xc_reg1 2 rfl fun K hK => ?_
    simp only [show (List.range 2).map (·, true) = [(0, true), (1, true)] from rfl, rslv_cons, rslv_nil, List.getElem?_toArray, List.getElem?_cons_zero, List.getElem?_cons_succ, gres]
    iterate 2 (refine seqX_hide2 fun R hR => ?_; simp [go_sem, hw, e1, e1', e2, e2', e2'', hcz, hco, d30, d03]; refine hR _ _ _ ?_; clear hR R)
    rw [seqX_nil]
    refine hK _ _ _ ?_; clear hK K
    refine hN11 _ _ _ ?_
    refine xc_iffalse (by simp [go_sem, hw, e1, e1', e2, e2', e2'', hcz, hco, d30, d03]) ?_
    refine xc_two fun N12 hN12 => ?_
    refine xc_reg1 2 rfl fun K hK => ?_
    simp only [show (List.range 2).map (·, true) = [(0, true), (1, true)] from rfl, rslv_cons, rslv_nil, List.getElem?_toArray, List.getElem?_cons_zero, List.getElem?_cons_succ, gres]
    iterate 2 (refine seqX_hide2 fun R hR => ?_; simp [go_sem, hw, e1, e1', e2, e2', e2'', hcz, hco, d30, d03]; refine hR _ _ _ ?_; clear hR R)
    rw [seqX_nil]
    refine hK _ _ _ ?_; clear hK K
    refine hN12 _ _ _ ?_
    refine xc_iftrue (by simp [go_sem, hw, e1, e1', e2, e2', e2'', hcz, hco, d30, d03]) ?_
    refine xc_two fun N13 hN13 => ?_
    refine xc_reg1 2 rfl fun K hK => ?_
    simp only [show (List.range 2).map (·, true) = [(0, true), (1, true)] from rfl, rslv_cons, rslv_nil, List.getElem?_toArray, List.getElem?_cons_zero, List.getElem?_cons_succ, gres]
    refine seqX_hide2 fun R hR => ?_
    simp [go_sem, hw, e1, e1', e2, e2', e2'', hcz, hco, d30, d03]
    intro q57 hq57
    replace hP := hP.cons hq57
    clear hq57
    have d573 : q57 ≠ q3 := (hP.ne q3 (by simp [addrs])).1
    have d357 : q3 ≠ q57 := (hP.ne q3 (by simp [addrs])).2
    have d570 : q57 ≠ m0 := (hP.ne m0 (by simp [addrs])).1
    have d057 : m0 ≠ q57 := (hP.ne m0 (by simp [addrs])).2
    refine hR _ _ _ ?_; clear hR R
    (refine seqX_hide2 fun R hR => ?_; simp [go_sem, hw, e1, e1', e2, e2', e2'', hcz, hco, d30, d03, d573, d357, d570, d057]; refine hR _ _ _ ?_; clear hR R)
    rw [seqX_nil]
    refine hK _ _ _ ?_; clear hK K
    refine hN13 _ _ _ ?_
    refine xc_two fun N14 hN14 => ?_
    refine xc_two fun N15 hN15 => ?_
    refine xc_reg1 4 rfl fun K hK => ?_
    simp only [show (List.range 4).map (·, true) = [(0, true), (1, true), (2, true), (3, true)] from rfl, rslv_cons, rslv_nil, List.getElem?_toArray, List.getElem?_cons_zero, List.getElem?_cons_succ, gres]
    iterate 4 (refine seqX_hide2 fun R hR => ?_; simp [go_sem, hw, e1, e1', e2, e2', e2'', hcz, hco, d30, d03, d573, d357, d570, d057]; refine hR _ _ _ ?_; clear hR R)
    rw [seqX_nil]
    refine hK _ _ _ ?_; clear hK K
    refine hN15 _ _ _ ?_
    rw [xc_block]
    refine sink_goal 0 hP rfl fun hPn lq57 nq57 => ?_
    clear hP; have hP := hPn; clear hPn
    simp only [List.eraseIdx_cons_zero, List.eraseIdx_cons_succ, addrs_cons, addrs_nil] at hP ⊢
    have hown : Own A (A.set q57 (.cells #[] 20)) 20 1 (.slice (some ⟨q57, 0, none⟩) 0 0) 0 [] := own_fresh nq57
    rw [xc_loop]
    refine vloopK (fun k' e ds A' => ∃ (j : Nat) (D0 : View) (D : View) (u : Value) (vals : List Value), k' = list.length - j ∧ ds = [] ∧ A' = ov D [(q3, .cells (rvc 6 b i f t (.slice bk keys.length ck) (.slice bl list.length cl)) 27 (0, 0)), (m0, .cells #[.int .i64 ((n + 1 + S list j : Nat) : Int)] 3 (0, 0))] ∧ Priv D [q3, m0] ∧ e 1 = .int .i64 d ∧ e 2 = .pointer (some ⟨m0, 0, none⟩) ∧ e 8 = u ∧ e 59 = .slice bl list.length cl ∧ e 60 = .int .i64 list.length ∧ e 61 = .int .i64 j ∧ (j ≤ list.length) ∧ (A ≤ D0) ∧ (D0 ≤ D) ∧ (Own D0 D 20 1 u j vals) ∧ (vals.length = j) ∧ (∀ i (h : i < list.length), i < j → ∃ y F J, vals[i]? = some y ∧ OV J D0 (list[i]) y F ∧ (∀ b, F b → A b = none) ∧ ∀ b, J b → A b = none)) _ ⟨0, A, _, _, [], rfl, rfl, rfl, hP, by simp [go_sem, hw, e1, e1', e2, e2', e2'', hcz, hco, d30, d03, d573, d357, d570, d057], by simp [go_sem, hw, e1, e1', e2, e2', e2'', hcz, hco, d30, d03, d573, d357, d570, d057], by simp [go_sem, hw, e1, e1', e2, e2', e2'', hcz, hco, d30, d03, d573, d357, d570, d057], by simp [go_sem, hw, e1, e1', e2, e2', e2'', hcz, hco, d30, d03, d573, d357, d570, d057], by simp [go_sem, hw, e1, e1', e2, e2', e2'', hcz, hco, d30, d03, d573, d357, d570, d057], by simp [go_sem, hw, e1, e1', e2, e2', e2'', hcz, hco, d30, d03, d573, d357, d570, d057], by omega, View.le_refl _, lq57, hown, rfl, fun i h hi => absurd hi (Nat.not_lt_zero _)⟩ ?_
    clear hP
    rintro k' e ds _ ⟨j, D0, D, u, vals, rfl, rfl, rfl, hP, g1, g2, g8, g59, g60, g61, hjl, hA0, h0D, hO, hvl, hvs⟩ J1 X1 hJ1 hX1
    refine xc_sound _ ?_
    have hSn := S_mono list j list.length hjl
    rw [S_all] at hSn
    have hw1 := wrap_nat (i := j) (by have := S_ge list j hjl; omega)
    have hwd : IntKind.i64.wrap ((d : Int) + 1) = ((d + 1 : Nat) : Int) := wrap_nat (by omega)
    by_cases hj : j < list.length
    · obtain ⟨a2, cap2, cj, f2, u2, hcj⟩ := hel j hj
      simp only [Value.slice.injEq] at f2
      obtain ⟨rfl, -, rfl⟩ := f2
      have x2 := le_cells (View.le_trans hA0 h0D) _ _ _ u2
      have hSs := S_succ list j hj
      have hSl := S_mono list (j + 1) list.length hj
      rw [S_all] at hSl
      refine xc_two fun N16 hN16 => ?_
      refine xc_reg1 1 rfl fun K hK => ?_
      simp only [show (List.range 1).map (·, true) = [(0, true)] from rfl, rslv_cons, rslv_nil, List.getElem?_toArray, List.getElem?_cons_zero, List.getElem?_cons_succ, gres]
      (refine seqX_hide2 fun R hR => ?_; simp [go_sem, hw, e1, e1', e2, e2', e2'', hcz, hco, d30, d03, d573, d357, d570, d057, g1, g2, g8, g59, g60, g61, hj, hw1, hwd, bcs hP x2, hcj.size, hcj.ones]; refine hR _ _ _ ?_; clear hR R)
      rw [seqX_nil]
      refine hK _ _ _ ?_; clear hK K
      refine hN16 _ _ _ ?_
      refine xc_two fun N17 hN17 => ?_
      refine xc_iftrue (by simp [go_sem, hw, e1, e1', e2, e2', e2'', hcz, hco, d30, d03, d573, d357, d570, d057, g1, g2, g8, g59, g60, g61, hj, hw1, hwd, bcs hP x2, hcj.size, hcj.ones]) ?_
      refine hN17 _ _ _ ?_
      refine xc_two fun N18 hN18 => ?_
      rw [xc_block]
      refine xc_two fun N19 hN19 => ?_
      refine xc_reg1 4 rfl fun K hK => ?_
      simp only [show (List.range 4).map (·, true) = [(0, true), (1, true), (2, true), (3, true)] from rfl, rslv_cons, rslv_nil, List.getElem?_toArray, List.getElem?_cons_zero, List.getElem?_cons_succ, gres]
      iterate 2 (refine seqX_hide2 fun R hR => ?_; simp [go_sem, hw, e1, e1', e2, e2', e2'', hcz, hco, d30, d03, d573, d357, d570, d057, g1, g2, g8, g59, g60, g61, hj, hw1, hwd, bcs hP x2, hcj.size, hcj.ones]; refine hR _ _ _ ?_; clear hR R)
      refine seqX_hide2 fun R hR => ?_
      simp [go_sem, hw, e1, e1', e2, e2', e2'', hcz, hco, d30, d03, d573, d357, d570, d057, g1, g2, g8, g59, g60, g61, hj, hw1, hwd, bcs hP x2, hcj.size, hcj.ones]
      intro q10 hq10
      replace hP := hP.cons hq10
      clear hq10
      have d103 : q10 ≠ q3 := (hP.ne q3 (by simp [addrs])).1
      have d310 : q3 ≠ q10 := (hP.ne q3 (by simp [addrs])).2
      have d100 : q10 ≠ m0 := (hP.ne m0 (by simp [addrs])).1
      have d010 : m0 ≠ q10 := (hP.ne m0 (by simp [addrs])).2
      refine hR _ _ _ ?_; clear hR R
      refine seqX_hide2 fun R hR => ?_
      simp [go_sem, hw, e1, e1', e2, e2', e2'', hcz, hco, d30, d03, d573, d357, d570, d057, g1, g2, g8, g59, g60, g61, hj, hw1, hwd, bcs hP x2, hcj.size, hcj.ones, d103, d310, d100, d010]
      refine hR _ _ _ ?_; clear hR R
      rw [seqX_nil]
      refine hK _ _ _ ?_; clear hK K
      refine hN19 _ _ _ ?_
      refine xc_two fun N20 hN20 => ?_
      refine xc_reg1 10 rfl fun K hK => ?_
      simp only [show (List.range 10).map (·, true) = [(0, true), (1, true), (2, true), (3, true), (4, true), (5, true), (6, true), (7, true), (8, true), (9, true)] from rfl, rslv_cons, rslv_nil, List.getElem?_toArray, List.getElem?_cons_zero, List.getElem?_cons_succ, gres]
      iterate 4 (refine seqX_hide2 fun R hR => ?_; simp [go_sem, hw, e1, e1', e2, e2', e2'', hcz, hco, d30, d03, d573, d357, d570, d057, g1, g2, g8, g59, g60, g61, hj, hw1, hwd, bcs hP x2, hcj.size, hcj.ones, d103, d310, d100, d010]; refine hR _ _ _ ?_; clear hR R)
      refine seqX_hide2 fun R hR => ?_
      simp [go_sem, hw, e1, e1', e2, e2', e2'', hcz, hco, d30, d03, d573, d357, d570, d057, g1, g2, g8, g59, g60, g61, hj, hw1, hwd, bcs hP x2, hcj.size, hcj.ones, d103, d310, d100, d010]
      refine call_ctr (R' := fun v D1 o' => ∃ x F J, v = .tuple #[x, .bool true] ∧ o' = .cells #[.int .i64 ((n + 1 + S list j + nodes list[j] : Nat) : Int)] 3 (0, 0) ∧ OV J D1 list[j] x F ∧ (∀ b, F b → D0 b = none) ∧ ∀ b, J b → D0 b = none) 2 hP rfl h0D (ih j hj D0 cj (lv - 1) (d + 1) m0 (n + 1 + S list j) (hcj.le hA0) (none_le h0D (hP.no (by simp [addrs]))) (hGs j hj) (by omega) (by omega)) ?_ ?_
      · rintro v E ⟨x, D1, F, J, rfl, h1, h2, rfl, h3, h4, h5⟩
        exact ⟨D1, _, rfl, h2, h1, x, F, J, rfl, rfl, h3, fun b hb => (h4 b hb).1, fun b hb => (h5 b hb).1⟩
      clear hP
      rintro _ D1 _ D' ⟨x, F, J, rfl, rfl, hx, hF, hJ⟩ h01 h1D hKeep hDD hP
      simp only [List.set_cons_zero, List.set_cons_succ, addrs_cons, addrs_nil] at hP ⊢
      have hO1 : Own D1 D' 20 1 u j vals := own_move hO fun k o g1 _ g3 => hKeep k o g1 g3
      have hxm := hx.cells
      simp only [Value.cells] at hxm
      refine hR _ _ _ ?_; clear hR R
      iterate 5 (refine seqX_hide2 fun R hR => ?_; simp [go_sem, hw, e1, e1', e2, e2', e2'', hcz, hco, d30, d03, d573, d357, d570, d057, g1, g2, g8, g59, g60, g61, hj, hw1, hwd, hcj.size, hcj.ones, d103, d310, d100, d010, hxm]; refine hR _ _ _ ?_; clear hR R)
      rw [seqX_nil]
      refine hK _ _ _ ?_; clear hK K
      refine hN20 _ _ _ ?_
      refine xc_two fun N21 hN21 => ?_
      refine xc_two fun N22 hN22 => ?_
      refine xc_reg1 2 rfl fun K hK => ?_
      simp only [show (List.range 2).map (·, true) = [(0, true), (1, true)] from rfl, rslv_cons, rslv_nil, List.getElem?_toArray, List.getElem?_cons_zero, List.getElem?_cons_succ, gres]
      iterate 2 (refine seqX_hide2 fun R hR => ?_; simp [go_sem, hw, e1, e1', e2, e2', e2'', hcz, hco, d30, d03, d573, d357, d570, d057, g1, g2, g8, g59, g60, g61, hj, hw1, hwd, hcj.size, hcj.ones, d103, d310, d100, d010, hxm]; refine hR _ _ _ ?_; clear hR R)
      rw [seqX_nil]
      refine hK _ _ _ ?_; clear hK K
      refine hN22 _ _ _ ?_
      refine xc_iffalse (by simp [go_sem, hw, e1, e1', e2, e2', e2'', hcz, hco, d30, d03, d573, d357, d570, d057, g1, g2, g8, g59, g60, g61, hj, hw1, hwd, hcj.size, hcj.ones, d103, d310, d100, d010, hxm]) ?_
      refine hN21 _ _ _ ?_
      refine xc_reg1 5 rfl fun K hK => ?_
      simp only [show (List.range 5).map (·, true) = [(0, true), (1, true), (2, true), (3, true), (4, true)] from rfl, rslv_cons, rslv_nil, List.getElem?_toArray, List.getElem?_cons_zero, List.getElem?_cons_succ, gres]
      iterate 2 (refine seqX_hide2 fun R hR => ?_; simp [go_sem, hw, e1, e1', e2, e2', e2'', hcz, hco, d30, d03, d573, d357, d570, d057, g1, g2, g8, g59, g60, g61, hj, hw1, hwd, hcj.size, hcj.ones, d103, d310, d100, d010, hxm]; refine hR _ _ _ ?_; clear hR R)
      refine seqX_hide2 fun R hR => ?_
      simp [go_sem, hw, e1, e1', e2, e2', e2'', hcz, hco, d30, d03, d573, d357, d570, d057, g1, g2, g8, g59, g60, g61, hj, hw1, hwd, hcj.size, hcj.ones, d103, d310, d100, d010, hxm]
      intro q77 hq77
      replace hP := hP.cons hq77
      clear hq77
      have d7710 : q77 ≠ q10 := (hP.ne q10 (by simp [addrs])).1
      have d1077 : q10 ≠ q77 := (hP.ne q10 (by simp [addrs])).2
      have d773 : q77 ≠ q3 := (hP.ne q3 (by simp [addrs])).1
      have d377 : q3 ≠ q77 := (hP.ne q3 (by simp [addrs])).2
      have d770 : q77 ≠ m0 := (hP.ne m0 (by simp [addrs])).1
      have d077 : m0 ≠ q77 := (hP.ne m0 (by simp [addrs])).2
      refine hR _ _ _ ?_; clear hR R
      refine seqX_hide2 fun R hR => ?_
      simp [go_sem, hw, e1, e1', e2, e2', e2'', hcz, hco, d30, d03, d573, d357, d570, d057, g1, g2, g8, g59, g60, g61, hj, hw1, hwd, hcj.size, hcj.ones, d103, d310, d100, d010, hxm, d7710, d1077, d773, d377, d770, d077]
      refine append_ov (cs := [x]) (m := 1) hP ti93 ti93 (fun k => by simp) ti20 rfl (by decide) hO1 h1D (by simp [appended, View.cells?, go_sem]) (by simp [isStr]) (fun v hv => by rw [List.mem_singleton] at hv; rw [hv]; exact hx.one) (by have := S_ge list j hjl; omega) ?_
      clear hP
      rintro u' D2 h12 hO2 he2 hP
      refine hR _ _ _ ?_; clear hR R
      (refine seqX_hide2 fun R hR => ?_; simp [go_sem, hw, e1, e1', e2, e2', e2'', hcz, hco, d30, d03, d573, d357, d570, d057, g1, g2, g8, g59, g60, g61, hj, hw1, hwd, hcj.size, hcj.ones, d103, d310, d100, d010, hxm, d7710, d1077, d773, d377, d770, d077]; refine hR _ _ _ ?_; clear hR R)
      rw [seqX_nil]
      refine hK _ _ _ ?_; clear hK K
      refine hN18 _ _ _ ?_
      refine xc_reg1 2 rfl fun K hK => ?_
      simp only [show (List.range 2).map (·, true) = [(0, true), (1, true)] from rfl, rslv_cons, rslv_nil, List.getElem?_toArray, List.getElem?_cons_zero, List.getElem?_cons_succ, gres]
      iterate 2 (refine seqX_hide2 fun R hR => ?_; simp [go_sem, hw, e1, e1', e2, e2', e2'', hcz, hco, d30, d03, d573, d357, d570, d057, g1, g2, g8, g59, g60, g61, hj, hw1, hwd, hcj.size, hcj.ones, d103, d310, d100, d010, hxm, d7710, d1077, d773, d377, d770, d077]; refine hR _ _ _ ?_; clear hR R)
      rw [seqX_nil]
      refine hK _ _ _ ?_; clear hK K
      refine sink_goal 0 hP rfl fun hPn lq77 nq77 => ?_
      clear hP; have hP := hPn; clear hPn
      simp only [List.eraseIdx_cons_zero, List.eraseIdx_cons_succ, addrs_cons, addrs_nil] at hP ⊢
      refine sink_goal 0 hP rfl fun hPn lq10 nq10 => ?_
      clear hP; have hP := hPn; clear hPn
      simp only [List.eraseIdx_cons_zero, List.eraseIdx_cons_succ, addrs_cons, addrs_nil] at hP ⊢
      have hle2 := View.le_trans lq77 lq10
      rw [show (n : Int) + 1 + (S list j : Int) + (nodes list[j] : Int) = ((n + 1 + S list (j + 1) : Nat) : Int) by omega]
      refine hJ1 (list.length - (j + 1)) _ _ _ (by omega) ⟨j + 1, D1, _, u', vals ++ [x], rfl, rfl, rfl, hP, by simp [go_sem, hw, e1, e1', e2, e2', e2'', hcz, hco, d30, d03, d573, d357, d570, d057, g1, g2, g8, g59, g60, g61, hj, hw1, hwd, hcj.size, hcj.ones, d103, d310, d100, d010, hxm, d7710, d1077, d773, d377, d770, d077], by simp [go_sem, hw, e1, e1', e2, e2', e2'', hcz, hco, d30, d03, d573, d357, d570, d057, g1, g2, g8, g59, g60, g61, hj, hw1, hwd, hcj.size, hcj.ones, d103, d310, d100, d010, hxm, d7710, d1077, d773, d377, d770, d077], by simp [go_sem, hw, e1, e1', e2, e2', e2'', hcz, hco, d30, d03, d573, d357, d570, d057, g1, g2, g8, g59, g60, g61, hj, hw1, hwd, hcj.size, hcj.ones, d103, d310, d100, d010, hxm, d7710, d1077, d773, d377, d770, d077], by simp [go_sem, hw, e1, e1', e2, e2', e2'', hcz, hco, d30, d03, d573, d357, d570, d057, g1, g2, g8, g59, g60, g61, hj, hw1, hwd, hcj.size, hcj.ones, d103, d310, d100, d010, hxm, d7710, d1077, d773, d377, d770, d077], by simp [go_sem, hw, e1, e1', e2, e2', e2'', hcz, hco, d30, d03, d573, d357, d570, d057, g1, g2, g8, g59, g60, g61, hj, hw1, hwd, hcj.size, hcj.ones, d103, d310, d100, d010, hxm, d7710, d1077, d773, d377, d770, d077], by simp [go_sem, hw, e1, e1', e2, e2', e2'', hcz, hco, d30, d03, d573, d357, d570, d057, g1, g2, g8, g59, g60, g61, hj, hw1, hwd, hcj.size, hcj.ones, d103, d310, d100, d010, hxm, d7710, d1077, d773, d377, d770, d077], hj, View.le_trans hA0 h01, View.le_trans h12 hle2, hO2.le hle2, by simp [hvl], fun i h hi => ?_⟩
      rcases Nat.lt_or_eq_of_le (Nat.le_of_lt_succ hi) with hi | hi
      · obtain ⟨y, G, J', g1, g2, g3, g4⟩ := hvs i h hi
        exact ⟨y, G, J', by rw [List.getElem?_append_left (by omega)]; exact g1, g2.le h01, g3, g4⟩
      · subst hi
        exact ⟨x, F, J, by rw [List.getElem?_append_right (by omega), hvl]; simp, hx, fun b hb => none_le hA0 (hF b hb), fun b hb => none_le hA0 (hJ b hb)⟩
    · have hj' : j = list.length := by omega
      subst hj'
      refine xc_two fun N16 hN16 => ?_
      refine xc_reg1 1 rfl fun K hK => ?_
      simp only [show (List.range 1).map (·, true) = [(0, true)] from rfl, rslv_cons, rslv_nil, List.getElem?_toArray, List.getElem?_cons_zero, List.getElem?_cons_succ, gres]
      (refine seqX_hide2 fun R hR => ?_; simp [go_sem, hw, e1, e1', e2, e2', e2'', hcz, hco, d30, d03, d573, d357, d570, d057, g1, g2, g8, g59, g60, g61, hj]; refine hR _ _ _ ?_; clear hR R)
      rw [seqX_nil]
      refine hK _ _ _ ?_; clear hK K
      refine hN16 _ _ _ ?_
      refine xc_two fun N17 hN17 => ?_
      refine xc_iffalse (by simp [go_sem, hw, e1, e1', e2, e2', e2'', hcz, hco, d30, d03, d573, d357, d570, d057, g1, g2, g8, g59, g60, g61]) ?_
      refine hX1 _ _ _ _ ?_
      refine hN14 _ _ _ ?_
      refine xc_two fun N18 hN18 => ?_
      refine xc_reg1 4 rfl fun K hK => ?_
      simp only [show (List.range 4).map (·, true) = [(0, true), (1, true), (2, true), (3, true)] from rfl, rslv_cons, rslv_nil, List.getElem?_toArray, List.getElem?_cons_zero, List.getElem?_cons_succ, gres]
      iterate 4 (refine seqX_hide2 fun R hR => ?_; simp [go_sem, hw, e1, e1', e2, e2', e2'', hcz, hco, d30, d03, d573, d357, d570, d057, g1, g2, g8, g59, g60, g61]; refine hR _ _ _ ?_; clear hR R)
      rw [seqX_nil]
      refine hK _ _ _ ?_; clear hK K
      refine hN18 _ _ _ ?_
      simp [go_sem, hw, e1, e1', e2, e2', e2'', hcz, hco, d30, d03, d573, d357, d570, d057, g1, g2, g8, g59, g60, g61]
      refine sink_goal 0 hP rfl fun hPn lq3 nq3 => ?_
      clear hP; have hP := hPn; clear hPn
      simp only [List.eraseIdx_cons_zero, List.eraseIdx_cons_succ, addrs_cons, addrs_nil] at hP ⊢
      rw [show (n : Int) + 1 + (S list list.length : Int) = ((n + nodes (.mk 6 b i f t keys list) : Nat) : Int) by rw [nodes_mk, S_all]; omega]
      have hDN : ∀ a x, A a = none → D a = some x → (D.minus A) a = some x := fun a x h1 h2 => by simp only [View.minus, h1]; exact h2
      have hAD := View.le_trans hA0 h0D
      refine ⟨_, D.set q3 _, fun _ => False, fun a => A a = none ∧ (D.set q3 (.cells (rvc 6 b i f t (.slice bk keys.length ck) (.slice bl list.length cl)) 27)) a ≠ none, rfl, View.le_trans hAD lq3, hP.1, rfl, ?_, fun a h => h.elim, fun a h => h⟩
      rw [OV]
      refine .inl ⟨by simp [kindOf], D.minus A, fun a x h => lq3 _ _ ?_, fun a x h => ⟨?_, ?_⟩, ?_⟩
      · unfold View.minus at h
        split at h
        · cases h
        · exact h
      · unfold View.minus at h
        split at h
        · cases h
        · assumption
      · unfold View.minus at h
        split at h
        · cases h
        · rw [lq3 _ _ h]; simp
      · rw [AnyV]
        have hON : Own D0 (D.minus A) 20 1 u list.length vals := own_move hO fun a x g1 _ g3 => ⟨g1, hDN a x (none_le hA0 g1) g3⟩
        refine .inr (.inr (.inr (.inr (.inr (.inl ⟨rfl, u, vals, rfl, hON.row, hvl, fun j hj => ?_⟩)))))
        obtain ⟨y, F, J, g1, g2, g3, g4⟩ := hvs j hj hj
        exact ⟨y, g1, OV.any _ _ F (lv - 1) (g2.congr _ _ _ (fun a x h1 h2 => hDN a x (g4 a h1) (h0D _ _ h2)) fun a x h1 h2 => hDN a x (g3 a h1) (h0D _ _ h2)) (hGs j hj)⟩
  · skip
    refine xc_reg1 2 rfl fun K hK => ?_
    simp only [show (List.range 2).map (·, true) = [(0, true), (1, true)] from rfl, rslv_cons, rslv_nil, List.getElem?_toArray, List.getElem?_cons_zero, List.getElem?_cons_succ, gres]
    iterate 2 (refine seqX_hide2 fun R hR => ?_; simp [go_sem, hw, e1, e1', e2, e2', e2'', hcz, hco, d30, d03]; refine hR _ _ _ ?_; clear hR R)
    rw [seqX_nil]
    refine hK _ _ _ ?_; clear hK K
    refine hN7 _ _ _ ?_
    refine xc_iffalse (by simp [go_sem, hw, e1, e1', e2, e2', e2'', hcz, hco, d30, d03]) ?_
    refine xc_two fun N8 hN8 => ?_
    refine xc_reg1 2 rfl fun K hK => ?_
    simp only [show (List.range 2).map (·, true) = [(0, true), (1, true)] from rfl, rslv_cons, rslv_nil, List.getElem?_toArray, List.getElem?_cons_zero, List.getElem?_cons_succ, gres]
    iterate 2 (refine seqX_hide2 fun R hR => ?_; simp [go_sem, hw, e1, e1', e2, e2', e2'', hcz, hco, d30, d03]; refine hR _ _ _ ?_; clear hR R)
    rw [seqX_nil]
    refine hK _ _ _ ?_; clear hK K
    refine hN8 _ _ _ ?_
    refine xc_iffalse (by simp [go_sem, hw, e1, e1', e2, e2', e2'', hcz, hco, d30, d03]) ?_
    refine xc_two fun N9 hN9 => ?_
    refine xc_reg1 2 rfl fun K hK => ?_
    simp only [show (List.range 2).map (·, true) = [(0, true), (1, true)] from rfl, rslv_cons, rslv_nil, List.getElem?_toArray, List.getElem?_cons_zero, List.getElem?_cons_succ, gres]
    iterate 2 (refine seqX_hide2 fun R hR => ?_; simp [go_sem, hw, e1, e1', e2, e2', e2'', hcz, hco, d30, d03]; refine hR _ _ _ ?_; clear hR R)
    rw [seqX_nil]
    refine hK _ _ _ ?_; clear hK K
    refine hN9 _ _ _ ?_
    refine xc_iffalse (by simp [go_sem, hw, e1, e1', e2, e2', e2'', hcz, hco, d30, d03]) ?_
    refine xc_two fun N10 hN10 => ?_
    refine xc_reg1 2 rfl fun K hK => ?_
    simp only [show (List.range 2).map (·, true) = [(0, true), (1, true)] from rfl, rslv_cons, rslv_nil, List.getElem?_toArray, List.getElem?_cons_zero, List.getElem?_cons_succ, gres]
    iterate 2 (refine seqX_hide2 fun R hR => ?_; simp [go_sem, hw, e1, e1', e2, e2', e2'', hcz, hco, d30, d03]; refine hR _ _ _ ?_; clear hR R)
    rw [seqX_nil]
    refine hK _ _ _ ?_; clear hK K
    refine hN10 _ _ _ ?_
    refine xc_iffalse (by simp [go_sem, hw, e1, e1', e2, e2', e2'', hcz, hco, d30, d03]) ?_
    refine xc_two fun N11 hN11 => ?_
    refine xc_reg1 2 rfl fun K hK => ?_
    simp only [show (List.range 2).map (·, true) = [(0, true), (1, true)] from rfl, rslv_cons, rslv_nil, List.getElem?_toArray, List.getElem?_cons_zero, List.getElem?_cons_succ, gres]
    iterate 2 (refine seqX_hide2 fun R hR => ?_; simp [go_sem, hw, e1, e1', e2, e2', e2'', hcz, hco, d30, d03]; refine hR _ _ _ ?_; clear hR R)
    rw [seqX_nil]
    refine hK _ _ _ ?_; clear hK K
    refine hN11 _ _ _ ?_
    refine xc_iffalse (by simp [go_sem, hw, e1, e1', e2, e2', e2'', hcz, hco, d30, d03]) ?_
    refine xc_two fun N12 hN12 => ?_
    refine xc_reg1 2 rfl fun K hK => ?_
    simp only [show (List.range 2).map (·, true) = [(0, true), (1, true)] from rfl, rslv_cons, rslv_nil, List.getElem?_toArray, List.getElem?_cons_zero, List.getElem?_cons_succ, gres]
    iterate 2 (refine seqX_hide2 fun R hR => ?_; simp [go_sem, hw, e1, e1', e2, e2', e2'', hcz, hco, d30, d03]; refine hR _ _ _ ?_; clear hR R)
    rw [seqX_nil]
    refine hK _ _ _ ?_; clear hK K
    refine hN12 _ _ _ ?_
    refine xc_iffalse (by simp [go_sem, hw, e1, e1', e2, e2', e2'', hcz, hco, d30, d03]) ?_
    refine xc_two fun N13 hN13 => ?_
    refine xc_reg1 2 rfl fun K hK => ?_
    simp only [show (List.range 2).map (·, true) = [(0, true), (1, true)] from rfl, rslv_cons, rslv_nil, List.getElem?_toArray, List.getElem?_cons_zero, List.getElem?_cons_succ, gres]
    iterate 2 (refine seqX_hide2 fun R hR => ?_; simp [go_sem, hw, e1, e1', e2, e2', e2'', hcz, hco, d30, d03]; refine hR _ _ _ ?_; clear hR R)
    rw [seqX_nil]
    refine hK _ _ _ ?_; clear hK K
    refine hN13 _ _ _ ?_
    refine xc_iftrue (by simp [go_sem, hw, e1, e1', e2, e2', e2'', hcz, hco, d30, d03]) ?_
    refine xc_two fun N14 hN14 => ?_
    refine xc_two fun N15 hN15 => ?_
    refine xc_reg1 7 rfl fun K hK => ?_
    simp only [show (List.range 7).map (·, true) = [(0, true), (1, true), (2, true), (3, true), (4, true), (5, true), (6, true)] from rfl, rslv_cons, rslv_nil, List.getElem?_toArray, List.getElem?_cons_zero, List.getElem?_cons_succ, gres]
    iterate 7 (refine seqX_hide2 fun R hR => ?_; simp [go_sem, hw, e1, e1', e2, e2', e2'', hcz, hco, d30, d03]; refine hR _ _ _ ?_; clear hR R)
    rw [seqX_nil]
    refine hK _ _ _ ?_; clear hK K
    refine hN15 _ _ _ ?_
    refine xc_iffalse (by simp [go_sem, hw, e1, e1', e2, e2', e2'', hcz, hco, d30, d03, hlen]) ?_
    refine hN14 _ _ _ ?_
    refine xc_two fun N16 hN16 => ?_
    refine xc_reg1 2 rfl fun K hK => ?_
    simp only [show (List.range 2).map (·, true) = [(0, true), (1, true)] from rfl, rslv_cons, rslv_nil, List.getElem?_toArray, List.getElem?_cons_zero, List.getElem?_cons_succ, gres]
    refine seqX_hide2 fun R hR => ?_
    simp [go_sem, hw, e1, e1', e2, e2', e2'', hcz, hco, d30, d03, hlen]
    intro q91 hq91
    replace hP := hP.cons hq91
    clear hq91
    have d913 : q91 ≠ q3 := (hP.ne q3 (by simp [addrs])).1
    have d391 : q3 ≠ q91 := (hP.ne q3 (by simp [addrs])).2
    have d910 : q91 ≠ m0 := (hP.ne m0 (by simp [addrs])).1
    have d091 : m0 ≠ q91 := (hP.ne m0 (by simp [addrs])).2
    refine hR _ _ _ ?_; clear hR R
    (refine seqX_hide2 fun R hR => ?_; simp [go_sem, hw, e1, e1', e2, e2', e2'', hcz, hco, d30, d03, hlen, d913, d391, d910, d091]; refine hR _ _ _ ?_; clear hR R)
    rw [seqX_nil]
    refine hK _ _ _ ?_; clear hK K
    refine hN16 _ _ _ ?_
    refine xc_two fun N17 hN17 => ?_
    refine xc_two fun N18 hN18 => ?_
    refine xc_reg1 4 rfl fun K hK => ?_
    simp only [show (List.range 4).map (·, true) = [(0, true), (1, true), (2, true), (3, true)] from rfl, rslv_cons, rslv_nil, List.getElem?_toArray, List.getElem?_cons_zero, List.getElem?_cons_succ, gres]
    iterate 4 (refine seqX_hide2 fun R hR => ?_; simp [go_sem, hw, e1, e1', e2, e2', e2'', hcz, hco, d30, d03, hlen, d913, d391, d910, d091]; refine hR _ _ _ ?_; clear hR R)
    rw [seqX_nil]
    refine hK _ _ _ ?_; clear hK K
    refine hN18 _ _ _ ?_
    rw [xc_block]
    have hmf : MF (.map #[] 0) fun _ => none := MF.new
    rw [xc_loop]
    refine vloopK (fun k' e ds A' => ∃ (j : Nat) (D : View) (om : Obj) (F : FP) (J : FP), k' = list.length - j ∧ ds = [] ∧ A' = ov D [(q91, om), (q3, .cells (rvc 7 b i f t (.slice bk list.length ck) (.slice bl list.length cl)) 27 (0, 0)), (m0, .cells #[.int .i64 ((n + 1 + S list j : Nat) : Int)] 3 (0, 0))] ∧ Priv D [q91, q3, m0] ∧ e 1 = .int .i64 d ∧ e 2 = .pointer (some ⟨m0, 0, none⟩) ∧ e 3 = .pointer (some ⟨q3, 0, none⟩) ∧ e 13 = .map (some q91) ∧ e 93 = .slice bk list.length ck ∧ e 94 = .int .i64 list.length ∧ e 95 = .int .i64 j ∧ (j ≤ list.length) ∧ (A ≤ D) ∧ (TF J (D.set q91 om) q91 (gof keys list j) F) ∧ (∀ b, F b → b = q91 ∨ (A b = none ∧ D b ≠ none)) ∧ (∀ b, J b → A b = none ∧ D b ≠ none) ∧ (∀ b, F b → ¬ J b)) _ ⟨0, A, _, fun b => b = q91, fun _ => False, rfl, rfl, rfl, hP, by simp [go_sem, hw, e1, e1', e2, e2', e2'', hcz, hco, d30, d03, hlen, d913, d391, d910, d091], by simp [go_sem, hw, e1, e1', e2, e2', e2'', hcz, hco, d30, d03, hlen, d913, d391, d910, d091], by simp [go_sem, hw, e1, e1', e2, e2', e2'', hcz, hco, d30, d03, hlen, d913, d391, d910, d091], by simp [go_sem, hw, e1, e1', e2, e2', e2'', hcz, hco, d30, d03, hlen, d913, d391, d910, d091], by simp [go_sem, hw, e1, e1', e2, e2', e2'', hcz, hco, d30, d03, hlen, d913, d391, d910, d091], by simp [go_sem, hw, e1, e1', e2, e2', e2'', hcz, hco, d30, d03, hlen, d913, d391, d910, d091], by simp [go_sem, hw, e1, e1', e2, e2', e2'', hcz, hco, d30, d03, hlen, d913, d391, d910, d091], by omega, View.le_refl _, TF.ext (TF.new (set_at _ _ _) hmf) fun k => (gof_none k).symm, fun b h => .inl h, fun b h => h.elim, fun b _ h => h.elim⟩ ?_
    clear hP
    rintro k' e ds _ ⟨j, D, om, F, J, rfl, rfl, rfl, hP, g1, g2, g3, g13, g93, g94, g95, hjl, hA0, hT, hF, hJ, hFJ⟩ J1 X1 hJ1 hX1
    refine xc_sound _ ?_
    have hSn := S_mono list j list.length hjl
    rw [S_all] at hSn
    have hw1 := wrap_nat (i := j) (by have := S_ge list j hjl; omega)
    have hwd : IntKind.i64.wrap ((d : Int) + 1) = ((d + 1 : Nat) : Int) := wrap_nat (by omega)
    by_cases hj : j < list.length
    · have hjk : j < keys.length := by omega
      obtain ⟨a, cap, f1, u1⟩ := hks.at' hjk
      simp only [Value.slice.injEq] at f1
      obtain ⟨rfl, -, rfl⟩ := f1
      obtain ⟨a2, cap2, cj, f2, u2, hcj⟩ := hel j hj
      simp only [Value.slice.injEq] at f2
      obtain ⟨rfl, -, rfl⟩ := f2
      have x1 := le_cell hA0 u1
      have x2 := le_cells hA0 _ _ _ u2
      have hSs := S_succ list j hj
      have hSl := S_mono list (j + 1) list.length hj
      rw [S_all] at hSl
      refine xc_two fun N19 hN19 => ?_
      refine xc_reg1 1 rfl fun K hK => ?_
      simp only [show (List.range 1).map (·, true) = [(0, true)] from rfl, rslv_cons, rslv_nil, List.getElem?_toArray, List.getElem?_cons_zero, List.getElem?_cons_succ, gres]
      (refine seqX_hide2 fun R hR => ?_; simp [go_sem, hw, e1, e1', e2, e2', e2'', hcz, hco, d30, d03, hlen, d913, d391, d910, d091, g1, g2, g3, g13, g93, g94, g95, hj, hjk, hw1, hwd, bc hP x1, bcs hP x2, hcj.size, hcj.ones]; refine hR _ _ _ ?_; clear hR R)
      rw [seqX_nil]
      refine hK _ _ _ ?_; clear hK K
      refine hN19 _ _ _ ?_
      refine xc_two fun N20 hN20 => ?_
      refine xc_iftrue (by simp [go_sem, hw, e1, e1', e2, e2', e2'', hcz, hco, d30, d03, hlen, d913, d391, d910, d091, g1, g2, g3, g13, g93, g94, g95, hj, hjk, hw1, hwd, bc hP x1, bcs hP x2, hcj.size, hcj.ones]) ?_
      refine hN20 _ _ _ ?_
      refine xc_two fun N21 hN21 => ?_
      rw [xc_block]
      refine xc_two fun N22 hN22 => ?_
      refine xc_reg1 5 rfl fun K hK => ?_
      simp only [show (List.range 5).map (·, true) = [(0, true), (1, true), (2, true), (3, true), (4, true)] from rfl, rslv_cons, rslv_nil, List.getElem?_toArray, List.getElem?_cons_zero, List.getElem?_cons_succ, gres]
      iterate 5 (refine seqX_hide2 fun R hR => ?_; simp [go_sem, hw, e1, e1', e2, e2', e2'', hcz, hco, d30, d03, hlen, d913, d391, d910, d091, g1, g2, g3, g13, g93, g94, g95, hj, hjk, hw1, hwd, bc hP x1, bcs hP x2, hcj.size, hcj.ones]; refine hR _ _ _ ?_; clear hR R)
      rw [seqX_nil]
      refine hK _ _ _ ?_; clear hK K
      refine hN22 _ _ _ ?_
      refine xc_two fun N23 hN23 => ?_
      refine xc_reg1 14 rfl fun K hK => ?_
      simp only [show (List.range 14).map (·, true) = [(0, true), (1, true), (2, true), (3, true), (4, true), (5, true), (6, true), (7, true), (8, true), (9, true), (10, true), (11, true), (12, true), (13, true)] from rfl, rslv_cons, rslv_nil, List.getElem?_toArray, List.getElem?_cons_zero, List.getElem?_cons_succ, gres]
      iterate 8 (refine seqX_hide2 fun R hR => ?_; simp [go_sem, hw, e1, e1', e2, e2', e2'', hcz, hco, d30, d03, hlen, d913, d391, d910, d091, g1, g2, g3, g13, g93, g94, g95, hj, hjk, hw1, hwd, bc hP x1, bcs hP x2, hcj.size, hcj.ones]; refine hR _ _ _ ?_; clear hR R)
      refine seqX_hide2 fun R hR => ?_
      simp [go_sem, hw, e1, e1', e2, e2', e2'', hcz, hco, d30, d03, hlen, d913, d391, d910, d091, g1, g2, g3, g13, g93, g94, g95, hj, hjk, hw1, hwd, bc hP x1, bcs hP x2, hcj.size, hcj.ones]
      refine call_ctr (R' := fun v D1 o' => ∃ x G J', v = .tuple #[x, .bool true] ∧ o' = .cells #[.int .i64 ((n + 1 + S list j + nodes list[j] : Nat) : Int)] 3 (0, 0) ∧ OV J' D1 list[j] x G ∧ (∀ b, G b → D b = none ∧ D1 b ≠ none ∧ ¬ J' b) ∧ ∀ b, J' b → D b = none ∧ D1 b ≠ none) 2 hP rfl (View.le_refl _) (ih j hj D cj (lv - 1) (d + 1) m0 (n + 1 + S list j) (hcj.le hA0) (hP.no (by simp [addrs])) (hGs j hj) (by omega) (by omega)) ?_ ?_
      · rintro v E ⟨x, D1, G, J', rfl, h1, h2, rfl, h3, h4, h5⟩
        exact ⟨D1, _, rfl, h2, h1, x, G, J', rfl, rfl, h3, h4, h5⟩
      clear hP
      rintro _ D1 _ D' ⟨x, G, J', rfl, rfl, hx, hG', hJ'⟩ h01 h1D hKeep hDD hP
      simp only [List.set_cons_zero, List.set_cons_succ, addrs_cons, addrs_nil] at hP ⊢
      have hxm := hx.cells
      simp only [Value.cells] at hxm
      have hT1 : TF (fun b => J b ∨ J' b) (D'.set q91 om) q91 (gof keys list j) F := (hT.le (set_le hDD q91 om)).imm fun b h => .inl h
      have hJq : ¬ (J q91 ∨ J' q91) := by
        rintro (h | h)
        · exact (hJ _ h).2 (none_le hDD hP.1)
        · exact (hJ' _ h).2 (none_le h1D hP.1)
      obtain ⟨o1, fv, g1', g2', g3', g4', g5'⟩ := hT1.get
      rw [set_at, Option.some.injEq] at g1'
      subst g1'
      have x1 := le_cell h1D (le_cell h01 x1)
      have hxo := hx.one
      have rest : ∀ o', MF o' (fv.put keys[j] x) → TF (fun b => J b ∨ J' b) (D'.set q91 o') q91 (gof keys list (j + 1)) (fun b => F b ∨ G b) := by
        intro o' ho'
        have hd : ∀ b, F b → ¬ G b := by
          intro b hb hg
          rcases hF b hb with h | h
          · subst h
            exact (hG' _ hg).2.1 (none_le h1D hP.1)
          · exact h.2 (hG' _ hg).1
        have hxG : OV (fun b => J b ∨ J' b) (D'.set q91 om) list[j] x G := (hx.congr _ _ _ (fun b o hb ho => by
          rw [set_other (fun hq => (hJ' b hb).2 (none_le h1D (by rw [hq]; exact hP.1)))]
          exact h1D _ _ ho) fun b o hb ho => by
          rw [set_other (fun hq => (hG' b hb).2.1 (none_le h1D (by rw [hq]; exact hP.1)))]
          exact h1D _ _ ho).imm _ _ _ fun b h => .inr h
        have := hT1.put hJq (set_at _ _ _) g2' hxG hd ho'
        rw [set_set] at this
        exact this.ext fun k => gof_succ hris hlen hjk k
      have hF2 : ∀ b, (F b ∨ G b) → b = q91 ∨ (A b = none ∧ D' b ≠ none) := by
        rintro b (hb | hb)
        · rcases hF b hb with h | h
          · exact .inl h
          · refine .inr ⟨h.1, fun hx => ?_⟩
            exact h.2 (none_le hDD hx)
        · have h2 := hG' b hb
          refine .inr ⟨none_le hA0 h2.1, fun hx => h2.2.1 (none_le h1D hx)⟩
      have hJ2 : ∀ b, (J b ∨ J' b) → A b = none ∧ D' b ≠ none := by
        rintro b (hb | hb)
        · exact ⟨(hJ b hb).1, fun hx => (hJ b hb).2 (none_le hDD hx)⟩
        · exact ⟨none_le hA0 (hJ' b hb).1, fun hx => (hJ' b hb).2 (none_le h1D hx)⟩
      have hFJ2 : ∀ b, (F b ∨ G b) → ¬ (J b ∨ J' b) := by
        rintro b (hb | hb) (hj | hj)
        · exact hFJ b hb hj
        · rcases hF b hb with h | h
          · subst h; exact hJq (.inr hj)
          · exact h.2 (hJ' b hj).1
        · exact (hJ b hj).2 (hG' b hb).1
        · exact (hG' b hb).2.2 hj
      rcases Nat.eq_zero_or_pos j with hj0 | hj0
      · have hj1 : ¬ 0 < j := by omega
        refine hR _ _ _ ?_; clear hR R
        iterate 5 (refine seqX_hide2 fun R hR => ?_; simp [go_sem, hw, e1, e1', e2, e2', e2'', hcz, hco, d30, d03, hlen, d913, d391, d910, d091, g1, g2, g3, g13, g93, g94, g95, hj, hjk, hw1, hwd, bc hP x1, hcj.size, hcj.ones, hxm, hj1]; refine hR _ _ _ ?_; clear hR R)
        rw [seqX_nil]
        refine hK _ _ _ ?_; clear hK K
        refine hN23 _ _ _ ?_
        refine xc_two fun N24 hN24 => ?_
        refine xc_two fun N25 hN25 => ?_
        refine xc_reg1 16 rfl fun K hK => ?_
        simp only [show (List.range 16).map (·, true) = [(0, true), (1, true), (2, true), (3, true), (4, true), (5, true), (6, true), (7, true), (8, true), (9, true), (10, true), (11, true), (12, true), (13, true), (14, true), (15, true)] from rfl, rslv_cons, rslv_nil, List.getElem?_toArray, List.getElem?_cons_zero, List.getElem?_cons_succ, gres]
        iterate 16 (refine seqX_hide2 fun R hR => ?_; simp [go_sem, hw, e1, e1', e2, e2', e2'', hcz, hco, d30, d03, hlen, d913, d391, d910, d091, g1, g2, g3, g13, g93, g94, g95, hj, hjk, hw1, hwd, bc hP x1, hcj.size, hcj.ones, hxm, hj1]; refine hR _ _ _ ?_; clear hR R)
        rw [seqX_nil]
        refine hK _ _ _ ?_; clear hK K
        refine hN25 _ _ _ ?_
        refine xc_iffalse (by simp [go_sem, hw, e1, e1', e2, e2', e2'', hcz, hco, d30, d03, hlen, d913, d391, d910, d091, g1, g2, g3, g13, g93, g94, g95, hj, hjk, hw1, hwd, bc hP x1, hcj.size, hcj.ones, hxm, hj1]) ?_
        refine hN24 _ _ _ ?_
        refine xc_reg1 4 rfl fun K hK => ?_
        simp only [show (List.range 4).map (·, true) = [(0, true), (1, true), (2, true), (3, true)] from rfl, rslv_cons, rslv_nil, List.getElem?_toArray, List.getElem?_cons_zero, List.getElem?_cons_succ, gres]
        iterate 3 (refine seqX_hide2 fun R hR => ?_; simp [go_sem, hw, e1, e1', e2, e2', e2'', hcz, hco, d30, d03, hlen, d913, d391, d910, d091, g1, g2, g3, g13, g93, g94, g95, hj, hjk, hw1, hwd, bc hP x1, hcj.size, hcj.ones, hxm, hj1]; refine hR _ _ _ ?_; clear hR R)
        refine seqX_hide2 fun R hR => ?_
        simp [go_sem, hw, e1, e1', e2, e2', e2'', hcz, hco, d30, d03, hlen, d913, d391, d910, d091, g1, g2, g3, g13, g93, g94, g95, hj, hjk, hw1, hwd, bc hP x1, hcj.size, hcj.ones, hxm, hj1]
        refine mapset_goal 0 hP rfl g2' (by simp [strMap, ti63, ti9]) ?_
        clear hP
        rintro om' hom' hP
        simp only [List.set_cons_zero, List.set_cons_succ, addrs_cons, addrs_nil] at hP ⊢
        refine hR _ _ _ ?_; clear hR R
        rw [seqX_nil]
        refine hK _ _ _ ?_; clear hK K
        refine hN21 _ _ _ ?_
        refine xc_reg1 2 rfl fun K hK => ?_
        simp only [show (List.range 2).map (·, true) = [(0, true), (1, true)] from rfl, rslv_cons, rslv_nil, List.getElem?_toArray, List.getElem?_cons_zero, List.getElem?_cons_succ, gres]
        iterate 2 (refine seqX_hide2 fun R hR => ?_; simp [go_sem, hw, e1, e1', e2, e2', e2'', hcz, hco, d30, d03, hlen, d913, d391, d910, d091, g1, g2, g3, g13, g93, g94, g95, hj, hjk, hw1, hwd, bc hP x1, hcj.size, hcj.ones, hxm, hj1]; refine hR _ _ _ ?_; clear hR R)
        rw [seqX_nil]
        refine hK _ _ _ ?_; clear hK K
        rw [show (n : Int) + 1 + (S list j : Int) + (nodes list[j] : Int) = ((n + 1 + S list (j + 1) : Nat) : Int) by omega]
        refine hJ1 (list.length - (j + 1)) _ _ _ (by omega) ⟨j + 1, D', om', fun b => F b ∨ G b, fun b => J b ∨ J' b, rfl, rfl, rfl, hP, by simp [go_sem, hw, e1, e1', e2, e2', e2'', hcz, hco, d30, d03, hlen, d913, d391, d910, d091, g1, g2, g3, g13, g93, g94, g95, hj, hjk, hw1, hwd, bc hP x1, hcj.size, hcj.ones, hxm, hj1], by simp [go_sem, hw, e1, e1', e2, e2', e2'', hcz, hco, d30, d03, hlen, d913, d391, d910, d091, g1, g2, g3, g13, g93, g94, g95, hj, hjk, hw1, hwd, bc hP x1, hcj.size, hcj.ones, hxm, hj1], by simp [go_sem, hw, e1, e1', e2, e2', e2'', hcz, hco, d30, d03, hlen, d913, d391, d910, d091, g1, g2, g3, g13, g93, g94, g95, hj, hjk, hw1, hwd, bc hP x1, hcj.size, hcj.ones, hxm, hj1], by simp [go_sem, hw, e1, e1', e2, e2', e2'', hcz, hco, d30, d03, hlen, d913, d391, d910, d091, g1, g2, g3, g13, g93, g94, g95, hj, hjk, hw1, hwd, bc hP x1, hcj.size, hcj.ones, hxm, hj1], by simp [go_sem, hw, e1, e1', e2, e2', e2'', hcz, hco, d30, d03, hlen, d913, d391, d910, d091, g1, g2, g3, g13, g93, g94, g95, hj, hjk, hw1, hwd, bc hP x1, hcj.size, hcj.ones, hxm, hj1], by simp [go_sem, hw, e1, e1', e2, e2', e2'', hcz, hco, d30, d03, hlen, d913, d391, d910, d091, g1, g2, g3, g13, g93, g94, g95, hj, hjk, hw1, hwd, bc hP x1, hcj.size, hcj.ones, hxm, hj1], by simp [go_sem, hw, e1, e1', e2, e2', e2'', hcz, hco, d30, d03, hlen, d913, d391, d910, d091, g1, g2, g3, g13, g93, g94, g95, hj, hjk, hw1, hwd, bc hP x1, hcj.size, hcj.ones, hxm, hj1], hj, View.le_trans hA0 hDD, rest _ hom', hF2, hJ2, hFJ2⟩
      · have hjm : j - 1 < keys.length := by omega
        obtain ⟨ap, capp, f3, u3⟩ := hks.at' hjm
        simp only [Value.slice.injEq, Option.some.injEq] at f3
        obtain ⟨rfl, -, -⟩ := f3
        have x3 := le_cell h1D (le_cell h01 (le_cell hA0 u3))
        have hwm : IntKind.i64.wrap ((j : Int) - 1) = ((j - 1 : Nat) : Int) := by rw [wrap_in (by omega) (by omega)]; omega
        have hbl : Op.bytesLess keys[j - 1].toList keys[j].toList = true := by
          have := hris (j - 1) (by omega)
          have e : j - 1 + 1 = j := by omega
          simpa [e] using this
        have hjm2 : j - 1 < list.length := by omega
        refine hR _ _ _ ?_; clear hR R
        iterate 5 (refine seqX_hide2 fun R hR => ?_; simp [go_sem, hw, e1, e1', e2, e2', e2'', hcz, hco, d30, d03, hlen, d913, d391, d910, d091, g1, g2, g3, g13, g93, g94, g95, hj, hjk, hw1, hwd, bc hP x1, hcj.size, hcj.ones, hxm, hj0, hwm, hbl, hjm, hjm2, bc hP x3]; refine hR _ _ _ ?_; clear hR R)
        rw [seqX_nil]
        refine hK _ _ _ ?_; clear hK K
        refine hN23 _ _ _ ?_
        refine xc_two fun N24 hN24 => ?_
        refine xc_two fun N25 hN25 => ?_
        refine xc_reg1 16 rfl fun K hK => ?_
        simp only [show (List.range 16).map (·, true) = [(0, true), (1, true), (2, true), (3, true), (4, true), (5, true), (6, true), (7, true), (8, true), (9, true), (10, true), (11, true), (12, true), (13, true), (14, true), (15, true)] from rfl, rslv_cons, rslv_nil, List.getElem?_toArray, List.getElem?_cons_zero, List.getElem?_cons_succ, gres]
        iterate 16 (refine seqX_hide2 fun R hR => ?_; simp [go_sem, hw, e1, e1', e2, e2', e2'', hcz, hco, d30, d03, hlen, d913, d391, d910, d091, g1, g2, g3, g13, g93, g94, g95, hj, hjk, hw1, hwd, bc hP x1, hcj.size, hcj.ones, hxm, hj0, hwm, hbl, hjm, hjm2, bc hP x3]; refine hR _ _ _ ?_; clear hR R)
        rw [seqX_nil]
        refine hK _ _ _ ?_; clear hK K
        refine hN25 _ _ _ ?_
        refine xc_iffalse (by simp [go_sem, hw, e1, e1', e2, e2', e2'', hcz, hco, d30, d03, hlen, d913, d391, d910, d091, g1, g2, g3, g13, g93, g94, g95, hj, hjk, hw1, hwd, bc hP x1, hcj.size, hcj.ones, hxm, hj0, hwm, hbl, hjm, hjm2, bc hP x3]) ?_
        refine hN24 _ _ _ ?_
        refine xc_reg1 4 rfl fun K hK => ?_
        simp only [show (List.range 4).map (·, true) = [(0, true), (1, true), (2, true), (3, true)] from rfl, rslv_cons, rslv_nil, List.getElem?_toArray, List.getElem?_cons_zero, List.getElem?_cons_succ, gres]
        iterate 3 (refine seqX_hide2 fun R hR => ?_; simp [go_sem, hw, e1, e1', e2, e2', e2'', hcz, hco, d30, d03, hlen, d913, d391, d910, d091, g1, g2, g3, g13, g93, g94, g95, hj, hjk, hw1, hwd, bc hP x1, hcj.size, hcj.ones, hxm, hj0, hwm, hbl, hjm, hjm2, bc hP x3]; refine hR _ _ _ ?_; clear hR R)
        refine seqX_hide2 fun R hR => ?_
        simp [go_sem, hw, e1, e1', e2, e2', e2'', hcz, hco, d30, d03, hlen, d913, d391, d910, d091, g1, g2, g3, g13, g93, g94, g95, hj, hjk, hw1, hwd, bc hP x1, hcj.size, hcj.ones, hxm, hj0, hwm, hbl, hjm, hjm2, bc hP x3]
        refine mapset_goal 0 hP rfl g2' (by simp [strMap, ti63, ti9]) ?_
        clear hP
        rintro om' hom' hP
        simp only [List.set_cons_zero, List.set_cons_succ, addrs_cons, addrs_nil] at hP ⊢
        refine hR _ _ _ ?_; clear hR R
        rw [seqX_nil]
        refine hK _ _ _ ?_; clear hK K
        refine hN21 _ _ _ ?_
        refine xc_reg1 2 rfl fun K hK => ?_
        simp only [show (List.range 2).map (·, true) = [(0, true), (1, true)] from rfl, rslv_cons, rslv_nil, List.getElem?_toArray, List.getElem?_cons_zero, List.getElem?_cons_succ, gres]
        iterate 2 (refine seqX_hide2 fun R hR => ?_; simp [go_sem, hw, e1, e1', e2, e2', e2'', hcz, hco, d30, d03, hlen, d913, d391, d910, d091, g1, g2, g3, g13, g93, g94, g95, hj, hjk, hw1, hwd, bc hP x1, hcj.size, hcj.ones, hxm, hj0, hwm, hbl, hjm, hjm2, bc hP x3]; refine hR _ _ _ ?_; clear hR R)
        rw [seqX_nil]
        refine hK _ _ _ ?_; clear hK K
        rw [show (n : Int) + 1 + (S list j : Int) + (nodes list[j] : Int) = ((n + 1 + S list (j + 1) : Nat) : Int) by omega]
        refine hJ1 (list.length - (j + 1)) _ _ _ (by omega) ⟨j + 1, D', om', fun b => F b ∨ G b, fun b => J b ∨ J' b, rfl, rfl, rfl, hP, by simp [go_sem, hw, e1, e1', e2, e2', e2'', hcz, hco, d30, d03, hlen, d913, d391, d910, d091, g1, g2, g3, g13, g93, g94, g95, hj, hjk, hw1, hwd, bc hP x1, hcj.size, hcj.ones, hxm, hj0, hwm, hbl, hjm, hjm2, bc hP x3], by simp [go_sem, hw, e1, e1', e2, e2', e2'', hcz, hco, d30, d03, hlen, d913, d391, d910, d091, g1, g2, g3, g13, g93, g94, g95, hj, hjk, hw1, hwd, bc hP x1, hcj.size, hcj.ones, hxm, hj0, hwm, hbl, hjm, hjm2, bc hP x3], by simp [go_sem, hw, e1, e1', e2, e2', e2'', hcz, hco, d30, d03, hlen, d913, d391, d910, d091, g1, g2, g3, g13, g93, g94, g95, hj, hjk, hw1, hwd, bc hP x1, hcj.size, hcj.ones, hxm, hj0, hwm, hbl, hjm, hjm2, bc hP x3], by simp [go_sem, hw, e1, e1', e2, e2', e2'', hcz, hco, d30, d03, hlen, d913, d391, d910, d091, g1, g2, g3, g13, g93, g94, g95, hj, hjk, hw1, hwd, bc hP x1, hcj.size, hcj.ones, hxm, hj0, hwm, hbl, hjm, hjm2, bc hP x3], by simp [go_sem, hw, e1, e1', e2, e2', e2'', hcz, hco, d30, d03, hlen, d913, d391, d910, d091, g1, g2, g3, g13, g93, g94, g95, hj, hjk, hw1, hwd, bc hP x1, hcj.size, hcj.ones, hxm, hj0, hwm, hbl, hjm, hjm2, bc hP x3], by simp [go_sem, hw, e1, e1', e2, e2', e2'', hcz, hco, d30, d03, hlen, d913, d391, d910, d091, g1, g2, g3, g13, g93, g94, g95, hj, hjk, hw1, hwd, bc hP x1, hcj.size, hcj.ones, hxm, hj0, hwm, hbl, hjm, hjm2, bc hP x3], by simp [go_sem, hw, e1, e1', e2, e2', e2'', hcz, hco, d30, d03, hlen, d913, d391, d910, d091, g1, g2, g3, g13, g93, g94, g95, hj, hjk, hw1, hwd, bc hP x1, hcj.size, hcj.ones, hxm, hj0, hwm, hbl, hjm, hjm2, bc hP x3], hj, View.le_trans hA0 hDD, rest _ hom', hF2, hJ2, hFJ2⟩
    · have hj' : j = list.length := by omega
      subst hj'
      refine xc_two fun N19 hN19 => ?_
      refine xc_reg1 1 rfl fun K hK => ?_
      simp only [show (List.range 1).map (·, true) = [(0, true)] from rfl, rslv_cons, rslv_nil, List.getElem?_toArray, List.getElem?_cons_zero, List.getElem?_cons_succ, gres]
      (refine seqX_hide2 fun R hR => ?_; simp [go_sem, hw, e1, e1', e2, e2', e2'', hcz, hco, d30, d03, hlen, d913, d391, d910, d091, g1, g2, g3, g13, g93, g94, g95, hj]; refine hR _ _ _ ?_; clear hR R)
      rw [seqX_nil]
      refine hK _ _ _ ?_; clear hK K
      refine hN19 _ _ _ ?_
      refine xc_two fun N20 hN20 => ?_
      refine xc_iffalse (by simp [go_sem, hw, e1, e1', e2, e2', e2'', hcz, hco, d30, d03, hlen, d913, d391, d910, d091, g1, g2, g3, g13, g93, g94, g95]) ?_
      refine hX1 _ _ _ _ ?_
      refine hN17 _ _ _ ?_
      refine xc_two fun N21 hN21 => ?_
      refine xc_reg1 4 rfl fun K hK => ?_
      simp only [show (List.range 4).map (·, true) = [(0, true), (1, true), (2, true), (3, true)] from rfl, rslv_cons, rslv_nil, List.getElem?_toArray, List.getElem?_cons_zero, List.getElem?_cons_succ, gres]
      iterate 4 (refine seqX_hide2 fun R hR => ?_; simp [go_sem, hw, e1, e1', e2, e2', e2'', hcz, hco, d30, d03, hlen, d913, d391, d910, d091, g1, g2, g3, g13, g93, g94, g95]; refine hR _ _ _ ?_; clear hR R)
      rw [seqX_nil]
      refine hK _ _ _ ?_; clear hK K
      refine hN21 _ _ _ ?_
      simp [go_sem, hw, e1, e1', e2, e2', e2'', hcz, hco, d30, d03, hlen, d913, d391, d910, d091, g1, g2, g3, g13, g93, g94, g95]
      rw [show (n : Int) + 1 + (S list list.length : Int) = ((n + nodes (.mk 7 b i f t keys list) : Nat) : Int) by rw [nodes_mk, S_all]; omega]
      refine sink_goal 0 hP rfl fun hPn lq91 nq91 => ?_
      clear hP; have hP := hPn; clear hPn
      simp only [List.eraseIdx_cons_zero, List.eraseIdx_cons_succ, addrs_cons, addrs_nil] at hP ⊢
      refine sink_goal 0 hP rfl fun hPn lq3 nq3 => ?_
      clear hP; have hP := hPn; clear hPn
      simp only [List.eraseIdx_cons_zero, List.eraseIdx_cons_succ, addrs_cons, addrs_nil] at hP ⊢
      refine ⟨_, _, F, J, rfl, View.le_trans hA0 (View.le_trans lq91 lq3), hP.1, rfl, TF.ov rfl ?_, fun x hx => ?_, fun x hx => ⟨(hJ x hx).1, fun hz => (hJ x hx).2 (none_le (View.le_trans lq91 lq3) hz)⟩⟩
      · exact (TF.ext hT fun k => by rw [← hlen, gof_all hlen]).le lq3
      · rcases hF x hx with h | h
        · subst h
          refine ⟨none_le hA0 nq91, fun hz => ?_, hFJ _ hx⟩
          have := none_le lq3 hz
          rw [set_at] at this
          cases this
        · refine ⟨h.1, fun hz => h.2 (none_le (View.le_trans lq91 lq3) hz), hFJ _ hx⟩
theorem any63o : ∀ v, A63o v
  | .mk k b i f t keys list => any63o_step k b i f t keys list fun j h => any63o list[j]
termination_by v => SizeOf.sizeOf v
decreasing_by
  have := List.sizeOf_lt_of_mem (List.getElem_mem h)
  simp
  omega
end Go.Proofs.YtogfpbnbojhpoaaV

/- Trees: the lists that ElementSetter leaves; ElementMatcher.Filter; MatchElement. -/
import Derived.Test.YtpinamipjddobaaSD
import Derived.Test.YtpinamipjddobaaKL
import Derived.Test.YtpinamipjddobaaRX
import Derived.Test.YtpinamipjddobaaRI
namespace Go.Proofs.YtpinamipjddobaaV
open Go.RowKit
set_option linter.unusedSimpArgs false
set_option linter.unusedVariables false
theorem setT_cons (f : Tr → Bool) (e : List Tr) (x : Tr) (l : List Tr) : setT f e (x :: l) = (if f x then e else [x]) ++ setT f e l := by rw [setT, List.flatMap_cons, ← setT]
theorem find_setT {f : Tr → Bool} {e : Tr} (he : f e = true) : ∀ l : List Tr, (setT f [e] l).find? f = if l.any f then some e else none
  | [] => rfl
  | x :: l => by
    have ih := find_setT he l
    rw [setT_cons, List.any_cons]
    cases hx : f x with
    | true =>
      rw [if_pos rfl, List.singleton_append, List.find?_cons_of_pos he, Bool.true_or, if_pos rfl]
    | false =>
      rw [if_neg (by decide), List.singleton_append, List.find?_cons_of_neg (by rw [hx]; decide), ih, Bool.false_or]
theorem find_resT {f : Tr → Bool} {e : Tr} (he : f e = true) (l : List Tr) : (resT f [e] l).find? f = some e := by
  rw [resT]
  split
  · rename_i h
    rw [find_setT he, if_pos h]
  · rename_i h
    rw [List.find?_append, find_setT he, if_neg h, List.find?_cons_of_pos he]
    rfl
theorem any_resT {f : Tr → Bool} {e : Tr} (he : f e = true) (l : List Tr) : (resT f [e] l).any f = true :=
  List.any_eq_true.2 ⟨e, List.mem_of_find?_eq_some (find_resT he l), he⟩
theorem setT_mem {f : Tr → Bool} {e l : List Tr} {x : Tr} (h : x ∈ setT f e l) : (x ∈ l ∧ f x = false) ∨ x ∈ e := by
  rw [setT, List.mem_flatMap] at h
  obtain ⟨y, hy, h⟩ := h
  split at h
  · exact .inr h
  · rename_i h2
    rw [List.mem_singleton] at h
    subst h
    exact .inl ⟨hy, Bool.eq_false_iff.2 h2⟩
theorem resT_fit {f : Tr → Bool} {e : Tr} {l : List Tr} (x : Tr) (h : x ∈ resT f [e] l) (hx : f x = true) : x = e := by
  have key : x ∈ setT f [e] l → x = e := fun h => by
    rcases setT_mem h with h | h
    · rw [hx] at h; exact absurd h.2 (by decide)
    · exact List.mem_singleton.1 h
  rw [resT] at h
  split at h
  · exact key h
  · rcases List.mem_append.1 h with h | h
    · exact key h
    · exact List.mem_singleton.1 h
theorem setT_same {f : Tr → Bool} {e : Tr} : ∀ l : List Tr, (∀ x ∈ l, f x = true → x = e) → setT f [e] l = l
  | [], _ => rfl
  | x :: l, h => by
    rw [setT_cons, setT_same l fun y hy => h y (List.mem_cons_of_mem _ hy)]
    split
    · rename_i hx
      rw [h x List.mem_cons_self hx]
      rfl
    · rfl
theorem resT_twice {f : Tr → Bool} {e : Tr} (he : f e = true) (l : List Tr) : resT f [e] (resT f [e] l) = resT f [e] l := by
  rw [resT, if_pos (any_resT he l), setT_same _ resT_fit]
theorem find_gone (f : Tr → Bool) (l : List Tr) : (setT f [] l).find? f = none := by
  rw [List.find?_eq_none]
  intro x hx
  rcases setT_mem hx with h | h
  · rw [h.2]; decide
  · cases h
theorem gone_le (f : Tr → Bool) : ∀ l : List Tr, (setT f [] l).length ≤ l.length
  | [] => Nat.le_refl _
  | x :: l => by
    have ih := gone_le f l
    rw [setT_cons]
    split
    · simp; omega
    · simp; omega
theorem gone_lt {f : Tr → Bool} : ∀ {l : List Tr}, l.any f = true → (setT f [] l).length < l.length
  | [], h => by cases h
  | x :: l, h => by
    rw [setT_cons]
    cases hx : f x with
    | true =>
      have := gone_le f l
      rw [if_pos rfl]
      simp
      omega
    | false =>
      rw [List.any_cons, hx, Bool.false_or] at h
      have := gone_lt h
      rw [if_neg (by decide)]
      simp
      omega
theorem nds_gone (f : Tr → Bool) : ∀ l : List Tr, ((setT f [] l).map nds).sum ≤ (l.map nds).sum
  | [] => Nat.le_refl _
  | x :: l => by
    have ih := nds_gone f l
    rw [setT_cons, List.map_append, List.sum_append, List.map_cons, List.sum_cons]
    split
    · simp; omega
    · simp; omega
theorem two_trs {A : View} {q : Nat} {s r : ByteArray} {e : TypeId} (h : A q = some (.cells #[.int .i64 8, .int .i64 0, .string tStr, .string s, .string e0, .string e0, .string e0, .string e0, .int .i64 0, .int .i64 0, .int .i64 (-1), .slice none 0 0, .int .i64 8, .int .i64 0, .string tStr, .string r, .string e0, .string e0, .string e0, .string e0, .int .i64 0, .int .i64 0, .int .i64 (-1), .slice none 0 0] e (0, 0))) : Trs A (.slice (some ⟨q, 0, none⟩) 2 2) [tn s, tn r] := by
  have hO : Own (fun _ => none) A e 12 (.slice (some ⟨q, 0, none⟩) 2 2) 2 ((trc 8 0 tStr s e0 e0 e0 e0 0 0 (-1) (.slice none 0 0)).toList ++ (trc 8 0 tStr r e0 e0 e0 e0 0 0 (-1) (.slice none 0 0)).toList) := by
    refine ⟨?_, .inr ⟨_, _, rfl, rfl⟩⟩
    rw [sliceIn, h]
    simp only []
    rw [if_pos ⟨trivial, trivial, Nat.le_refl _, by simp⟩, cells_block h (by simp)]
    rfl
  exact hO.elems ((Parts.nil 12 (IsTr A)).push2 (l := []) rfl rfl rfl (text_is A s) (text_is A r) rfl)
theorem fld_two : ∀ {l : List Tr} {s : ByteArray}, (fld l s).isSome = true → 2 ≤ l.length
  | [], _, h => by cases h
  | [_], _, h => by cases h
  | _ :: _ :: _, _, _ => by simp
theorem fit_three {x : Tr} {k v : ByteArray} (h : fitK [k] [v] x = true) : 3 ≤ nds x := by
  rw [fitK, Bool.and_eq_true, fitM, Bool.and_eq_true] at h
  have h2 : (fld x.kids k).isSome = true := by
    have := h.2.1
    rw [mfl] at this
    cases hf : fld x.kids k with
    | none => rw [hf] at this; cases this
    | some y => rfl
  have h3 := fld_two h2
  have h4 := len_sum x.kids
  obtain ⟨k, st, tag, val, an, hh, l, f, row, col, al, kids, rfl⟩ := x.ex
  rw [nds_mk]
  have h5 : 2 ≤ kids.length := h3
  have h6 : kids.length ≤ (kids.map nds).sum := h4
  omega
theorem nds_set5 {f : Tr → Bool} {e : Tr} (he : nds e = 5) (hf : ∀ x, f x = true → 3 ≤ nds x) : ∀ l : List Tr, 3 * ((setT f [e] l).map nds).sum ≤ 5 * (l.map nds).sum
  | [] => by simp [setT]
  | x :: l => by
    have ih := nds_set5 he hf l
    rw [setT_cons, List.map_append, List.sum_append, List.map_cons, List.sum_cons]
    split
    · rename_i hx
      have := hf x hx
      simp [he]
      omega
    · simp
      omega
theorem nds_res5 {f : Tr → Bool} {e : Tr} (he : nds e = 5) (hf : ∀ x, f x = true → 3 ≤ nds x) (l : List Tr) : 3 * ((resT f [e] l).map nds).sum ≤ 5 * (l.map nds).sum + 15 := by
  have := nds_set5 he hf l
  rw [resT]
  split
  · omega
  · rw [List.map_append, List.sum_append]
    simp [he]
    omega
theorem Tr.setK_kids (t : Tr) (l : List Tr) : (t.setK l).kids = l := by
  obtain ⟨k, st, tag, val, an, hh, ln, f, row, col, al, kids, rfl⟩ := t.ex
  rfl
theorem Tr.setK_kind (t : Tr) (l : List Tr) : (t.setK l).kind = t.kind := by
  obtain ⟨k, st, tag, val, an, hh, ln, f, row, col, al, kids, rfl⟩ := t.ex
  rfl
theorem Tr.setK_tag (t : Tr) (l : List Tr) : (t.setK l).tag = t.tag := by
  obtain ⟨k, st, tag, val, an, hh, ln, f, row, col, al, kids, rfl⟩ := t.ex
  rfl
theorem Tr.setK_setK (t : Tr) (l m : List Tr) : (t.setK l).setK m = t.setK m := by
  obtain ⟨k, st, tag, val, an, hh, ln, f, row, col, al, kids, rfl⟩ := t.ex
  rfl
theorem nds_setK1 (t : Tr) (l : List Tr) : nds (t.setK l) = 1 + (l.map nds).sum := by
  obtain ⟨k, st, tag, val, an, hh, ln, f, row, col, al, kids, rfl⟩ := t.ex
  rw [Tr.setK, nds_mk]
theorem nds_kids1 (t : Tr) : nds t = 1 + (t.kids.map nds).sum := by
  obtain ⟨k, st, tag, val, an, hh, ln, f, row, col, al, kids, rfl⟩ := t.ex
  rw [nds_mk]
  rfl
theorem PT.setK {lv : Nat} {t : Tr} (h : PT lv t) {l : List Tr} (hl : ∀ x ∈ l, PT (lv - 1) x) : PT lv (t.setK l) := by
  obtain ⟨k, st, tag, val, an, hh, ln, f, row, col, al, kids, rfl⟩ := t.ex
  rw [PT] at h
  rw [Tr.setK, PT]
  exact ⟨h.1, h.2.1, h.2.2.1, fun j hj => hl _ (List.getElem_mem hj)⟩
/-- The element that FnRoadElement sets. -/
def elT (k v m : ByteArray) : Tr := mapN [k, m] [tn v, tn vRed]
theorem elT_kids (k v m : ByteArray) : (elT k v m).kids = [tn k, tn v, tn m, tn vRed] := rfl
theorem elT_nds (k v m : ByteArray) : nds (elT k v m) = 5 := by
  rw [nds_kids1, elT_kids]
  simp [tn, nds_mk]
theorem elT_fit (k v m : ByteArray) : fitK [k] [v] (elT k v m) = true := by
  rw [fitK, fitM, mfl, elT_kids, fld, if_pos (show k = (tn k).value from rfl)]
  simp [elT, mapN, Tr.kind, fitM, tn, Tr.value]
theorem tn_pt (s : ByteArray) : PT 10 (tn s) := by
  rw [tn, PT]
  exact ⟨by decide, ⟨rfl, rfl⟩, .inl rfl, fun j hj => by cases hj⟩
theorem elT_pt (k v m : ByteArray) : PT 11 (elT k v m) := by
  rw [elT, mapN, PT]
  refine ⟨by decide, ⟨rfl, rfl⟩, .inr (.inr rfl), fun j hj => ?_⟩
  have : (pairsT [k, m] [tn v, tn vRed])[j] ∈ [tn k, tn v, tn m, tn vRed] := List.getElem_mem hj
  simp only [List.mem_cons, List.not_mem_nil, or_false] at this
  rcases this with h | h | h | h
  all_goals
    rw [h]
    exact tn_pt _
theorem elT_pt12 (k v m : ByteArray) : PT 12 (elT k v m) := by
  rw [elT, mapN, PT]
  refine ⟨by decide, ⟨rfl, rfl⟩, .inr (.inr rfl), fun j hj => ?_⟩
  have : (pairsT [k, m] [tn v, tn vRed])[j] ∈ [tn k, tn v, tn m, tn vRed] := List.getElem_mem hj
  simp only [List.mem_cons, List.not_mem_nil, or_false] at this
  rcases this with h | h | h | h
  all_goals
    rw [h, tn, PT]
    exact ⟨by decide, ⟨rfl, rfl⟩, .inl rfl, fun j hj => by cases hj⟩
set_option maxRecDepth 20000 in
theorem isFound146 (A : View) (x : Option Nat) : VCalls Try.prog 146 #[match x with | none => .pointer none | some b => ptr0 b, .nilIface] A fun r A' => r = .bool x.isSome ∧ A' = A := by
  cases x with
  | none =>
    show VCalls Try.prog 146 #[.pointer none, .nilIface] A fun r A' => r = .bool false ∧ A' = A
    refine xcalls Try.func146 rfl (by simp [Try.ntmps146]) ?_
    simp only [Try.f146]
    have hP : Priv A (addrs []) := Priv.nil A
    show xc _ _ _ _ _ _ (ov A [])
    refine xc_two fun N1 hN1 => ?_
    refine xc_reg2 fun K hK => ?_
    simp only [rall, rsl, gres]
    (refine seqX_hide2 fun R hR => ?_; simp [go_sem]; refine hR _ _ _ ?_; clear hR R)
    rw [seqX_nil]
    refine hK _ _ _ ?_; clear hK K
    refine hN1 _ _ _ ?_
    refine xc_two fun N2 hN2 => ?_
    refine xc_reg2 fun K hK => ?_
    simp only [rall, rsl, gres]
    iterate 7 (refine seqX_hide2 fun R hR => ?_; simp [go_sem]; refine hR _ _ _ ?_; clear hR R)
    rw [seqX_nil]
    refine hK _ _ _ ?_; clear hK K
    refine hN2 _ _ _ ?_
    simp [go_sem]
    rfl
  | some b =>
    show VCalls Try.prog 146 #[ptr0 b, .nilIface] A fun r A' => r = .bool true ∧ A' = A
    refine xcalls Try.func146 rfl (by simp [Try.ntmps146]) ?_
    simp only [Try.f146]
    have hP : Priv A (addrs []) := Priv.nil A
    show xc _ _ _ _ _ _ (ov A [])
    refine xc_two fun N1 hN1 => ?_
    refine xc_reg2 fun K hK => ?_
    simp only [rall, rsl, gres]
    (refine seqX_hide2 fun R hR => ?_; simp [go_sem]; refine hR _ _ _ ?_; clear hR R)
    rw [seqX_nil]
    refine hK _ _ _ ?_; clear hK K
    refine hN1 _ _ _ ?_
    refine xc_two fun N2 hN2 => ?_
    refine xc_reg2 fun K hK => ?_
    simp only [rall, rsl, gres]
    iterate 7 (refine seqX_hide2 fun R hR => ?_; simp [go_sem]; refine hR _ _ _ ?_; clear hR R)
    rw [seqX_nil]
    refine hK _ _ _ ?_; clear hK K
    refine hN2 _ _ _ ?_
    simp [go_sem]
    rfl
theorem find_take {f : Tr → Bool} {l : List Tr} {i : Nat} (hi : i < l.length) (h : (l.take i).any f = false) (hf : f l[i] = true) : l.find? f = some l[i] := by
  have h2 : l = l.take i ++ l[i] :: l.drop (i + 1) := by
    rw [← List.drop_eq_getElem_cons hi, List.take_append_drop]
  conv => lhs; rw [h2]
  rw [List.find?_append, List.find?_eq_none.2 (fun x hx => by
    have := List.any_eq_false.1 h x hx
    exact this), List.find?_cons_of_pos hf]
  rfl
theorem find_end {f : Tr → Bool} {l : List Tr} {i : Nat} (hi : l.length ≤ i) (h : (l.take i).any f = false) : l.find? f = none := by
  rw [List.take_of_length_le hi] at h
  exact List.find?_eq_none.2 fun x hx => List.any_eq_false.1 h x hx
set_option maxRecDepth 20000 in
set_option maxHeartbeats 400000 in
theorem filter144 (A : View) (t : Tr) (q : Nat) (kv vv : Value) (ks vs : List ByteArray) (hq : IsRn A t q) (hk : t.kind = 2) (ht : t.tag ≠ tNull) (hks : Texts A kv ks) (hvs : Texts A vv vs) (hl : ks.length = vs.length) (h0 : 0 < ks.length) (h5 : ks.length < 5) (hkn : ∀ s ∈ ks, s ≠ e0)
    (hkl : t.kids.length ≤ 1000000) (hkk : ∀ x ∈ t.kids, EN x ∧ (x.kind = 4 → x.kids.length % 2 = 0) ∧ x.kids.length ≤ 1000000) :
    VCalls Try.prog 144 #[.agg #[.string ⟨#[]⟩, kv, vv, .pointer none, .bool false], ptr0 q] A fun r A' => ∃ x : Option Nat, r = .tuple #[(match x with | none => .pointer none | some b => ptr0 b), .nilIface] ∧ (RP (t.kids.find? (fitK ks vs)) (match x with | none => .pointer none | some b => ptr0 b) A' ∧ A ≤ A') := by
  have hk1 : t.kind ≠ 1 := by omega
  have herr := errIf79 A t q 2 hq hk1 ht hk (fun e => absurd e (by decide)) hkl
  obtain ⟨p, hqc, hyn⟩ := hq
  obtain ⟨k, st, tag, val, an, h, l, f, row, col, al, kids, rfl⟩ := t.ex
  obtain ⟨cv, ps, hp, hrow, hpl, hyk⟩ := hyn.open
  obtain ⟨cb, cc, rfl⟩ := hrow.form
  replace hk : k = 2 := hk
  replace hk1 : k ≠ 1 := hk1
  replace hkl : kids.length ≤ 1000000 := hkl
  replace hkk : ∀ x ∈ kids, EN x ∧ (x.kind = 4 → x.kids.length % 2 = 0) ∧ x.kids.length ≤ 1000000 := hkk
  show VCalls Try.prog 144 #[.agg #[.string ⟨#[]⟩, kv, vv, .pointer none, .bool false], ptr0 q] A fun r A' => ∃ x : Option Nat, r = .tuple #[(match x with | none => .pointer none | some b => ptr0 b), .nilIface] ∧ (RP (kids.find? (fitK ks vs)) (match x with | none => .pointer none | some b => ptr0 b) A' ∧ A ≤ A')
  have hcon := fun (D : View) (hD : A ≤ D) => content36 D q p k st tag val an (.slice cb kids.length cc) h l f row col (hD _ _ hqc) (hD _ _ hp) hk1
  have hv0 : 0 < vs.length := by omega
  obtain ⟨ak, kc, f1, w2⟩ := hks.at' h0
  subst f1
  obtain ⟨av, wc0, f2, w3⟩ := hvs.at' hv0
  subst f2
  rw [show ak.add 0 = ak from if_pos rfl] at w2
  have hs0 := ne_empty (hkn _ (List.getElem_mem h0))
  have hs1 := hs0.1
  have hs2 := hs0.2
  have hs3 : ¬ ks[0] = ByteArray.empty := hkn _ (List.getElem_mem h0)
  have z0 : ¬ (ks.length : Int) = 0 := by omega
  have z1 : ¬ ks.length = 0 := by omega
  have z2 : ¬ ks = [] := fun e => by rw [e] at h0; exact absurd h0 (by decide)
  have z3 : ¬ (vs.length : Int) = 0 := by omega
  have z4 : ¬ vs.length = 0 := by omega
  have z5 : ¬ vs = [] := fun e => by rw [e] at hv0; exact absurd hv0 (by decide)
  have z6 : (0 : Int) < ks.length := by omega
  have z6' : (0 : Int) < vs.length := by omega
  have z7 : (ks.length : Int) = (vs.length : Int) := by omega
  have z10 : ((ks.length : Int) == (vs.length : Int)) = true := beq_iff_eq.2 z7
  have z11 : ((ks.length : Int) != (vs.length : Int)) = false := by rw [z7]; simp
  have z8 : ((vs.length : Int) == 0) = false := beq_eq_false_iff_ne.2 z3
  have z9 : ((ks.length : Int) == 0) = false := beq_eq_false_iff_ne.2 z0
  refine xcalls Try.func144 rfl (by simp [Try.ntmps144]) ?_
  simp only [Try.f144]
  have hP : Priv A (addrs []) := Priv.nil A
  show xc _ _ _ _ _ _ (ov A [])
  refine xc_two fun N1 hN1 => ?_
  refine xc_reg2 fun K hK => ?_
  simp only [rall, rsl, gres]
  refine seqX_hide2 fun R hR => ?_
  simp [go_sem, z0, z1, z2, z3, z4, z5, z8, z9, z6, z6', h0, hv0, z10, z11]
  intro q2 hq2
  replace hP := hP.cons hq2
  clear hq2
  refine hR _ _ _ ?_; clear hR R
  iterate 2 (refine seqX_hide2 fun R hR => ?_; simp [go_sem, z0, z1, z2, z3, z4, z5, z8, z9, z6, z6', h0, hv0, z10, z11]; refine hR _ _ _ ?_; clear hR R)
  rw [seqX_nil]
  refine hK _ _ _ ?_; clear hK K
  refine hN1 _ _ _ ?_
  refine xc_two fun N2 hN2 => ?_
  refine xc_two fun N3 hN3 => ?_
  refine xc_reg2 fun K hK => ?_
  simp only [rall, rsl, gres]
  iterate 4 (refine seqX_hide2 fun R hR => ?_; simp [go_sem, z0, z1, z2, z3, z4, z5, z8, z9, z6, z6', h0, hv0, z10, z11]; refine hR _ _ _ ?_; clear hR R)
  rw [seqX_nil]
  refine hK _ _ _ ?_; clear hK K
  refine hN3 _ _ _ ?_
  refine xc_iffalse (by simp [go_sem, z0, z1, z2, z3, z4, z5, z8, z9, z6, z6', h0, hv0, z10, z11]) ?_
  refine hN2 _ _ _ ?_
  refine xc_two fun N4 hN4 => ?_
  refine xc_two fun N5 hN5 => ?_
  refine xc_reg2 fun K hK => ?_
  simp only [rall, rsl, gres]
  iterate 4 (refine seqX_hide2 fun R hR => ?_; simp [go_sem, z0, z1, z2, z3, z4, z5, z8, z9, z6, z6', h0, hv0, z10, z11]; refine hR _ _ _ ?_; clear hR R)
  rw [seqX_nil]
  refine hK _ _ _ ?_; clear hK K
  refine hN5 _ _ _ ?_
  refine xc_iffalse (by simp [go_sem, z0, z1, z2, z3, z4, z5, z8, z9, z6, z6', h0, hv0, z10, z11]) ?_
  refine hN4 _ _ _ ?_
  refine xc_two fun N6 hN6 => ?_
  refine xc_two fun N7 hN7 => ?_
  refine xc_reg2 fun K hK => ?_
  simp only [rall, rsl, gres]
  (refine seqX_hide2 fun R hR => ?_; simp [go_sem, z0, z1, z2, z3, z4, z5, z8, z9, z6, z6', h0, hv0, z10, z11]; refine hR _ _ _ ?_; clear hR R)
  refine seqX_hide2 fun R hR => ?_
  simp [go_sem, z0, z1, z2, z3, z4, z5, z8, z9, z6, z6', h0, hv0, z10, z11]
  refine call_same hP herr ?_
  rintro _ rfl
  refine hR _ _ _ ?_; clear hR R
  (refine seqX_hide2 fun R hR => ?_; simp [go_sem, z0, z1, z2, z3, z4, z5, z8, z9, z6, z6', h0, hv0, z10, z11]; refine hR _ _ _ ?_; clear hR R)
  rw [seqX_nil]
  refine hK _ _ _ ?_; clear hK K
  refine hN7 _ _ _ ?_
  refine xc_two fun N8 hN8 => ?_
  refine xc_reg2 fun K hK => ?_
  simp only [rall, rsl, gres]
  iterate 2 (refine seqX_hide2 fun R hR => ?_; simp [go_sem, z0, z1, z2, z3, z4, z5, z8, z9, z6, z6', h0, hv0, z10, z11]; refine hR _ _ _ ?_; clear hR R)
  rw [seqX_nil]
  refine hK _ _ _ ?_; clear hK K
  refine hN8 _ _ _ ?_
  refine xc_iffalse (by simp [go_sem, z0, z1, z2, z3, z4, z5, z8, z9, z6, z6', h0, hv0, z10, z11]) ?_
  refine hN6 _ _ _ ?_
  refine xc_two fun N9 hN9 => ?_
  refine xc_two fun N10 hN10 => ?_
  refine xc_reg2 fun K hK => ?_
  simp only [rall, rsl, gres]
  iterate 15 (refine seqX_hide2 fun R hR => ?_; simp [go_sem, z0, z1, z2, z3, z4, z5, z8, z9, z6, z6', h0, hv0, z10, z11]; refine hR _ _ _ ?_; clear hR R)
  rw [seqX_nil]
  refine hK _ _ _ ?_; clear hK K
  refine hN10 _ _ _ ?_
  refine xc_iffalse (by simp [go_sem, z0, z1, z2, z3, z4, z5, z8, z9, z6, z6', h0, hv0, z10, z11]) ?_
  refine hN9 _ _ _ ?_
  refine xc_two fun N11 hN11 => ?_
  refine xc_two fun N12 hN12 => ?_
  refine xc_reg2 fun K hK => ?_
  simp only [rall, rsl, gres]
  iterate 12 (refine seqX_hide2 fun R hR => ?_; simp [go_sem, z0, z1, z2, z3, z4, z5, z8, z9, z6, z6', h0, hv0, z10, z11, bc hP w2, hs1, hs2, hs3, xindexAt, vload]; refine hR _ _ _ ?_; clear hR R)
  rw [seqX_nil]
  refine hK _ _ _ ?_; clear hK K
  refine hN12 _ _ _ ?_
  refine xc_iffalse (by simp [go_sem, z0, z1, z2, z3, z4, z5, z8, z9, z6, z6', h0, hv0, z10, z11, bc hP w2, hs1, hs2, hs3, xindexAt, vload]) ?_
  refine hN11 _ _ _ ?_
  refine xc_two fun N13 hN13 => ?_
  refine xc_two fun N14 hN14 => ?_
  refine xc_reg2 fun K hK => ?_
  simp only [rall, rsl, gres]
  (refine seqX_hide2 fun R hR => ?_; simp [go_sem, z0, z1, z2, z3, z4, z5, z8, z9, z6, z6', h0, hv0, z10, z11, bc hP w2, hs1, hs2, hs3, xindexAt, vload]; refine hR _ _ _ ?_; clear hR R)
  refine seqX_hide2 fun R hR => ?_
  simp [go_sem, z0, z1, z2, z3, z4, z5, z8, z9, z6, z6', h0, hv0, z10, z11, bc hP w2, hs1, hs2, hs3, xindexAt, vload]
  refine call_same hP (hcon A (View.le_refl _)) ?_
  rintro _ rfl
  refine hR _ _ _ ?_; clear hR R
  iterate 2 (refine seqX_hide2 fun R hR => ?_; simp [go_sem, z0, z1, z2, z3, z4, z5, z8, z9, z6, z6', h0, hv0, z10, z11, hs1, hs2, hs3, xindexAt, vload]; refine hR _ _ _ ?_; clear hR R)
  rw [seqX_nil]
  refine hK _ _ _ ?_; clear hK K
  refine hN14 _ _ _ ?_
  rw [xc_block]
  rw [xc_loop]
  refine vloopK (fun k' e ds A' => ∃ (i : Nat) (D : View), k' = kids.length - i ∧ ds = [] ∧ A' = ov D [(q2, .cells #[.string ⟨#[]⟩, .slice (some ak) ks.length kc, .slice (some av) vs.length wc0, .pointer none, .bool false] 95 (0, 0))] ∧ Priv D [q2] ∧ e 1 = ptr0 q ∧ e 2 = .pointer (some ⟨q2, 0, none⟩) ∧ e 108 = .int .i64 kids.length ∧ e 109 = .int .i64 i ∧ (i ≤ kids.length) ∧ (A ≤ D) ∧ ((kids.take i).any (fitK ks vs) = false)) _ ⟨0, A, rfl, rfl, rfl, hP, by simp [go_sem, z0, z1, z2, z3, z4, z5, z8, z9, z6, z6', h0, hv0, z10, z11, hs1, hs2, hs3, xindexAt, vload], by simp [go_sem, z0, z1, z2, z3, z4, z5, z8, z9, z6, z6', h0, hv0, z10, z11, hs1, hs2, hs3, xindexAt, vload], by simp [go_sem, z0, z1, z2, z3, z4, z5, z8, z9, z6, z6', h0, hv0, z10, z11, hs1, hs2, hs3, xindexAt, vload], by simp [go_sem, z0, z1, z2, z3, z4, z5, z8, z9, z6, z6', h0, hv0, z10, z11, hs1, hs2, hs3, xindexAt, vload], by omega, View.le_refl _, rfl⟩ ?_
  clear hP
  rintro k' e ds _ ⟨i, D, rfl, rfl, rfl, hP, g1, g2, g108, g109, hil, hAD, hno⟩ J1 X1 hJ1 hX1
  refine xc_sound _ ?_
  have hw1 : IntKind.i64.wrap ((i : Int) + 1) = ((i + 1 : Nat) : Int) := by rw [wrap_in (by omega) (by omega)]; omega
  by_cases hi : i < kids.length
  rotate_left
  · have hii : ¬ (i : Int) < kids.length := by omega
    refine xc_two fun N15 hN15 => ?_
    refine xc_reg2 fun K hK => ?_
    simp only [rall, rsl, gres]
    (refine seqX_hide2 fun R hR => ?_; simp [go_sem, z0, z1, z2, z3, z4, z5, z8, z9, z6, z6', h0, hv0, z10, z11, hs1, hs2, hs3, xindexAt, vload, g1, g2, g108, g109, hi, hii]; refine hR _ _ _ ?_; clear hR R)
    rw [seqX_nil]
    refine hK _ _ _ ?_; clear hK K
    refine hN15 _ _ _ ?_
    refine xc_two fun N16 hN16 => ?_
    refine xc_iffalse (by simp [go_sem, z0, z1, z2, z3, z4, z5, z8, z9, z6, z6', h0, hv0, z10, z11, hs1, hs2, hs3, xindexAt, vload, g1, g2, g108, g109, hi, hii]) ?_
    refine hX1 _ _ _ _ ?_
    refine hN13 _ _ _ ?_
    refine xc_two fun N17 hN17 => ?_
    refine xc_two fun N18 hN18 => ?_
    refine xc_reg2 fun K hK => ?_
    simp only [rall, rsl, gres]
    iterate 3 (refine seqX_hide2 fun R hR => ?_; simp [go_sem, z0, z1, z2, z3, z4, z5, z8, z9, z6, z6', h0, hv0, z10, z11, hs1, hs2, hs3, xindexAt, vload, g1, g2, g108, g109, hi, hii]; refine hR _ _ _ ?_; clear hR R)
    rw [seqX_nil]
    refine hK _ _ _ ?_; clear hK K
    refine hN18 _ _ _ ?_
    refine xc_iffalse (by simp [go_sem, z0, z1, z2, z3, z4, z5, z8, z9, z6, z6', h0, hv0, z10, z11, hs1, hs2, hs3, xindexAt, vload, g1, g2, g108, g109, hi, hii]) ?_
    refine hN17 _ _ _ ?_
    refine xc_two fun N19 hN19 => ?_
    refine xc_reg2 fun K hK => ?_
    simp only [rall, rsl, gres]
    iterate 2 (refine seqX_hide2 fun R hR => ?_; simp [go_sem, z0, z1, z2, z3, z4, z5, z8, z9, z6, z6', h0, hv0, z10, z11, hs1, hs2, hs3, xindexAt, vload, g1, g2, g108, g109, hi, hii]; refine hR _ _ _ ?_; clear hR R)
    rw [seqX_nil]
    refine hK _ _ _ ?_; clear hK K
    refine hN19 _ _ _ ?_
    simp [go_sem, z0, z1, z2, z3, z4, z5, z8, z9, z6, z6', h0, hv0, z10, z11, hs1, hs2, hs3, xindexAt, vload, g1, g2, g108, g109, hi, hii]
    refine ⟨none, rfl, ?_, View.le_trans hAD ?_⟩
    · rw [find_end (by omega) hno]; rfl
    · exact le_ov hP
  have hii : (i : Int) < kids.length := by omega
  obtain ⟨pj, hq1, hq2⟩ := hyk i hi
  obtain ⟨a1, cap1, f1, -, u1⟩ := Row.at1 (i := i) (u := ptr0 pj) hrow (by rw [List.getElem?_map, hq1]; rfl)
  simp only [Value.slice.injEq] at f1
  obtain ⟨rfl, -, rfl⟩ := f1
  have u1d := le_cell hAD u1
  obtain ⟨hen, hev2, hkl2⟩ := hkk _ (List.getElem_mem hi)
  have hany : (kids.take (i + 1)).any (fitK ks vs) = fitK ks vs kids[i] := by
    rw [List.take_succ_eq_append_getElem hi, List.any_append, hno]
    simp
  refine xc_two fun N15 hN15 => ?_
  refine xc_reg2 fun K hK => ?_
  simp only [rall, rsl, gres]
  (refine seqX_hide2 fun R hR => ?_; simp [go_sem, z0, z1, z2, z3, z4, z5, z8, z9, z6, z6', h0, hv0, z10, z11, hs1, hs2, hs3, xindexAt, vload, g1, g2, g108, g109, hi, hii, hw1, bc hP u1d]; refine hR _ _ _ ?_; clear hR R)
  rw [seqX_nil]
  refine hK _ _ _ ?_; clear hK K
  refine hN15 _ _ _ ?_
  refine xc_two fun N16 hN16 => ?_
  refine xc_iftrue (by simp [go_sem, z0, z1, z2, z3, z4, z5, z8, z9, z6, z6', h0, hv0, z10, z11, hs1, hs2, hs3, xindexAt, vload, g1, g2, g108, g109, hi, hii, hw1, bc hP u1d]) ?_
  refine hN16 _ _ _ ?_
  refine xc_two fun N17 hN17 => ?_
  rw [xc_block]
  refine xc_two fun N18 hN18 => ?_
  refine xc_reg2 fun K hK => ?_
  simp only [rall, rsl, gres]
  iterate 2 (refine seqX_hide2 fun R hR => ?_; simp [go_sem, z0, z1, z2, z3, z4, z5, z8, z9, z6, z6', h0, hv0, z10, z11, hs1, hs2, hs3, xindexAt, vload, g1, g2, g108, g109, hi, hii, hw1, bc hP u1d]; refine hR _ _ _ ?_; clear hR R)
  rw [seqX_nil]
  refine hK _ _ _ ?_; clear hK K
  refine hN18 _ _ _ ?_
  refine xc_two fun N19 hN19 => ?_
  refine xc_reg2 fun K hK => ?_
  simp only [rall, rsl, gres]
  (refine seqX_hide2 fun R hR => ?_; simp [go_sem, z0, z1, z2, z3, z4, z5, z8, z9, z6, z6', h0, hv0, z10, z11, hs1, hs2, hs3, xindexAt, vload, g1, g2, g108, g109, hi, hii, hw1, bc hP u1d]; refine hR _ _ _ ?_; clear hR R)
  refine seqX_hide2 fun R hR => ?_
  simp [go_sem, z0, z1, z2, z3, z4, z5, z8, z9, z6, z6', h0, hv0, z10, z11, hs1, hs2, hs3, xindexAt, vload, g1, g2, g108, g109, hi, hii, hw1, bc hP u1d]
  refine call_same hP (hcon D hAD) ?_
  rintro _ rfl
  refine hR _ _ _ ?_; clear hR R
  iterate 3 (refine seqX_hide2 fun R hR => ?_; simp [go_sem, z0, z1, z2, z3, z4, z5, z8, z9, z6, z6', h0, hv0, z10, z11, hs1, hs2, hs3, xindexAt, vload, g1, g2, g108, g109, hi, hii, hw1, bc hP u1d]; refine hR _ _ _ ?_; clear hR R)
  refine seqX_hide2 fun R hR => ?_
  simp [go_sem, z0, z1, z2, z3, z4, z5, z8, z9, z6, z6', h0, hv0, z10, z11, hs1, hs2, hs3, xindexAt, vload, g1, g2, g108, g109, hi, hii, hw1, bc hP u1d]
  refine call_ov hP (newRNode33 D kids[i] pj (hq2.le hAD)) ?_
  clear hP
  rintro _ D2 ⟨rq, rfl, hrq, hD2⟩ hP
  have hAD2 := View.le_trans hAD hD2
  refine hR _ _ _ ?_; clear hR R
  (refine seqX_hide2 fun R hR => ?_; simp [go_sem, z0, z1, z2, z3, z4, z5, z8, z9, z6, z6', h0, hv0, z10, z11, hs1, hs2, hs3, xindexAt, vload, g1, g2, g108, g109, hi, hii, hw1]; refine hR _ _ _ ?_; clear hR R)
  rw [seqX_nil]
  refine hK _ _ _ ?_; clear hK K
  refine hN19 _ _ _ ?_
  refine xc_two fun N20 hN20 => ?_
  refine xc_reg2 fun K hK => ?_
  simp only [rall, rsl, gres]
  (refine seqX_hide2 fun R hR => ?_; simp [go_sem, z0, z1, z2, z3, z4, z5, z8, z9, z6, z6', h0, hv0, z10, z11, hs1, hs2, hs3, xindexAt, vload, g1, g2, g108, g109, hi, hii, hw1]; refine hR _ _ _ ?_; clear hR R)
  rw [seqX_nil]
  refine hK _ _ _ ?_; clear hK K
  refine hN20 _ _ _ ?_
  refine xc_two fun N21 hN21 => ?_
  refine xc_reg2 fun K hK => ?_
  simp only [rall, rsl, gres]
  (refine seqX_hide2 fun R hR => ?_; simp [go_sem, z0, z1, z2, z3, z4, z5, z8, z9, z6, z6', h0, hv0, z10, z11, hs1, hs2, hs3, xindexAt, vload, g1, g2, g108, g109, hi, hii, hw1]; refine hR _ _ _ ?_; clear hR R)
  rw [seqX_nil]
  refine hK _ _ _ ?_; clear hK K
  refine hN21 _ _ _ ?_
  refine xc_two fun N22 hN22 => ?_
  refine xc_two fun N23 hN23 => ?_
  refine xc_reg2 fun K hK => ?_
  simp only [rall, rsl, gres]
  (refine seqX_hide2 fun R hR => ?_; simp [go_sem, z0, z1, z2, z3, z4, z5, z8, z9, z6, z6', h0, hv0, z10, z11, hs1, hs2, hs3, xindexAt, vload, g1, g2, g108, g109, hi, hii, hw1]; refine hR _ _ _ ?_; clear hR R)
  refine seqX_hide2 fun R hR => ?_
  simp [go_sem, z0, z1, z2, z3, z4, z5, z8, z9, z6, z6', h0, hv0, z10, z11, hs1, hs2, hs3, xindexAt, vload, g1, g2, g108, g109, hi, hii, hw1]
  by_cases hx4 : (kids[i]).kind = 4
  rotate_left
  · have hfit : fitK ks vs kids[i] = false := by rw [fitK, decide_eq_false hx4, Bool.false_and]
    rw [hfit] at hany
    refine call_ov hP (errKind79 D2 _ rq 4 hrq hen.1 hen.2.1 hx4) ?_
    clear hP
    rintro _ D3 ⟨⟨b, rfl⟩, hD3⟩ hP
    refine hR _ _ _ ?_; clear hR R
    (refine seqX_hide2 fun R hR => ?_; simp [go_sem, z0, z1, z2, z3, z4, z5, z8, z9, z6, z6', h0, hv0, z10, z11, hs1, hs2, hs3, xindexAt, vload, g1, g2, g108, g109, hi, hii, hw1]; refine hR _ _ _ ?_; clear hR R)
    rw [seqX_nil]
    refine hK _ _ _ ?_; clear hK K
    refine hN23 _ _ _ ?_
    refine xc_two fun N24 hN24 => ?_
    refine xc_reg2 fun K hK => ?_
    simp only [rall, rsl, gres]
    iterate 2 (refine seqX_hide2 fun R hR => ?_; simp [go_sem, z0, z1, z2, z3, z4, z5, z8, z9, z6, z6', h0, hv0, z10, z11, hs1, hs2, hs3, xindexAt, vload, g1, g2, g108, g109, hi, hii, hw1]; refine hR _ _ _ ?_; clear hR R)
    rw [seqX_nil]
    refine hK _ _ _ ?_; clear hK K
    refine hN24 _ _ _ ?_
    refine xc_iftrue (by simp [go_sem, z0, z1, z2, z3, z4, z5, z8, z9, z6, z6', h0, hv0, z10, z11, hs1, hs2, hs3, xindexAt, vload, g1, g2, g108, g109, hi, hii, hw1]) ?_
    refine hN17 _ _ _ ?_
    refine xc_reg2 fun K hK => ?_
    simp only [rall, rsl, gres]
    iterate 2 (refine seqX_hide2 fun R hR => ?_; simp [go_sem, z0, z1, z2, z3, z4, z5, z8, z9, z6, z6', h0, hv0, z10, z11, hs1, hs2, hs3, xindexAt, vload, g1, g2, g108, g109, hi, hii, hw1]; refine hR _ _ _ ?_; clear hR R)
    rw [seqX_nil]
    refine hK _ _ _ ?_; clear hK K
    refine hJ1 (kids.length - (i + 1)) _ _ _ (by omega) ⟨i + 1, D3, rfl, rfl, rfl, hP, by simp [go_sem, z0, z1, z2, z3, z4, z5, z8, z9, z6, z6', h0, hv0, z10, z11, hs1, hs2, hs3, xindexAt, vload, g1, g2, g108, g109, hi, hii, hw1], by simp [go_sem, z0, z1, z2, z3, z4, z5, z8, z9, z6, z6', h0, hv0, z10, z11, hs1, hs2, hs3, xindexAt, vload, g1, g2, g108, g109, hi, hii, hw1], by simp [go_sem, z0, z1, z2, z3, z4, z5, z8, z9, z6, z6', h0, hv0, z10, z11, hs1, hs2, hs3, xindexAt, vload, g1, g2, g108, g109, hi, hii, hw1], by simp [go_sem, z0, z1, z2, z3, z4, z5, z8, z9, z6, z6', h0, hv0, z10, z11, hs1, hs2, hs3, xindexAt, vload, g1, g2, g108, g109, hi, hii, hw1], by omega, View.le_trans hAD2 hD3, hany⟩
  refine call_same hP (errIf79 D2 _ rq 4 hrq hen.1 hen.2.1 hx4 (fun _ => hev2 hx4) hkl2) ?_
  rintro _ rfl
  refine hR _ _ _ ?_; clear hR R
  (refine seqX_hide2 fun R hR => ?_; simp [go_sem, z0, z1, z2, z3, z4, z5, z8, z9, z6, z6', h0, hv0, z10, z11, hs1, hs2, hs3, xindexAt, vload, g1, g2, g108, g109, hi, hii, hw1]; refine hR _ _ _ ?_; clear hR R)
  rw [seqX_nil]
  refine hK _ _ _ ?_; clear hK K
  refine hN23 _ _ _ ?_
  refine xc_two fun N24 hN24 => ?_
  refine xc_reg2 fun K hK => ?_
  simp only [rall, rsl, gres]
  iterate 2 (refine seqX_hide2 fun R hR => ?_; simp [go_sem, z0, z1, z2, z3, z4, z5, z8, z9, z6, z6', h0, hv0, z10, z11, hs1, hs2, hs3, xindexAt, vload, g1, g2, g108, g109, hi, hii, hw1]; refine hR _ _ _ ?_; clear hR R)
  rw [seqX_nil]
  refine hK _ _ _ ?_; clear hK K
  refine hN24 _ _ _ ?_
  refine xc_iffalse (by simp [go_sem, z0, z1, z2, z3, z4, z5, z8, z9, z6, z6', h0, hv0, z10, z11, hs1, hs2, hs3, xindexAt, vload, g1, g2, g108, g109, hi, hii, hw1]) ?_
  refine hN22 _ _ _ ?_
  refine xc_two fun N25 hN25 => ?_
  refine xc_two fun N26 hN26 => ?_
  refine xc_reg2 fun K hK => ?_
  simp only [rall, rsl, gres]
  iterate 12 (refine seqX_hide2 fun R hR => ?_; simp [go_sem, z0, z1, z2, z3, z4, z5, z8, z9, z6, z6', h0, hv0, z10, z11, hs1, hs2, hs3, xindexAt, vload, g1, g2, g108, g109, hi, hii, hw1]; refine hR _ _ _ ?_; clear hR R)
  rw [seqX_nil]
  refine hK _ _ _ ?_; clear hK K
  refine hN26 _ _ _ ?_
  refine xc_iffalse (by simp [go_sem, z0, z1, z2, z3, z4, z5, z8, z9, z6, z6', h0, hv0, z10, z11, hs1, hs2, hs3, xindexAt, vload, g1, g2, g108, g109, hi, hii, hw1]) ?_
  refine hN25 _ _ _ ?_
  refine xc_two fun N27 hN27 => ?_
  refine xc_reg2 fun K hK => ?_
  simp only [rall, rsl, gres]
  (refine seqX_hide2 fun R hR => ?_; simp [go_sem, z0, z1, z2, z3, z4, z5, z8, z9, z6, z6', h0, hv0, z10, z11, hs1, hs2, hs3, xindexAt, vload, g1, g2, g108, g109, hi, hii, hw1]; refine hR _ _ _ ?_; clear hR R)
  rw [seqX_nil]
  refine hK _ _ _ ?_; clear hK K
  refine hN27 _ _ _ ?_
  refine xc_two fun N28 hN28 => ?_
  refine xc_two fun N29 hN29 => ?_
  refine xc_reg2 fun K hK => ?_
  simp only [rall, rsl, gres]
  iterate 4 (refine seqX_hide2 fun R hR => ?_; simp [go_sem, z0, z1, z2, z3, z4, z5, z8, z9, z6, z6', h0, hv0, z10, z11, hs1, hs2, hs3, xindexAt, vload, g1, g2, g108, g109, hi, hii, hw1]; refine hR _ _ _ ?_; clear hR R)
  rw [seqX_nil]
  refine hK _ _ _ ?_; clear hK K
  refine hN29 _ _ _ ?_
  rw [xc_block]
  rw [xc_loop]
  refine vloopK (fun k' e ds A' => ∃ (j : Nat) (D5 : View), k' = ks.length - j ∧ ds = [] ∧ A' = ov D5 [(q2, .cells #[.string ⟨#[]⟩, .slice (some ak) ks.length kc, .slice (some av) vs.length wc0, .pointer none, .bool false] 95 (0, 0))] ∧ Priv D5 [q2] ∧ e 1 = ptr0 q ∧ e 2 = .pointer (some ⟨q2, 0, none⟩) ∧ e 9 = ptr0 rq ∧ e 11 = .nilIface ∧ e 12 = .bool true ∧ e 108 = .int .i64 kids.length ∧ e 109 = .int .i64 i ∧ e 137 = .int .i64 ks.length ∧ e 138 = .int .i64 j ∧ (j ≤ ks.length) ∧ (D2 ≤ D5) ∧ (fitM kids[i] ks vs = fitM kids[i] (ks.drop j) (vs.drop j))) _ ⟨0, D2, rfl, rfl, rfl, hP, by simp [go_sem, z0, z1, z2, z3, z4, z5, z8, z9, z6, z6', h0, hv0, z10, z11, hs1, hs2, hs3, xindexAt, vload, g1, g2, g108, g109, hi, hii, hw1], by simp [go_sem, z0, z1, z2, z3, z4, z5, z8, z9, z6, z6', h0, hv0, z10, z11, hs1, hs2, hs3, xindexAt, vload, g1, g2, g108, g109, hi, hii, hw1], by simp [go_sem, z0, z1, z2, z3, z4, z5, z8, z9, z6, z6', h0, hv0, z10, z11, hs1, hs2, hs3, xindexAt, vload, g1, g2, g108, g109, hi, hii, hw1], by simp [go_sem, z0, z1, z2, z3, z4, z5, z8, z9, z6, z6', h0, hv0, z10, z11, hs1, hs2, hs3, xindexAt, vload, g1, g2, g108, g109, hi, hii, hw1], by simp [go_sem, z0, z1, z2, z3, z4, z5, z8, z9, z6, z6', h0, hv0, z10, z11, hs1, hs2, hs3, xindexAt, vload, g1, g2, g108, g109, hi, hii, hw1], by simp [go_sem, z0, z1, z2, z3, z4, z5, z8, z9, z6, z6', h0, hv0, z10, z11, hs1, hs2, hs3, xindexAt, vload, g1, g2, g108, g109, hi, hii, hw1], by simp [go_sem, z0, z1, z2, z3, z4, z5, z8, z9, z6, z6', h0, hv0, z10, z11, hs1, hs2, hs3, xindexAt, vload, g1, g2, g108, g109, hi, hii, hw1], by simp [go_sem, z0, z1, z2, z3, z4, z5, z8, z9, z6, z6', h0, hv0, z10, z11, hs1, hs2, hs3, xindexAt, vload, g1, g2, g108, g109, hi, hii, hw1], by simp [go_sem, z0, z1, z2, z3, z4, z5, z8, z9, z6, z6', h0, hv0, z10, z11, hs1, hs2, hs3, xindexAt, vload, g1, g2, g108, g109, hi, hii, hw1], by omega, View.le_refl _, rfl⟩ ?_
  clear g1 g2 g108 g109
  clear hP
  rintro k' e ds _ ⟨j, D5, rfl, rfl, rfl, hP, g1, g2, g9, g11, g12, g108, g109, g137, g138, hjl, hD25, hfm⟩ J2 X2 hJ2 hX2
  refine xc_sound _ ?_
  have hwj : IntKind.i64.wrap ((j : Int) + 1) = ((j + 1 : Nat) : Int) := by rw [wrap_in (by omega) (by omega)]; omega
  by_cases hj : j < ks.length
  rotate_left
  · have hji : ¬ (j : Int) < ks.length := by omega
    rw [fitM_end (by omega)] at hfm
    have hfit : fitK ks vs kids[i] = true := by rw [fitK, hfm, decide_eq_true hx4]; rfl
    refine xc_two fun N30 hN30 => ?_
    refine xc_reg2 fun K hK => ?_
    simp only [rall, rsl, gres]
    (refine seqX_hide2 fun R hR => ?_; simp [go_sem, z0, z1, z2, z3, z4, z5, z8, z9, z6, z6', h0, hv0, z10, z11, hs1, hs2, hs3, xindexAt, vload, hi, hii, hw1, g1, g2, g9, g11, g12, g108, g109, g137, g138, hj, hji]; refine hR _ _ _ ?_; clear hR R)
    rw [seqX_nil]
    refine hK _ _ _ ?_; clear hK K
    refine hN30 _ _ _ ?_
    refine xc_two fun N31 hN31 => ?_
    refine xc_iffalse (by simp [go_sem, z0, z1, z2, z3, z4, z5, z8, z9, z6, z6', h0, hv0, z10, z11, hs1, hs2, hs3, xindexAt, vload, hi, hii, hw1, g1, g2, g9, g11, g12, g108, g109, g137, g138, hj, hji]) ?_
    refine hX2 _ _ _ _ ?_
    refine hN28 _ _ _ ?_
    refine xc_two fun N32 hN32 => ?_
    refine xc_reg2 fun K hK => ?_
    simp only [rall, rsl, gres]
    (refine seqX_hide2 fun R hR => ?_; simp [go_sem, z0, z1, z2, z3, z4, z5, z8, z9, z6, z6', h0, hv0, z10, z11, hs1, hs2, hs3, xindexAt, vload, hi, hii, hw1, g1, g2, g9, g11, g12, g108, g109, g137, g138, hj, hji]; refine hR _ _ _ ?_; clear hR R)
    rw [seqX_nil]
    refine hK _ _ _ ?_; clear hK K
    refine hN32 _ _ _ ?_
    refine xc_iftrue (by simp [go_sem, z0, z1, z2, z3, z4, z5, z8, z9, z6, z6', h0, hv0, z10, z11, hs1, hs2, hs3, xindexAt, vload, hi, hii, hw1, g1, g2, g9, g11, g12, g108, g109, g137, g138, hj, hji]) ?_
    refine xc_two fun N33 hN33 => ?_
    refine xc_reg2 fun K hK => ?_
    simp only [rall, rsl, gres]
    iterate 4 (refine seqX_hide2 fun R hR => ?_; simp [go_sem, z0, z1, z2, z3, z4, z5, z8, z9, z6, z6', h0, hv0, z10, z11, hs1, hs2, hs3, xindexAt, vload, hi, hii, hw1, g1, g2, g9, g11, g12, g108, g109, g137, g138, hj, hji]; refine hR _ _ _ ?_; clear hR R)
    rw [seqX_nil]
    refine hK _ _ _ ?_; clear hK K
    refine hN33 _ _ _ ?_
    refine hX1 _ _ _ _ ?_
    simp [go_sem, z0, z1, z2, z3, z4, z5, z8, z9, z6, z6', h0, hv0, z10, z11, hs1, hs2, hs3, xindexAt, vload, hi, hii, hw1, g1, g2, g9, g11, g12, g108, g109, g137, g138, hj, hji]
    refine ⟨some rq, rfl, ?_, View.le_trans hAD2 (View.le_trans hD25 ?_)⟩
    · rw [find_take hi hno hfit]
      refine ⟨rq, rfl, hrq.le (View.le_trans hD25 ?_)⟩
      exact le_ov hP
    · exact le_ov hP
  have hji : (j : Int) < ks.length := by omega
  have hj2 : j < vs.length := by omega
  have hji2 : (j : Int) < vs.length := by omega
  rw [fitM_step hj hj2] at hfm
  obtain ⟨ak', k1', f1, u2⟩ := hks.at' hj
  simp only [Value.slice.injEq, Option.some.injEq] at f1
  obtain ⟨rfl, -, rfl⟩ := f1
  obtain ⟨av', k2', f2, u3⟩ := hvs.at' hj2
  simp only [Value.slice.injEq, Option.some.injEq] at f2
  obtain ⟨rfl, -, rfl⟩ := f2
  have hA5 := View.le_trans hAD2 hD25
  have u2 := le_cell hA5 u2
  have u3 := le_cell hA5 u3
  refine xc_two fun N30 hN30 => ?_
  refine xc_reg2 fun K hK => ?_
  simp only [rall, rsl, gres]
  (refine seqX_hide2 fun R hR => ?_; simp [go_sem, z0, z1, z2, z3, z4, z5, z8, z9, z6, z6', h0, hv0, z10, z11, hs1, hs2, hs3, xindexAt, vload, hi, hii, hw1, g1, g2, g9, g11, g12, g108, g109, g137, g138, hj, hji, hj2, hji2, hwj, bc hP u2, bc hP u3]; refine hR _ _ _ ?_; clear hR R)
  rw [seqX_nil]
  refine hK _ _ _ ?_; clear hK K
  refine hN30 _ _ _ ?_
  refine xc_two fun N31 hN31 => ?_
  refine xc_iftrue (by simp [go_sem, z0, z1, z2, z3, z4, z5, z8, z9, z6, z6', h0, hv0, z10, z11, hs1, hs2, hs3, xindexAt, vload, hi, hii, hw1, g1, g2, g9, g11, g12, g108, g109, g137, g138, hj, hji, hj2, hji2, hwj, bc hP u2, bc hP u3]) ?_
  refine hN31 _ _ _ ?_
  refine xc_two fun N32 hN32 => ?_
  rw [xc_block]
  refine xc_two fun N33 hN33 => ?_
  refine xc_reg2 fun K hK => ?_
  simp only [rall, rsl, gres]
  iterate 2 (refine seqX_hide2 fun R hR => ?_; simp [go_sem, z0, z1, z2, z3, z4, z5, z8, z9, z6, z6', h0, hv0, z10, z11, hs1, hs2, hs3, xindexAt, vload, hi, hii, hw1, g1, g2, g9, g11, g12, g108, g109, g137, g138, hj, hji, hj2, hji2, hwj, bc hP u2, bc hP u3]; refine hR _ _ _ ?_; clear hR R)
  rw [seqX_nil]
  refine hK _ _ _ ?_; clear hK K
  refine hN33 _ _ _ ?_
  refine xc_two fun N34 hN34 => ?_
  refine xc_two fun N35 hN35 => ?_
  refine xc_reg2 fun K hK => ?_
  simp only [rall, rsl, gres]
  iterate 2 (refine seqX_hide2 fun R hR => ?_; simp [go_sem, z0, z1, z2, z3, z4, z5, z8, z9, z6, z6', h0, hv0, z10, z11, hs1, hs2, hs3, xindexAt, vload, hi, hii, hw1, g1, g2, g9, g11, g12, g108, g109, g137, g138, hj, hji, hj2, hji2, hwj, bc hP u2, bc hP u3]; refine hR _ _ _ ?_; clear hR R)
  rw [seqX_nil]
  refine hK _ _ _ ?_; clear hK K
  refine hN35 _ _ _ ?_
  refine xc_iffalse (by simp [go_sem, z0, z1, z2, z3, z4, z5, z8, z9, z6, z6', h0, hv0, z10, z11, hs1, hs2, hs3, xindexAt, vload, hi, hii, hw1, g1, g2, g9, g11, g12, g108, g109, g137, g138, hj, hji, hj2, hji2, hwj, bc hP u2, bc hP u3]) ?_
  rw [xc_draws]
  refine vdrawK [(0, true), (1, true), (2, true), (3, true), (4, true), (5, true), (6, true), (7, true), (8, true), (9, true), (10, true), (11, false), (12, true), (13, true), (14, false), (15, true), (16, true), (17, true), (18, true), (19, true)] (ov D5 [(q2, .cells #[.string ⟨#[]⟩, .slice (some ak) ks.length kc, .slice (some av) vs.length wc0, .pointer none, .bool false] 95 (0, 0))]) mixed (by kernel_rfl) (View.le_refl _) fun K hK => ?_
  simp only [rsl, gres]
  iterate 11 (refine seqR_hide fun R hR => ?_; simp [go_sem, z0, z1, z2, z3, z4, z5, z8, z9, z6, z6', h0, hv0, z10, z11, hs1, hs2, hs3, xindexAt, vload, hi, hii, hw1, g1, g2, g9, g11, g12, g108, g109, g137, g138, hj, hji, hj2, hji2, hwj, bc hP u2, bc hP u3]; refine hR _ _ _ ?_; clear hR R)
  refine seqR_hide fun R hR => ?_
  simp [go_sem, z0, z1, z2, z3, z4, z5, z8, z9, z6, z6', h0, hv0, z10, z11, hs1, hs2, hs3, xindexAt, vload, hi, hii, hw1, g1, g2, g9, g11, g12, g108, g109, g137, g138, hj, hji, hj2, hji2, hwj, bc hP u2, bc hP u3]
  refine call_ov hP (matchF60 D5 ks[j] vs[j]) ?_
  clear hP
  rintro _ D6 ⟨rv, rfl, hrv, hD6⟩ hP
  refine hR _ _ _ ?_; clear hR R
  (refine seqR_hide fun R hR => ?_; simp [go_sem, z0, z1, z2, z3, z4, z5, z8, z9, z6, z6', h0, hv0, z10, z11, hs1, hs2, hs3, xindexAt, vload, hi, hii, hw1, g1, g2, g9, g11, g12, g108, g109, g137, g138, hj, hji, hj2, hji2, hwj]; refine hR _ _ _ ?_; clear hR R)
  refine seqR_hide fun R hR => ?_
  simp [go_sem, z0, z1, z2, z3, z4, z5, z8, z9, z6, z6', h0, hv0, z10, z11, hs1, hs2, hs3, xindexAt, vload, hi, hii, hw1, g1, g2, g9, g11, g12, g108, g109, g137, g138, hj, hji, hj2, hji2, hwj]
  intro q170 hq170
  replace hP := hP.cons hq170
  clear hq170
  have d1702 : q170 ≠ q2 := (hP.ne q2 (by simp [addrs])).1
  have d2170 : q2 ≠ q170 := (hP.ne q2 (by simp [addrs])).2
  refine hR _ _ _ ?_; clear hR R
  refine seqR_hide fun R hR => ?_
  simp [go_sem, z0, z1, z2, z3, z4, z5, z8, z9, z6, z6', h0, hv0, z10, z11, hs1, hs2, hs3, xindexAt, vload, hi, hii, hw1, g1, g2, g9, g11, g12, g108, g109, g137, g138, hj, hji, hj2, hji2, hwj, d1702, d2170]
  obtain ⟨eq170, hPn, nq170⟩ := sinkI (A := D6) (L := [(q170, .cells #[.iface 88 (.agg #[.string ⟨#[]⟩, .string ks[j], ptr0 rv, .string ⟨#[]⟩, .string ⟨#[]⟩, .pointer none])] 116 (0, 0)), (q2, .cells #[.string ⟨#[]⟩, .slice (some ak) ks.length kc, .slice (some av) vs.length wc0, .pointer none, .bool false] 95 (0, 0))]) 0 hP rfl
  rw [eq170]
  clear eq170 hP; have hP := hPn; clear hPn
  simp only [List.eraseIdx_cons_zero, List.eraseIdx_cons_succ, addrs_cons, addrs_nil] at hP ⊢
  have lq : D6 ≤ D6.set q170 (.cells #[.iface 88 (.agg #[.string ⟨#[]⟩, .string ks[j], ptr0 rv, .string ⟨#[]⟩, .string ⟨#[]⟩, .pointer none])] 116 (0, 0)) := le_set nq170
  have hrow0 : Row (D6.set q170 (.cells #[.iface 88 (.agg #[.string ⟨#[]⟩, .string ks[j], ptr0 rv, .string ⟨#[]⟩, .string ⟨#[]⟩, .pointer none])] 116 (0, 0))) 1 (.slice (some ⟨q170, 0, none⟩) 1 1) 1 [.iface 88 (.agg #[.string ⟨#[]⟩, .string ks[j], ptr0 rv, .string ⟨#[]⟩, .string ⟨#[]⟩, .pointer none])] := .inl ⟨_, 1, rfl, cells_block (set_at _ _ _) rfl⟩
  generalize D6.set q170 (.cells #[.iface 88 (.agg #[.string ⟨#[]⟩, .string ks[j], ptr0 rv, .string ⟨#[]⟩, .string ⟨#[]⟩, .pointer none])] 116 (0, 0)) = D7 at hP lq hrow0 ⊢
  have hrq6 := hrq.le (View.le_trans hD25 (View.le_trans hD6 lq))
  have hrq7 := hrq6
  obtain ⟨pk, hrqc, hyk2⟩ := hrq7
  obtain ⟨k', st', tag', val', an', h', l', f', row', col', al', kk', hkx⟩ := (kids[i]).ex
  rw [hkx] at hyk2
  obtain ⟨cvk, psk, hpk, -, -, -⟩ := hyk2.open
  have hk1' : k' ≠ 1 := by have := hen.1; rw [hkx] at this; exact this
  refine call_ov hP (pipe1 D7 rq pk 88 134 (.agg #[.string ⟨#[]⟩, .string ks[j], ptr0 rv, .string ⟨#[]⟩, .string ⟨#[]⟩, .pointer none]) (.slice (some ⟨q170, 0, none⟩) 1 1) k' st' tag' val' an' cvk h' l' f' row' col' hrqc hpk hk1' meth_fm (by kernel_rfl) hrow0 (fun x A' => RP (mfl (kids[i]).kids ks[j] vs[j]) x A' ∧ D7 ≤ A') (matchV134 D7 kids[i] rq ks[j] vs[j] rv (hrv.le lq) hrq6 hx4 hen.2.1 (hev2 hx4) hkl2 (hkn _ (List.getElem_mem hj)))) ?_
  clear hP
  rintro _ D8 ⟨x, rfl, hx, hD8⟩ hP
  have hD28 := View.le_trans hD25 (View.le_trans hD6 (View.le_trans lq hD8))
  cases x with
  | none =>
    have hml : mfl (kids[i]).kids ks[j] vs[j] = none := by
      cases hm : mfl (kids[i]).kids ks[j] vs[j] with
      | none => rfl
      | some y =>
        rw [hm] at hx
        obtain ⟨rn, hh, -⟩ := hx
        have hh2 : Value.pointer none = ptr0 rn := hh
        cases hh2
    rw [hml] at hfm
    have hfit : fitK ks vs kids[i] = false := by rw [fitK, hfm]; simp
    rw [hfit] at hany
    refine hR _ _ _ ?_; clear hR R
    iterate 5 (refine seqR_hide fun R hR => ?_; simp [go_sem, z0, z1, z2, z3, z4, z5, z8, z9, z6, z6', h0, hv0, z10, z11, hs1, hs2, hs3, xindexAt, vload, hi, hii, hw1, g1, g2, g9, g11, g12, g108, g109, g137, g138, hj, hji, hj2, hji2, hwj, d1702, d2170]; refine hR _ _ _ ?_; clear hR R)
    rw [seqR_nil]
    refine hK _ _ _ ?_; clear hK K
    refine hN34 _ _ _ ?_
    refine xc_two fun N36 hN36 => ?_
    refine xc_reg2 fun K hK => ?_
    simp only [rall, rsl, gres]
    iterate 2 (refine seqX_hide2 fun R hR => ?_; simp [go_sem, z0, z1, z2, z3, z4, z5, z8, z9, z6, z6', h0, hv0, z10, z11, hs1, hs2, hs3, xindexAt, vload, hi, hii, hw1, g1, g2, g9, g11, g12, g108, g109, g137, g138, hj, hji, hj2, hji2, hwj, d1702, d2170]; refine hR _ _ _ ?_; clear hR R)
    refine seqX_hide2 fun R hR => ?_
    simp [go_sem, z0, z1, z2, z3, z4, z5, z8, z9, z6, z6', h0, hv0, z10, z11, hs1, hs2, hs3, xindexAt, vload, hi, hii, hw1, g1, g2, g9, g11, g12, g108, g109, g137, g138, hj, hji, hj2, hji2, hwj, d1702, d2170]
    refine call_same hP (isFound146 D8 none) ?_
    rintro _ rfl
    refine hR _ _ _ ?_; clear hR R
    (refine seqX_hide2 fun R hR => ?_; simp [go_sem, z0, z1, z2, z3, z4, z5, z8, z9, z6, z6', h0, hv0, z10, z11, hs1, hs2, hs3, xindexAt, vload, hi, hii, hw1, g1, g2, g9, g11, g12, g108, g109, g137, g138, hj, hji, hj2, hji2, hwj, d1702, d2170]; refine hR _ _ _ ?_; clear hR R)
    rw [seqX_nil]
    refine hK _ _ _ ?_; clear hK K
    refine hN36 _ _ _ ?_
    refine xc_iftrue (by simp [go_sem, z0, z1, z2, z3, z4, z5, z8, z9, z6, z6', h0, hv0, z10, z11, hs1, hs2, hs3, xindexAt, vload, hi, hii, hw1, g1, g2, g9, g11, g12, g108, g109, g137, g138, hj, hji, hj2, hji2, hwj, d1702, d2170]) ?_
    refine xc_two fun N37 hN37 => ?_
    refine xc_reg2 fun K hK => ?_
    simp only [rall, rsl, gres]
    (refine seqX_hide2 fun R hR => ?_; simp [go_sem, z0, z1, z2, z3, z4, z5, z8, z9, z6, z6', h0, hv0, z10, z11, hs1, hs2, hs3, xindexAt, vload, hi, hii, hw1, g1, g2, g9, g11, g12, g108, g109, g137, g138, hj, hji, hj2, hji2, hwj, d1702, d2170]; refine hR _ _ _ ?_; clear hR R)
    rw [seqX_nil]
    refine hK _ _ _ ?_; clear hK K
    refine hN37 _ _ _ ?_
    refine hX2 _ _ _ _ ?_
    refine hN28 _ _ _ ?_
    refine xc_two fun N38 hN38 => ?_
    refine xc_reg2 fun K hK => ?_
    simp only [rall, rsl, gres]
    (refine seqX_hide2 fun R hR => ?_; simp [go_sem, z0, z1, z2, z3, z4, z5, z8, z9, z6, z6', h0, hv0, z10, z11, hs1, hs2, hs3, xindexAt, vload, hi, hii, hw1, g1, g2, g9, g11, g12, g108, g109, g137, g138, hj, hji, hj2, hji2, hwj, d1702, d2170]; refine hR _ _ _ ?_; clear hR R)
    rw [seqX_nil]
    refine hK _ _ _ ?_; clear hK K
    refine hN38 _ _ _ ?_
    refine xc_iffalse (by simp [go_sem, z0, z1, z2, z3, z4, z5, z8, z9, z6, z6', h0, hv0, z10, z11, hs1, hs2, hs3, xindexAt, vload, hi, hii, hw1, g1, g2, g9, g11, g12, g108, g109, g137, g138, hj, hji, hj2, hji2, hwj, d1702, d2170]) ?_
    refine hN17 _ _ _ ?_
    refine xc_reg2 fun K hK => ?_
    simp only [rall, rsl, gres]
    iterate 2 (refine seqX_hide2 fun R hR => ?_; simp [go_sem, z0, z1, z2, z3, z4, z5, z8, z9, z6, z6', h0, hv0, z10, z11, hs1, hs2, hs3, xindexAt, vload, hi, hii, hw1, g1, g2, g9, g11, g12, g108, g109, g137, g138, hj, hji, hj2, hji2, hwj, d1702, d2170]; refine hR _ _ _ ?_; clear hR R)
    rw [seqX_nil]
    refine hK _ _ _ ?_; clear hK K
    refine hJ1 (kids.length - (i + 1)) _ _ _ (by omega) ⟨i + 1, D8, rfl, rfl, rfl, hP, by simp [go_sem, z0, z1, z2, z3, z4, z5, z8, z9, z6, z6', h0, hv0, z10, z11, hs1, hs2, hs3, xindexAt, vload, hi, hii, hw1, g1, g2, g9, g11, g12, g108, g109, g137, g138, hj, hji, hj2, hji2, hwj, d1702, d2170], by simp [go_sem, z0, z1, z2, z3, z4, z5, z8, z9, z6, z6', h0, hv0, z10, z11, hs1, hs2, hs3, xindexAt, vload, hi, hii, hw1, g1, g2, g9, g11, g12, g108, g109, g137, g138, hj, hji, hj2, hji2, hwj, d1702, d2170], by simp [go_sem, z0, z1, z2, z3, z4, z5, z8, z9, z6, z6', h0, hv0, z10, z11, hs1, hs2, hs3, xindexAt, vload, hi, hii, hw1, g1, g2, g9, g11, g12, g108, g109, g137, g138, hj, hji, hj2, hji2, hwj, d1702, d2170], by simp [go_sem, z0, z1, z2, z3, z4, z5, z8, z9, z6, z6', h0, hv0, z10, z11, hs1, hs2, hs3, xindexAt, vload, hi, hii, hw1, g1, g2, g9, g11, g12, g108, g109, g137, g138, hj, hji, hj2, hji2, hwj, d1702, d2170], by omega, View.le_trans hAD2 hD28, hany⟩
  | some b =>
    have hml : (mfl (kids[i]).kids ks[j] vs[j]).isSome = true := by
      cases hm : mfl (kids[i]).kids ks[j] vs[j] with
      | some y => rfl
      | none =>
        rw [hm] at hx
        have hh2 : ptr0 b = .pointer none := hx
        cases hh2
    rw [hml, Bool.true_and] at hfm
    refine hR _ _ _ ?_; clear hR R
    iterate 5 (refine seqR_hide fun R hR => ?_; simp [go_sem, z0, z1, z2, z3, z4, z5, z8, z9, z6, z6', h0, hv0, z10, z11, hs1, hs2, hs3, xindexAt, vload, hi, hii, hw1, g1, g2, g9, g11, g12, g108, g109, g137, g138, hj, hji, hj2, hji2, hwj, d1702, d2170]; refine hR _ _ _ ?_; clear hR R)
    rw [seqR_nil]
    refine hK _ _ _ ?_; clear hK K
    refine hN34 _ _ _ ?_
    refine xc_two fun N36 hN36 => ?_
    refine xc_reg2 fun K hK => ?_
    simp only [rall, rsl, gres]
    iterate 2 (refine seqX_hide2 fun R hR => ?_; simp [go_sem, z0, z1, z2, z3, z4, z5, z8, z9, z6, z6', h0, hv0, z10, z11, hs1, hs2, hs3, xindexAt, vload, hi, hii, hw1, g1, g2, g9, g11, g12, g108, g109, g137, g138, hj, hji, hj2, hji2, hwj, d1702, d2170]; refine hR _ _ _ ?_; clear hR R)
    refine seqX_hide2 fun R hR => ?_
    simp [go_sem, z0, z1, z2, z3, z4, z5, z8, z9, z6, z6', h0, hv0, z10, z11, hs1, hs2, hs3, xindexAt, vload, hi, hii, hw1, g1, g2, g9, g11, g12, g108, g109, g137, g138, hj, hji, hj2, hji2, hwj, d1702, d2170]
    refine call_same hP (isFound146 D8 (some b)) ?_
    rintro _ rfl
    refine hR _ _ _ ?_; clear hR R
    (refine seqX_hide2 fun R hR => ?_; simp [go_sem, z0, z1, z2, z3, z4, z5, z8, z9, z6, z6', h0, hv0, z10, z11, hs1, hs2, hs3, xindexAt, vload, hi, hii, hw1, g1, g2, g9, g11, g12, g108, g109, g137, g138, hj, hji, hj2, hji2, hwj, d1702, d2170]; refine hR _ _ _ ?_; clear hR R)
    rw [seqX_nil]
    refine hK _ _ _ ?_; clear hK K
    refine hN36 _ _ _ ?_
    refine xc_iffalse (by simp [go_sem, z0, z1, z2, z3, z4, z5, z8, z9, z6, z6', h0, hv0, z10, z11, hs1, hs2, hs3, xindexAt, vload, hi, hii, hw1, g1, g2, g9, g11, g12, g108, g109, g137, g138, hj, hji, hj2, hji2, hwj, d1702, d2170]) ?_
    refine hN32 _ _ _ ?_
    refine xc_reg2 fun K hK => ?_
    simp only [rall, rsl, gres]
    iterate 2 (refine seqX_hide2 fun R hR => ?_; simp [go_sem, z0, z1, z2, z3, z4, z5, z8, z9, z6, z6', h0, hv0, z10, z11, hs1, hs2, hs3, xindexAt, vload, hi, hii, hw1, g1, g2, g9, g11, g12, g108, g109, g137, g138, hj, hji, hj2, hji2, hwj, d1702, d2170]; refine hR _ _ _ ?_; clear hR R)
    rw [seqX_nil]
    refine hK _ _ _ ?_; clear hK K
    refine hJ2 (ks.length - (j + 1)) _ _ _ (by omega) ⟨j + 1, D8, rfl, rfl, rfl, hP, by simp [go_sem, z0, z1, z2, z3, z4, z5, z8, z9, z6, z6', h0, hv0, z10, z11, hs1, hs2, hs3, xindexAt, vload, hi, hii, hw1, g1, g2, g9, g11, g12, g108, g109, g137, g138, hj, hji, hj2, hji2, hwj, d1702, d2170], by simp [go_sem, z0, z1, z2, z3, z4, z5, z8, z9, z6, z6', h0, hv0, z10, z11, hs1, hs2, hs3, xindexAt, vload, hi, hii, hw1, g1, g2, g9, g11, g12, g108, g109, g137, g138, hj, hji, hj2, hji2, hwj, d1702, d2170], by simp [go_sem, z0, z1, z2, z3, z4, z5, z8, z9, z6, z6', h0, hv0, z10, z11, hs1, hs2, hs3, xindexAt, vload, hi, hii, hw1, g1, g2, g9, g11, g12, g108, g109, g137, g138, hj, hji, hj2, hji2, hwj, d1702, d2170], by simp [go_sem, z0, z1, z2, z3, z4, z5, z8, z9, z6, z6', h0, hv0, z10, z11, hs1, hs2, hs3, xindexAt, vload, hi, hii, hw1, g1, g2, g9, g11, g12, g108, g109, g137, g138, hj, hji, hj2, hji2, hwj, d1702, d2170], by simp [go_sem, z0, z1, z2, z3, z4, z5, z8, z9, z6, z6', h0, hv0, z10, z11, hs1, hs2, hs3, xindexAt, vload, hi, hii, hw1, g1, g2, g9, g11, g12, g108, g109, g137, g138, hj, hji, hj2, hji2, hwj, d1702, d2170], by simp [go_sem, z0, z1, z2, z3, z4, z5, z8, z9, z6, z6', h0, hv0, z10, z11, hs1, hs2, hs3, xindexAt, vload, hi, hii, hw1, g1, g2, g9, g11, g12, g108, g109, g137, g138, hj, hji, hj2, hji2, hwj, d1702, d2170], by simp [go_sem, z0, z1, z2, z3, z4, z5, z8, z9, z6, z6', h0, hv0, z10, z11, hs1, hs2, hs3, xindexAt, vload, hi, hii, hw1, g1, g2, g9, g11, g12, g108, g109, g137, g138, hj, hji, hj2, hji2, hwj, d1702, d2170], by simp [go_sem, z0, z1, z2, z3, z4, z5, z8, z9, z6, z6', h0, hv0, z10, z11, hs1, hs2, hs3, xindexAt, vload, hi, hii, hw1, g1, g2, g9, g11, g12, g108, g109, g137, g138, hj, hji, hj2, hji2, hwj, d1702, d2170], by simp [go_sem, z0, z1, z2, z3, z4, z5, z8, z9, z6, z6', h0, hv0, z10, z11, hs1, hs2, hs3, xindexAt, vload, hi, hii, hw1, g1, g2, g9, g11, g12, g108, g109, g137, g138, hj, hji, hj2, hji2, hwj, d1702, d2170], by omega, hD28, hfm⟩
theorem meth_em : meth Try.prog 95 "Filter" = some ⟨144, none⟩ := by kernel_rfl
theorem caught63 (p q s : Addr) (w : World) :
    CallsD Try.prog 63 #[.pointer (some p), .pointer (some q), .pointer (some s)] .returning w fun e u' w' => (∃ v, e = .returned v) ∧ u' = .returning ∧ w' = w := by
  refine callsD_of_wpS Try.func63 rfl fun c₀ cs hu => ?_
  apply wpS_seq
  apply wpS_region
  simp [wpOpsS, go_sem, recoverD, hu, Try.ntmps63, Exit.thenS]
  refine wpS_cond (t := false) (by simp [Act.eval, Array.replicate]) ?_
  simp only [Bool.false_eq_true, if_false]
  refine wpS_of_wp (wp_skip ?_)
  cases c₀
  simp_all [bodyPostS, results, Try.results63]
set_option maxRecDepth 20000 in
set_option maxHeartbeats 400000 in
theorem matchElem35 (A : View) (t : Tr) (lv : Nat) (c : Array Value) (kv vv : Value) (ks vs : List ByteArray) (hc : IsTr A t c) (hpt : PT lv t) (hnd : nds t ≤ 400) (hlv : lv ≤ 40) (hk : t.kind = 2) (ht : t.tag ≠ tNull) (hks : Texts A kv ks) (hvs : Texts A vv vs) (hl : ks.length = vs.length) (h0 : 0 < ks.length) (h5 : ks.length < 5) (hkn : ∀ s ∈ ks, s ≠ e0)
    (hkk : ∀ x ∈ t.kids, EN x ∧ (x.kind = 4 → x.kids.length % 2 = 0)) :
    VCalls Try.prog 35 #[.agg c, kv, vv, .bool false] A fun r A' => ∃ c1 fv, r = .tuple #[.agg c1, fv, .int .i64 0] ∧ IsTr A' t c1 ∧ Trs A' fv (opt1 (t.kids.find? (fitK ks vs))) ∧ A ≤ A' := by
  have hcz := hc.size
  have hco := hc.ones
  have hnk : (t.kids.map nds).sum ≤ 400 := by rw [nds_kids1] at hnd; omega
  have hlen := len_sum t.kids
  have hkl : t.kids.length ≤ 1000000 := by omega
  replace hkk : ∀ x ∈ t.kids, EN x ∧ (x.kind = 4 → x.kids.length % 2 = 0) ∧ x.kids.length ≤ 1000000 := fun x hx => ⟨(hkk x hx).1, (hkk x hx).2, by
    have h1 := len_sum x.kids
    have h2 := nds_kid' hx
    have h3 := nds_kids1 x
    omega⟩
  obtain ⟨kb, kc, rfl⟩ := hks.slice
  obtain ⟨wb, wc, rfl⟩ := hvs.slice
  have z1 : ¬ (10 : Int) < ks.length := by omega
  have z2 : ¬ (10 : Int) < vs.length := by omega
  have z3 : ¬ 10 < ks.length := by omega
  have z4 : ¬ 10 < vs.length := by omega
  refine xcallsD Try.func35 rfl (by simp [Try.ntmps35]) ?_
  simp only [Try.f35]
  have hP : Priv A (addrs []) := Priv.nil A
  show xc _ _ _ _ _ _ (ov A [])
  refine xc_two fun N1 hN1 => ?_
  refine xc_reg2 fun K hK => ?_
  simp only [rall, rsl, gres]
  refine seqX_hide2 fun R hR => ?_
  simp [go_sem, hcz, hco, z1, z2, z3, z4]
  intro q4 hq4
  replace hP := hP.cons hq4
  clear hq4
  refine hR _ _ _ ?_; clear hR R
  refine seqX_hide2 fun R hR => ?_
  simp [go_sem, hcz, hco, z1, z2, z3, z4]
  intro q8 hq8
  replace hP := hP.cons hq8
  clear hq8
  have d84 : q8 ≠ q4 := (hP.ne q4 (by simp [addrs])).1
  have d48 : q4 ≠ q8 := (hP.ne q4 (by simp [addrs])).2
  refine hR _ _ _ ?_; clear hR R
  refine seqX_hide2 fun R hR => ?_
  simp [go_sem, hcz, hco, z1, z2, z3, z4, d84, d48]
  intro q9 hq9
  replace hP := hP.cons hq9
  clear hq9
  have d98 : q9 ≠ q8 := (hP.ne q8 (by simp [addrs])).1
  have d89 : q8 ≠ q9 := (hP.ne q8 (by simp [addrs])).2
  have d94 : q9 ≠ q4 := (hP.ne q4 (by simp [addrs])).1
  have d49 : q4 ≠ q9 := (hP.ne q4 (by simp [addrs])).2
  refine hR _ _ _ ?_; clear hR R
  refine seqX_hide2 fun R hR => ?_
  simp [go_sem, hcz, hco, z1, z2, z3, z4, d84, d48, d98, d89, d94, d49]
  intro q10 hq10
  replace hP := hP.cons hq10
  clear hq10
  have d109 : q10 ≠ q9 := (hP.ne q9 (by simp [addrs])).1
  have d910 : q9 ≠ q10 := (hP.ne q9 (by simp [addrs])).2
  have d108 : q10 ≠ q8 := (hP.ne q8 (by simp [addrs])).1
  have d810 : q8 ≠ q10 := (hP.ne q8 (by simp [addrs])).2
  have d104 : q10 ≠ q4 := (hP.ne q4 (by simp [addrs])).1
  have d410 : q4 ≠ q10 := (hP.ne q4 (by simp [addrs])).2
  refine hR _ _ _ ?_; clear hR R
  rw [seqX_nil]
  refine hK _ _ _ ?_; clear hK K
  refine hN1 _ _ _ ?_
  refine xc_two fun N2 hN2 => ?_
  refine xc_reg2 fun K hK => ?_
  simp only [rall, rsl, gres]
  (refine seqX_hide2 fun R hR => ?_; simp [go_sem, hcz, hco, z1, z2, z3, z4, d84, d48, d98, d89, d94, d49, d109, d910, d108, d810, d104, d410]; refine hR _ _ _ ?_; clear hR R)
  refine seqX_hide2 fun R hR => ?_
  simp [go_sem, hcz, hco, z1, z2, z3, z4, d84, d48, d98, d89, d94, d49, d109, d910, d108, d810, d104, d410, toDefer]
  refine hR _ _ _ ?_; clear hR R
  rw [seqX_nil]
  refine hK _ _ _ ?_; clear hK K
  refine hN2 _ _ _ ?_
  refine xc_two fun N3 hN3 => ?_
  refine xc_reg2 fun K hK => ?_
  simp only [rall, rsl, gres]
  (refine seqX_hide2 fun R hR => ?_; simp [go_sem, hcz, hco, z1, z2, z3, z4, d84, d48, d98, d89, d94, d49, d109, d910, d108, d810, d104, d410]; refine hR _ _ _ ?_; clear hR R)
  refine seqX_hide2 fun R hR => ?_
  simp [go_sem, hcz, hco, z1, z2, z3, z4, d84, d48, d98, d89, d94, d49, d109, d910, d108, d810, d104, d410]
  refine call_ov hP (rooted23 A t lv c hc hpt hnd hlv) ?_
  clear hP
  rintro _ A2 ⟨q, rfl, hq, hA2⟩ hP
  refine hR _ _ _ ?_; clear hR R
  iterate 5 (refine seqX_hide2 fun R hR => ?_; simp [go_sem, hcz, hco, z1, z2, z3, z4, d84, d48, d98, d89, d94, d49, d109, d910, d108, d810, d104, d410]; refine hR _ _ _ ?_; clear hR R)
  rw [seqX_nil]
  refine hK _ _ _ ?_; clear hK K
  refine hN3 _ _ _ ?_
  refine xc_two fun N4 hN4 => ?_
  refine xc_two fun N5 hN5 => ?_
  refine xc_reg2 fun K hK => ?_
  simp only [rall, rsl, gres]
  iterate 12 (refine seqX_hide2 fun R hR => ?_; simp [go_sem, hcz, hco, z1, z2, z3, z4, d84, d48, d98, d89, d94, d49, d109, d910, d108, d810, d104, d410]; refine hR _ _ _ ?_; clear hR R)
  rw [seqX_nil]
  refine hK _ _ _ ?_; clear hK K
  refine hN5 _ _ _ ?_
  refine xc_iffalse (by simp [go_sem, hcz, hco, z1, z2, z3, z4, d84, d48, d98, d89, d94, d49, d109, d910, d108, d810, d104, d410]) ?_
  refine hN4 _ _ _ ?_
  refine xc_two fun N6 hN6 => ?_
  refine xc_reg2 fun K hK => ?_
  simp only [rall, rsl, gres]
  (refine seqX_hide2 fun R hR => ?_; simp [go_sem, hcz, hco, z1, z2, z3, z4, d84, d48, d98, d89, d94, d49, d109, d910, d108, d810, d104, d410]; refine hR _ _ _ ?_; clear hR R)
  refine seqX_hide2 fun R hR => ?_
  simp [go_sem, hcz, hco, z1, z2, z3, z4, d84, d48, d98, d89, d94, d49, d109, d910, d108, d810, d104, d410]
  intro q36 hq36
  replace hP := hP.cons hq36
  clear hq36
  have d3610 : q36 ≠ q10 := (hP.ne q10 (by simp [addrs])).1
  have d1036 : q10 ≠ q36 := (hP.ne q10 (by simp [addrs])).2
  have d369 : q36 ≠ q9 := (hP.ne q9 (by simp [addrs])).1
  have d936 : q9 ≠ q36 := (hP.ne q9 (by simp [addrs])).2
  have d368 : q36 ≠ q8 := (hP.ne q8 (by simp [addrs])).1
  have d836 : q8 ≠ q36 := (hP.ne q8 (by simp [addrs])).2
  have d364 : q36 ≠ q4 := (hP.ne q4 (by simp [addrs])).1
  have d436 : q4 ≠ q36 := (hP.ne q4 (by simp [addrs])).2
  refine hR _ _ _ ?_; clear hR R
  (refine seqX_hide2 fun R hR => ?_; simp [go_sem, hcz, hco, z1, z2, z3, z4, d84, d48, d98, d89, d94, d49, d109, d910, d108, d810, d104, d410, d3610, d1036, d369, d936, d368, d836, d364, d436]; refine hR _ _ _ ?_; clear hR R)
  refine seqX_hide2 fun R hR => ?_
  simp [go_sem, hcz, hco, z1, z2, z3, z4, d84, d48, d98, d89, d94, d49, d109, d910, d108, d810, d104, d410, d3610, d1036, d369, d936, d368, d836, d364, d436]
  obtain ⟨eq36, hPn, nq36⟩ := sinkI (A := A2) (L := [(q36, .cells #[] 9 (0, 0)), (q10, .cells #[.int .i64 0] 3 (0, 0)), (q9, .cells #[.slice none 0 0] 22 (0, 0)), (q8, .cells (trc 0 0 ⟨#[]⟩ ⟨#[]⟩ ⟨#[]⟩ ⟨#[]⟩ ⟨#[]⟩ ⟨#[]⟩ 0 0 0 (.slice none 0 0)) 24 (0, 0)), (q4, .cells c 24 (0, 0))]) 0 hP rfl
  rw [eq36]
  clear eq36 hP; have hP := hPn; clear hPn
  simp only [List.eraseIdx_cons_zero, List.eraseIdx_cons_succ, addrs_cons, addrs_nil] at hP ⊢
  have lq36 : A2 ≤ A2.set q36 (.cells #[] 9 (0, 0)) := le_set nq36
  have hOt := own_emptyk nq36 9 1
  generalize A2.set q36 (.cells #[] 9 (0, 0)) = D0 at hP hOt lq36 ⊢
  refine append_ov (cs := ks.map .string) (m := ks.length) hP ti47 ti47 (fun k => by simp) ti9 rfl (by decide) hOt lq36 ?_ (by simp [isStr]) (fun v hv => by obtain ⟨s, _, rfl⟩ := List.mem_map.1 hv; rfl) (by omega) ?_
  · refine appended_row (hks.le (View.le_trans hA2 (View.le_trans lq36 ?_)))
    exact le_ov hP
  clear hP
  rintro v1 D1 hD1 hO1 - hP
  simp only [addrs_cons, addrs_nil] at hP
  rw [Nat.zero_add, List.nil_append] at hO1
  obtain ⟨ub, uc, rfl⟩ := hO1.shape
  refine hR _ _ _ ?_; clear hR R
  refine seqX_hide2 fun R hR => ?_
  simp [go_sem, hcz, hco, z1, z2, z3, z4, d84, d48, d98, d89, d94, d49, d109, d910, d108, d810, d104, d410, d3610, d1036, d369, d936, d368, d836, d364, d436]
  intro q39 hq39
  replace hP := hP.cons hq39
  clear hq39
  have d3910 : q39 ≠ q10 := (hP.ne q10 (by simp [addrs])).1
  have d1039 : q10 ≠ q39 := (hP.ne q10 (by simp [addrs])).2
  have d399 : q39 ≠ q9 := (hP.ne q9 (by simp [addrs])).1
  have d939 : q9 ≠ q39 := (hP.ne q9 (by simp [addrs])).2
  have d398 : q39 ≠ q8 := (hP.ne q8 (by simp [addrs])).1
  have d839 : q8 ≠ q39 := (hP.ne q8 (by simp [addrs])).2
  have d394 : q39 ≠ q4 := (hP.ne q4 (by simp [addrs])).1
  have d439 : q4 ≠ q39 := (hP.ne q4 (by simp [addrs])).2
  refine hR _ _ _ ?_; clear hR R
  (refine seqX_hide2 fun R hR => ?_; simp [go_sem, hcz, hco, z1, z2, z3, z4, d84, d48, d98, d89, d94, d49, d109, d910, d108, d810, d104, d410, d3610, d1036, d369, d936, d368, d836, d364, d436, d3910, d1039, d399, d939, d398, d839, d394, d439]; refine hR _ _ _ ?_; clear hR R)
  refine seqX_hide2 fun R hR => ?_
  simp [go_sem, hcz, hco, z1, z2, z3, z4, d84, d48, d98, d89, d94, d49, d109, d910, d108, d810, d104, d410, d3610, d1036, d369, d936, d368, d836, d364, d436, d3910, d1039, d399, d939, d398, d839, d394, d439]
  obtain ⟨eq39, hPn, nq39⟩ := sinkI (A := D1) (L := [(q39, .cells #[] 9 (0, 0)), (q10, .cells #[.int .i64 0] 3 (0, 0)), (q9, .cells #[.slice none 0 0] 22 (0, 0)), (q8, .cells (trc 0 0 ⟨#[]⟩ ⟨#[]⟩ ⟨#[]⟩ ⟨#[]⟩ ⟨#[]⟩ ⟨#[]⟩ 0 0 0 (.slice none 0 0)) 24 (0, 0)), (q4, .cells c 24 (0, 0))]) 0 hP rfl
  rw [eq39]
  clear eq39 hP; have hP := hPn; clear hPn
  simp only [List.eraseIdx_cons_zero, List.eraseIdx_cons_succ, addrs_cons, addrs_nil] at hP ⊢
  have lq39 : D1 ≤ D1.set q39 (.cells #[] 9 (0, 0)) := le_set nq39
  have hOs := own_emptyk nq39 9 1
  generalize D1.set q39 (.cells #[] 9 (0, 0)) = D9 at hP hOs lq39 ⊢
  refine append_ov (cs := vs.map .string) (m := vs.length) hP ti47 ti47 (fun k => by simp) ti9 rfl (by decide) hOs lq39 ?_ (by simp [isStr]) (fun v hv => by obtain ⟨s, _, rfl⟩ := List.mem_map.1 hv; rfl) (by omega) ?_
  · refine appended_row (hvs.le (View.le_trans hA2 (View.le_trans hD1 (View.le_trans lq39 ?_))))
    exact le_ov hP
  clear hP
  rintro v2 D2 hD12 hO2 - hP
  simp only [addrs_cons, addrs_nil] at hP
  rw [Nat.zero_add, List.nil_append] at hO2
  obtain ⟨xb, xc, rfl⟩ := hO2.shape
  have hu1 : Texts D2 (.slice ub ks.length uc) ks := hO1.row.le hD12
  have hu2 : Texts D2 (.slice xb vs.length xc) vs := hO2.row
  have hD2 : A2 ≤ D2 := View.le_trans hD1 hD12
  refine hR _ _ _ ?_; clear hR R
  iterate 3 (refine seqX_hide2 fun R hR => ?_; simp [go_sem, hcz, hco, z1, z2, z3, z4, d84, d48, d98, d89, d94, d49, d109, d910, d108, d810, d104, d410, d3610, d1036, d369, d936, d368, d836, d364, d436, d3910, d1039, d399, d939, d398, d839, d394, d439]; refine hR _ _ _ ?_; clear hR R)
  refine seqX_hide2 fun R hR => ?_
  simp [go_sem, hcz, hco, z1, z2, z3, z4, d84, d48, d98, d89, d94, d49, d109, d910, d108, d810, d104, d410, d3610, d1036, d369, d936, d368, d836, d364, d436, d3910, d1039, d399, d939, d398, d839, d394, d439]
  intro q45 hq45
  replace hP := hP.cons hq45
  clear hq45
  have d4510 : q45 ≠ q10 := (hP.ne q10 (by simp [addrs])).1
  have d1045 : q10 ≠ q45 := (hP.ne q10 (by simp [addrs])).2
  have d459 : q45 ≠ q9 := (hP.ne q9 (by simp [addrs])).1
  have d945 : q9 ≠ q45 := (hP.ne q9 (by simp [addrs])).2
  have d458 : q45 ≠ q8 := (hP.ne q8 (by simp [addrs])).1
  have d845 : q8 ≠ q45 := (hP.ne q8 (by simp [addrs])).2
  have d454 : q45 ≠ q4 := (hP.ne q4 (by simp [addrs])).1
  have d445 : q4 ≠ q45 := (hP.ne q4 (by simp [addrs])).2
  refine hR _ _ _ ?_; clear hR R
  refine seqX_hide2 fun R hR => ?_
  simp [go_sem, hcz, hco, z1, z2, z3, z4, d84, d48, d98, d89, d94, d49, d109, d910, d108, d810, d104, d410, d3610, d1036, d369, d936, d368, d836, d364, d436, d3910, d1039, d399, d939, d398, d839, d394, d439, d4510, d1045, d459, d945, d458, d845, d454, d445]
  obtain ⟨eq45, hPn, nq45⟩ := sinkI (A := D2) (L := [(q45, .cells #[.iface 95 (.agg #[.string ⟨#[]⟩, .slice ub ks.length uc, .slice xb vs.length xc, .pointer none, .bool false])] 116 (0, 0)), (q10, .cells #[.int .i64 0] 3 (0, 0)), (q9, .cells #[.slice none 0 0] 22 (0, 0)), (q8, .cells (trc 0 0 ⟨#[]⟩ ⟨#[]⟩ ⟨#[]⟩ ⟨#[]⟩ ⟨#[]⟩ ⟨#[]⟩ 0 0 0 (.slice none 0 0)) 24 (0, 0)), (q4, .cells c 24 (0, 0))]) 0 hP rfl
  rw [eq45]
  clear eq45 hP; have hP := hPn; clear hPn
  simp only [List.eraseIdx_cons_zero, List.eraseIdx_cons_succ, addrs_cons, addrs_nil] at hP ⊢
  have lq : D2 ≤ D2.set q45 (.cells #[.iface 95 (.agg #[.string ⟨#[]⟩, .slice ub ks.length uc, .slice xb vs.length xc, .pointer none, .bool false])] 116 (0, 0)) := le_set nq45
  have hrow : Row (D2.set q45 (.cells #[.iface 95 (.agg #[.string ⟨#[]⟩, .slice ub ks.length uc, .slice xb vs.length xc, .pointer none, .bool false])] 116 (0, 0))) 1 (.slice (some ⟨q45, 0, none⟩) 1 1) 1 [.iface 95 (.agg #[.string ⟨#[]⟩, .slice ub ks.length uc, .slice xb vs.length xc, .pointer none, .bool false])] := .inl ⟨_, 1, rfl, cells_block (set_at _ _ _) rfl⟩
  generalize D2.set q45 (.cells #[.iface 95 (.agg #[.string ⟨#[]⟩, .slice ub ks.length uc, .slice xb vs.length xc, .pointer none, .bool false])] 116 (0, 0)) = A4 at hP lq hrow ⊢
  have h24 : A2 ≤ A4 := View.le_trans hD2 lq
  have hq4 : IsRn A4 t q := hq.le h24
  have hq5 := hq4
  obtain ⟨p, hqc, hy⟩ := hq5
  have hfind : ∀ x, t.kids.find? (fitK ks vs) = some x → NT x ∧ nds x ≤ 1000000 := fun x hx => by
    have hm := List.mem_of_find?_eq_some hx
    exact ⟨(hpt.kid hm).nt, by have := nds_kid' hm; omega⟩
  obtain ⟨k, st, tag, val, an, h, l, f, row, col, al, kids, hte⟩ := t.ex
  have hy2 := hy
  rw [hte] at hy2
  obtain ⟨cv, ps, hp, -, -, -⟩ := hy2.open
  have hk1 : k ≠ 1 := by rw [hte] at hk; have : k = 2 := hk; omega
  refine call_ov hP (pipe1 A4 q p 95 144 (.agg #[.string ⟨#[]⟩, .slice ub ks.length uc, .slice xb vs.length xc, .pointer none, .bool false]) (.slice (some ⟨q45, 0, none⟩) 1 1) k st tag val an cv h l f row col hqc hp hk1 meth_em (by kernel_rfl) hrow (fun x A' => RP (t.kids.find? (fitK ks vs)) x A' ∧ A4 ≤ A') (filter144 A4 t q _ _ ks vs hq4 hk ht (hu1.le lq) (hu2.le lq) hl h0 h5 hkn hkl hkk)) ?_
  clear hP
  rintro _ A5 ⟨x, rfl, hx, hA5⟩ hP
  have hq6 := hq4.le hA5
  refine hR _ _ _ ?_; clear hR R
  iterate 5 (refine seqX_hide2 fun R hR => ?_; simp [go_sem, hcz, hco, z1, z2, z3, z4, d84, d48, d98, d89, d94, d49, d109, d910, d108, d810, d104, d410, d3610, d1036, d369, d936, d368, d836, d364, d436, d3910, d1039, d399, d939, d398, d839, d394, d439, d4510, d1045, d459, d945, d458, d845, d454, d445]; refine hR _ _ _ ?_; clear hR R)
  rw [seqX_nil]
  refine hK _ _ _ ?_; clear hK K
  refine hN6 _ _ _ ?_
  refine xc_two fun N7 hN7 => ?_
  refine xc_two fun N8 hN8 => ?_
  refine xc_reg2 fun K hK => ?_
  simp only [rall, rsl, gres]
  iterate 2 (refine seqX_hide2 fun R hR => ?_; simp [go_sem, hcz, hco, z1, z2, z3, z4, d84, d48, d98, d89, d94, d49, d109, d910, d108, d810, d104, d410, d3610, d1036, d369, d936, d368, d836, d364, d436, d3910, d1039, d399, d939, d398, d839, d394, d439, d4510, d1045, d459, d945, d458, d845, d454, d445]; refine hR _ _ _ ?_; clear hR R)
  rw [seqX_nil]
  refine hK _ _ _ ?_; clear hK K
  refine hN8 _ _ _ ?_
  refine xc_iffalse (by simp [go_sem, hcz, hco, z1, z2, z3, z4, d84, d48, d98, d89, d94, d49, d109, d910, d108, d810, d104, d410, d3610, d1036, d369, d936, d368, d836, d364, d436, d3910, d1039, d399, d939, d398, d839, d394, d439, d4510, d1045, d459, d945, d458, d845, d454, d445]) ?_
  refine hN7 _ _ _ ?_
  refine xc_two fun N9 hN9 => ?_
  refine xc_reg2 fun K hK => ?_
  simp only [rall, rsl, gres]
  (refine seqX_hide2 fun R hR => ?_; simp [go_sem, hcz, hco, z1, z2, z3, z4, d84, d48, d98, d89, d94, d49, d109, d910, d108, d810, d104, d410, d3610, d1036, d369, d936, d368, d836, d364, d436, d3910, d1039, d399, d939, d398, d839, d394, d439, d4510, d1045, d459, d945, d458, d845, d454, d445]; refine hR _ _ _ ?_; clear hR R)
  refine seqX_hide2 fun R hR => ?_
  simp [go_sem, hcz, hco, z1, z2, z3, z4, d84, d48, d98, d89, d94, d49, d109, d910, d108, d810, d104, d410, d3610, d1036, d369, d936, d368, d836, d364, d436, d3910, d1039, d399, d939, d398, d839, d394, d439, d4510, d1045, d459, d945, d458, d845, d454, d445]
  refine call_ov hP (treeOf28 A5 _ q hq6 hpt.nt (by omega)) ?_
  clear hP
  rintro _ A6 ⟨c1, rfl, hc1, hA6⟩ hP
  have hcz1 := hc1.size
  have hco1 := hc1.ones
  refine hR _ _ _ ?_; clear hR R
  (refine seqX_hide2 fun R hR => ?_; simp [go_sem, hcz, hco, z1, z2, z3, z4, d84, d48, d98, d89, d94, d49, d109, d910, d108, d810, d104, d410, d3610, d1036, d369, d936, d368, d836, d364, d436, d3910, d1039, d399, d939, d398, d839, d394, d439, d4510, d1045, d459, d945, d458, d845, d454, d445, hcz1, hco1]; refine hR _ _ _ ?_; clear hR R)
  refine seqX_hide2 fun R hR => ?_
  simp [go_sem, hcz, hco, z1, z2, z3, z4, d84, d48, d98, d89, d94, d49, d109, d910, d108, d810, d104, d410, d3610, d1036, d369, d936, d368, d836, d364, d436, d3910, d1039, d399, d939, d398, d839, d394, d439, d4510, d1045, d459, d945, d458, d845, d454, d445, hcz1, hco1]
  refine call_ov hP (found51 A6 (t.kids.find? (fitK ks vs)) _ (hx.le hA6) hfind) ?_
  clear hP
  rintro fv A7 ⟨hfv, hA7⟩ hP
  have hfs := hfv.slice
  obtain ⟨fb, fc, rfl⟩ := hfs
  have hidle : Idle Try.prog { target := .fn (.func 63) #[.pointer (some ⟨q8, 0, none⟩), .pointer (some ⟨q9, 0, none⟩), .pointer (some ⟨q10, 0, none⟩)], args := #[] } := by
    intro w'
    exact ⟨_, _, 63, #[.pointer (some ⟨q8, 0, none⟩), .pointer (some ⟨q9, 0, none⟩), .pointer (some ⟨q10, 0, none⟩)], rfl, by simp [go_sem, invoke], caught63 _ _ _ _⟩
  refine hR _ _ _ ?_; clear hR R
  refine seqX_hide2 fun R hR => ?_
  simp [go_sem, hcz, hco, z1, z2, z3, z4, d84, d48, d98, d89, d94, d49, d109, d910, d108, d810, d104, d410, d3610, d1036, d369, d936, d368, d836, d364, d436, d3910, d1039, d399, d939, d398, d839, d394, d439, d4510, d1045, d459, d945, d458, d845, d454, d445, hcz1, hco1]
  refine hR _ _ _ ?_; clear hR R
  refine seqX_hide2 fun R hR => ?_
  simp [go_sem, hcz, hco, z1, z2, z3, z4, d84, d48, d98, d89, d94, d49, d109, d910, d108, d810, d104, d410, d3610, d1036, d369, d936, d368, d836, d364, d436, d3910, d1039, d399, d939, d398, d839, d394, d439, d4510, d1045, d459, d945, d458, d845, d454, d445, hcz1, hco1]
  refine hR _ _ _ ?_; clear hR R
  refine seqX_hide2 fun R hR => ?_
  simp [go_sem, hcz, hco, z1, z2, z3, z4, d84, d48, d98, d89, d94, d49, d109, d910, d108, d810, d104, d410, d3610, d1036, d369, d936, d368, d836, d364, d436, d3910, d1039, d399, d939, d398, d839, d394, d439, d4510, d1045, d459, d945, d458, d845, d454, d445, hcz1, hco1]
  refine hR _ _ _ ?_; clear hR R
  rw [seqX_nil]
  refine hK _ _ _ ?_; clear hK K
  refine hN9 _ _ _ ?_
  simp [go_sem, hcz, hco, z1, z2, z3, z4, d84, d48, d98, d89, d94, d49, d109, d910, d108, d810, d104, d410, d3610, d1036, d369, d936, d368, d836, d364, d436, d3910, d1039, d399, d939, d398, d839, d394, d439, d4510, d1045, d459, d945, d458, d845, d454, d445, hcz1, hco1]
  refine ⟨hidle, c1, _, ⟨rfl, rfl⟩, hc1.le ?_, hfv.le ?_, View.le_trans hA2 (View.le_trans h24 (View.le_trans hA5 (View.le_trans hA6 (View.le_trans hA7 ?_))))⟩
  · refine View.le_trans hA7 ?_
    exact le_ov hP
  · exact le_ov hP
  · exact le_ov hP
end Go.Proofs.YtpinamipjddobaaV

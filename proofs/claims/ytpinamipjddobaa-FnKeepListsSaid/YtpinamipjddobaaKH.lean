/- Trees: impl.counted, rooted. -/
import Derived.Test.YtpinamipjddobaaKG
namespace Go.Proofs.YtpinamipjddobaaV
open Go.RowKit
set_option linter.unusedSimpArgs false
set_option linter.unusedVariables false
theorem one_cells' {u : Value} (h : one u = true) : u.cells = #[u] := by
  cases u <;> simp [one, Value.cells] at h ⊢
theorem xstore_ownL {L : List (Nat × Obj)} {P : Program} {t : TypeId} {k : TK} {b : Nat} {z : Option Value} {A0 A : View} {e : TypeId} {n i : Nat} {v u : Value} {cs : List Value} (ht : tinfo P t = some ⟨k, 1, b, z⟩) (h : Own A0 A e 1 v n cs) (hi : i < n) (hu : one u = true) (hP : Priv A (addrs L)) :
    ∃ a cap A', v = .slice (some a) n cap ∧ xstore P t (.pointer (some (a.add i))) u (ov A L) = some (ov A' L) ∧ Own A0 A' e 1 v n (cs.set i u) ∧ eraseB A' v = eraseB A v ∧ Priv A' (addrs L) := by
  obtain ⟨h1, ⟨rfl, rfl⟩ | ⟨a, cap, rfl, h2⟩⟩ := h
  · omega
  obtain ⟨c, h3, h4, h5, h6, h7⟩ := sliceIn_block h1
  have hcl := cells?_length _ _ _ h7
  rw [Nat.mul_one] at h6 hcl
  have hs : storeAll (ov A L) (a.add i) 0 [u] = some ((ov A L).set (a.add i).block (.cells (splice c ((a.add i).off + 0) [u]) e (0, 0))) :=
    storeAll_block [u] (ov A L) (a.add i) 0 c (by rw [add_block]; exact ov_base hP h3) (add_spot a i h4) (by rw [add_off]; simp; omega) (by simpa using hu)
  rw [add_block, add_off] at hs
  obtain ⟨o1, o2⟩ := ov_set_base hP (o' := .cells (splice c (a.off + i + 0) [u]) e (0, 0)) h3
  rw [o1] at hs
  refine ⟨a, cap, A.set a.block (.cells (splice c (a.off + i + 0) [u]) e (0, 0)), rfl, ?_, ⟨?_, .inr ⟨_, _, rfl, h2⟩⟩, ?_, o2⟩
  · simp only [xstore, ht, one_cells' hu]
    rw [if_pos (by rfl)]
    exact hs
  · have hsp : splice c (a.off + i + 0) [u] = c.setIfInBounds (a.off + i) u := by simp [splice]
    rw [hsp]
    simp only [sliceIn, set_at]
    rw [if_pos ⟨trivial, h4, h5, by simpa using h6⟩]
    refine cells?_intro _ _ _ (by simp [hcl]) fun j hj => ?_
    rw [Nat.mul_one] at hj
    unfold View.cell?
    rw [add_block, set_at]
    simp only [add_spot a (0 + j) h4, Option.isSome_none, Bool.false_eq_true, if_false]
    rw [add_off, Nat.zero_add]
    have hg := cells?_get _ _ _ h7 j (by omega)
    unfold View.cell? at hg
    rw [add_block, h3] at hg
    simp only [add_spot a (0 + j) h4, Option.isSome_none, Bool.false_eq_true, if_false] at hg
    rw [add_off, Nat.zero_add] at hg
    by_cases hij : i = j
    · subst hij
      rw [List.getElem?_set_self (by omega), Array.getElem?_setIfInBounds_self, if_pos (by omega)]
    · rw [List.getElem?_set_ne hij, Array.getElem?_setIfInBounds_ne (by omega)]
      exact hg
  · funext b
    simp only [eraseB, View.erase, View.set]
    split <;> rfl

/-- What counted counts in: the number of nodes so far, of aliases none, and where the nodes end. -/
structure Cnt (A0 D : View) (ma mb me : Nat) (n : Nat) (ev : Value) (cs : List Value) : Prop where
  low : A0 ≤ eraseB D ev
  na : A0 ma = none
  ne : A0 me = none
  da : D ma = some (.cells #[.int .i64 (n : Int)] 3 (0, 0))
  de : D me = some (.cells #[ev] 104 (0, 0))
  own : Own (eraseB D ev) D 3 1 ev n cs
  xa : blockOf ev ≠ some ma
  xe : blockOf ev ≠ some me
  ae : ma ≠ me
theorem eraseB_set {D : View} {ev : Value} {m : Nat} {o : Obj} (h : blockOf ev ≠ some m) : eraseB (D.set m o) ev = (eraseB D ev).set m o := by
  funext b
  by_cases hb : blockOf ev = some b
  · have hm : b ≠ m := fun hx => h (hx ▸ hb)
    rw [set_other hm]
    cases h1 : eraseB (D.set m o) ev b with
    | some o' => exact absurd hb (eraseB_some h1).1
    | none =>
      cases h2 : eraseB D ev b with
      | some o' => exact absurd hb (eraseB_some h2).1
      | none => rfl
  · rw [eraseB_apart hb]
    by_cases hm : b = m
    · subst hm; rw [set_at, set_at]
    · rw [set_other hm, set_other hm, eraseB_apart hb]
theorem Own.set {D0 D : View} {e : TypeId} {n : Nat} {ev : Value} {cs : List Value} {m : Nat} {o : Obj} (h : Own D0 D e 1 ev n cs) (hm : blockOf ev ≠ some m) : Own (eraseB (D.set m o) ev) (D.set m o) e 1 ev n cs := by
  refine own_rebase (own_move (D' := D0) h fun k ob h1 h2 h3 => ⟨h1, ?_⟩)
  rw [set_other (fun hx => hm (by rw [← hx]; exact h2))]
  exact h3
/-- A variable is set that lies beneath. -/
theorem cstore {D : View} {L : List (Nat × Obj)} (hP : Priv D (addrs L)) {t e : TypeId} {k : TK} {y : Nat} {z : Option Value} {m : Nat} {w u : Value} (ht : tinfo Try.prog t = some ⟨k, 1, y, z⟩) (hD : D m = some (.cells #[w] e (0, 0))) (hu : one u = true) :
    stB Try.prog t (.pointer (some ⟨m, 0, none⟩)) u D L = some (ov (D.set m (.cells #[u] e (0, 0))) L) ∧ Priv (D.set m (.cells #[u] e (0, 0))) (addrs L) := by
  obtain ⟨e1, e2⟩ := ov_set_base hP (o' := .cells #[u] e (0, 0)) hD
  refine ⟨?_, e2⟩
  unfold stB
  rw [xstore_field (P := Try.prog) (t := t) ht (ov_base hP hD) (by simp) hu, ← e1]
  rfl
theorem own_ne {D0 D : View} {e : TypeId} {size n : Nat} {v : Value} {cs : List Value} (h : Own D0 D e size v n cs) {b : Nat} (hb : D0 b ≠ none) : blockOf v ≠ some b := by
  rcases h.2 with ⟨rfl, -⟩ | ⟨a, cap, rfl, hn⟩
  · simp [blockOf]
  · intro hx
    simp only [blockOf, Option.some.injEq] at hx
    rw [hx] at hn
    exact hb hn
theorem le_set0 {A B : View} (h : A ≤ B) {b : Nat} {o : Obj} (hb : A b = none) : A ≤ B.set b o := fun k ob hk => by
  rw [set_other (fun hx => by rw [hx, hb] at hk; cases hk)]
  exact h _ _ hk
theorem Cnt.le {A0 D D' : View} {ma mb me n : Nat} {ev : Value} {cs : List Value} (h : Cnt A0 D ma mb me n ev cs) (hle : D ≤ D') : Cnt A0 D' ma mb me n ev cs :=
  ⟨View.le_trans h.low (eraseB_mono hle ev), h.na, h.ne, hle _ _ h.da, hle _ _ h.de, own_rebase (h.own.le hle), h.xa, h.xe, h.ae⟩
set_option maxRecDepth 20000 in
set_option maxHeartbeats 16000000 in
theorem counted32 (t : Tr) : ∀ (lv : Nat) (d : Nat) (A0 A : View) (c : Array Value) (ma mb me n : Nat) (ev : Value) (cs : List Value), IsTr A0 t c → PT lv t → Cnt A0 A ma mb me n ev cs → n + nds t ≤ 400 → d + lv ≤ 40 →
    VCalls Try.prog 72 #[.agg c, .int .i64 d, ptr0 ma, ptr0 mb, ptr0 me] A fun r A' => r = .bool true ∧ ∃ ev' cs', Cnt A0 A' ma mb me (n + nds t) ev' cs' := by
  induction hsz : SizeOf.sizeOf t using Nat.strongRecOn generalizing t with
  | _ N0 ih =>
  intro lv d A0 A c ma mb me n ev cs hc hpl hC hn hd
  subst hsz
  obtain ⟨k, st, tag, val, an, h, l, f, row, col, al, kids⟩ := t
  have ihk : ∀ x ∈ kids, ∀ (lv : Nat) (d : Nat) (A0 A : View) (c : Array Value) (ma mb me n : Nat) (ev : Value) (cs : List Value), IsTr A0 x c → PT lv x → Cnt A0 A ma mb me n ev cs → n + nds x ≤ 400 → d + lv ≤ 40 →
    VCalls Try.prog 72 #[.agg c, .int .i64 d, ptr0 ma, ptr0 mb, ptr0 me] A fun r A' => r = .bool true ∧ ∃ ev' cs', Cnt A0 A' ma mb me (n + nds x) ev' cs' := fun x hx => ih _ (by
      have := List.sizeOf_lt_of_mem hx
      simp
      omega) x rfl
  clear ih
  rw [PT] at hpl
  obtain ⟨hlv, ⟨hst, hal⟩, hkk, hpk⟩ := hpl
  have hk16 : k ≠ 16 := by
    rcases hkk with h | h | h
    · rw [h]; decide
    · rw [h]; decide
    · rw [h]; decide
  have hkb : (k == 16) = false := beq_eq_false_iff_ne.2 hk16
  subst hal
  rw [nds_mk] at hn ⊢
  have hkl := nds_len kids
  have hcz := hc.size
  have hco := hc.ones
  obtain ⟨bs, cap, rfl, hT⟩ := hc.open
  have lA := View.le_trans hC.low (eraseB_le A ev)
  have ca := cell_of (i := 0) hC.da rfl
  have hwn : IntKind.i64.wrap ((n : Int) + 1) = ((n + 1 : Nat) : Int) := by rw [wrap_in (by omega) (by omega)]; omega
  refine xcalls Try.func72 rfl (by simp [Try.ntmps72]) ?_
  simp only [Try.f72]
  have hP : Priv A (addrs []) := Priv.nil A
  show xc _ _ _ _ _ _ (ov A [])
  refine xc_two fun N1 hN1 => ?_
  refine xc_reg2 fun K hK => ?_
  simp only [rall, rsl, gres]
  refine seqX_hide2 fun R hR => ?_
  simp [go_sem, hcz, hco, hkb, hk16, bc hP ca, hwn]
  intro q5 hq5
  replace hP := hP.cons hq5
  clear hq5
  refine hR _ _ _ ?_; clear hR R
  (refine seqX_hide2 fun R hR => ?_; simp [go_sem, hcz, hco, hkb, hk16, bc hP ca, hwn]; refine hR _ _ _ ?_; clear hR R)
  rw [seqX_nil]
  refine hK _ _ _ ?_; clear hK K
  refine hN1 _ _ _ ?_
  refine xc_two fun N2 hN2 => ?_
  refine xc_reg2 fun K hK => ?_
  simp only [rall, rsl, gres]
  iterate 4 (refine seqX_hide2 fun R hR => ?_; simp [go_sem, hcz, hco, hkb, hk16, bc hP ca, hwn]; refine hR _ _ _ ?_; clear hR R)
  rw [seqX_nil]
  refine hK _ _ _ ?_; clear hK K
  refine hN2 _ _ _ ?_
  refine xc_two fun N3 hN3 => ?_
  have n5 : A q5 = none := hP.1
  have hm5 : ma ≠ q5 := fun hx => by have := hC.da; rw [hx, n5] at this; cases this
  have he5 : me ≠ q5 := fun hx => by have := hC.de; rw [hx, n5] at this; cases this
  have hs1 := cstore (L := [(q5, .cells (trc k st tag val an h l f row col (-1) (.slice bs kids.length cap)) 24 (0, 0))]) hP ti3 hC.da (u := .int .i64 ((n : Int) + 1)) rfl
  have hs1a := hs1.1
  refine xc_reg2 fun K hK => ?_
  simp only [rall, rsl, gres]
  iterate 5 (refine seqX_hide2 fun R hR => ?_; simp [go_sem, hcz, hco, hkb, hk16, bc hP ca, hwn, hm5, he5, hs1a]; refine hR _ _ _ ?_; clear hR R)
  refine seqX_hide2 fun R hR => ?_
  simp [go_sem, hcz, hco, hkb, hk16, bc hP ca, hwn, hm5, he5, hs1a]
  refine hR _ _ _ ?_; clear hR R
  rw [seqX_nil]
  refine hK _ _ _ ?_; clear hK K
  refine hN3 _ _ _ ?_
  refine xc_two fun N4 hN4 => ?_
  replace hP := hs1.2
  have hde1 : (A.set ma (.cells #[.int .i64 ((n : Int) + 1)] 3 (0, 0))) me = some (.cells #[ev] 104 (0, 0)) := by rw [set_other (fun hx => hC.ae hx.symm)]; exact hC.de
  have hda1 : (A.set ma (.cells #[.int .i64 ((n : Int) + 1)] 3 (0, 0))) ma = some (.cells #[.int .i64 ((n : Int) + 1)] 3 (0, 0)) := set_at _ _ _
  have hO1 := hC.own.set (o := .cells #[.int .i64 ((n : Int) + 1)] 3 (0, 0)) hC.xa
  have hl1 : A0 ≤ eraseB (A.set ma (.cells #[.int .i64 ((n : Int) + 1)] 3 (0, 0))) ev := by rw [eraseB_set hC.xa]; exact le_set0 hC.low hC.na
  generalize A.set ma (.cells #[.int .i64 ((n : Int) + 1)] 3 (0, 0)) = A1 at hP hde1 hda1 hO1 hl1 ⊢
  have ce := cell_of (i := 0) hde1 rfl
  refine xc_reg2 fun K hK => ?_
  simp only [rall, rsl, gres]
  iterate 4 (refine seqX_hide2 fun R hR => ?_; simp [go_sem, hcz, hco, hkb, hk16, hwn, hm5, he5, bc hP ce]; refine hR _ _ _ ?_; clear hR R)
  refine seqX_hide2 fun R hR => ?_
  simp [go_sem, hcz, hco, hkb, hk16, hwn, hm5, he5, bc hP ce]
  intro q26 hq26
  replace hP := hP.cons hq26
  clear hq26
  have d265 : q26 ≠ q5 := (hP.ne q5 (by simp [addrs])).1
  have d526 : q5 ≠ q26 := (hP.ne q5 (by simp [addrs])).2
  refine hR _ _ _ ?_; clear hR R
  refine seqX_hide2 fun R hR => ?_
  simp [go_sem, hcz, hco, hkb, hk16, hwn, hm5, he5, bc hP ce, d265, d526]
  refine append_ov (cs := [.int .i64 (-1)]) (m := 1) hP ti104 ti104 (fun k => by simp) ti3 rfl (by decide) hO1 (eraseB_le _ _) (by simp [appended, View.cells?, go_sem]) (by simp [isStr]) (fun v hv => by rw [List.mem_singleton] at hv; subst hv; rfl) (by omega) ?_
  clear hP
  rintro v1 D2 h1 hO2 h1e hP
  have hde2 : D2 me = some (.cells #[ev] 104 (0, 0)) := h1 _ _ (by rw [eraseB_apart hC.xe]; exact hde1)
  have hda2 : D2 ma = some (.cells #[.int .i64 ((n : Int) + 1)] 3 (0, 0)) := h1 _ _ (by rw [eraseB_apart hC.xa]; exact hda1)
  have hxe : blockOf v1 ≠ some me := own_ne hO2 (by rw [eraseB_apart hC.xe, hde1]; simp)
  have hxa : blockOf v1 ≠ some ma := own_ne hO2 (by rw [eraseB_apart hC.xa, hda1]; simp)
  obtain ⟨wb, wc, rfl⟩ := hO2.shape
  have hs2 := cstore (L := [(q26, .cells #[.int .i64 (-1)] 3 (0, 0)), (q5, .cells (trc k st tag val an h l f row col (-1) (.slice bs kids.length cap)) 24 (0, 0))]) hP ti104 hde2 (u := .slice wb (n + 1) wc) rfl
  have hs2a := hs2.1
  have hm26 : me ≠ q26 := fun hx => by have := hP.1; rw [← hx, hde2] at this; cases this
  refine hR _ _ _ ?_; clear hR R
  (refine seqX_hide2 fun R hR => ?_; simp [go_sem, hcz, hco, hkb, hk16, hwn, hm5, he5, d265, d526, hs2a, hm26]; refine hR _ _ _ ?_; clear hR R)
  refine seqX_hide2 fun R hR => ?_
  simp [go_sem, hcz, hco, hkb, hk16, hwn, hm5, he5, d265, d526, hs2a, hm26]
  refine hR _ _ _ ?_; clear hR R
  rw [seqX_nil]
  refine hK _ _ _ ?_; clear hK K
  refine hN4 _ _ _ ?_
  refine xc_two fun N5 hN5 => ?_
  refine xc_two fun N6 hN6 => ?_
  replace hP := hs2.2
  have hC3 : Cnt A0 (D2.set me (.cells #[.slice wb (n + 1) wc] 104 (0, 0))) ma mb me (n + 1) (.slice wb (n + 1) wc) (cs ++ [.int .i64 (-1)]) := by
    refine ⟨?_, hC.na, hC.ne, ?_, set_at _ _ _, hO2.set hxe, hxa, hxe, hC.ae⟩
    · rw [eraseB_set hxe]; exact le_set0 (View.le_trans hl1 h1e) hC.ne
    · rw [set_other hC.ae]; exact hda2
  generalize D2.set me (.cells #[.slice wb (n + 1) wc] 104 (0, 0)) = D3 at hP hC3 ⊢
  have hx26 : Priv D3 [q26, q5] := hP
  refine sink_goal 0 hP rfl fun hPn lq26 nq26 => ?_
  clear hP; have hP := hPn; clear hPn
  simp only [List.eraseIdx_cons_zero, List.eraseIdx_cons_succ, addrs_cons, addrs_nil] at hP ⊢
  have hC4 := hC3.le lq26
  generalize D3.set q26 (.cells #[.int .i64 (-1)] 3 (0, 0)) = D4 at hP hC4 ⊢
  have ca4 := cell_of (i := 0) hC4.da rfl
  have e1 : ¬ (400 : Int) < (n : Int) + 1 := by omega
  have e1' : ¬ 400 < n + 1 := by omega
  have e2 : ¬ (40 : Int) < d := by omega
  have e2' : ¬ 40 < d := by omega
  refine xc_reg2 fun K hK => ?_
  simp only [rall, rsl, gres]
  iterate 13 (refine seqX_hide2 fun R hR => ?_; simp [go_sem, hcz, hco, hkb, hk16, hwn, hm5, he5, d265, d526, bc hP ca4, e1, e1', e2, e2']; refine hR _ _ _ ?_; clear hR R)
  rw [seqX_nil]
  refine hK _ _ _ ?_; clear hK K
  refine hN6 _ _ _ ?_
  refine xc_iffalse (by simp [go_sem, hcz, hco, hkb, hk16, hwn, hm5, he5, d265, d526, bc hP ca4, e1, e1', e2, e2']) ?_
  refine hN5 _ _ _ ?_
  refine xc_two fun N7 hN7 => ?_
  refine xc_two fun N8 hN8 => ?_
  refine xc_reg2 fun K hK => ?_
  simp only [rall, rsl, gres]
  iterate 8 (refine seqX_hide2 fun R hR => ?_; simp [go_sem, hcz, hco, hkb, hk16, hwn, hm5, he5, d265, d526, bc hP ca4, e1, e1', e2, e2']; refine hR _ _ _ ?_; clear hR R)
  rw [seqX_nil]
  refine hK _ _ _ ?_; clear hK K
  refine hN8 _ _ _ ?_
  refine xc_iffalse (by simp [go_sem, hcz, hco, hkb, hk16, hwn, hm5, he5, d265, d526, e1, e1', e2, e2']) ?_
  refine hN7 _ _ _ ?_
  refine xc_two fun N9 hN9 => ?_
  refine xc_two fun N10 hN10 => ?_
  refine xc_reg2 fun K hK => ?_
  simp only [rall, rsl, gres]
  iterate 4 (refine seqX_hide2 fun R hR => ?_; simp [go_sem, hcz, hco, hkb, hk16, hwn, hm5, he5, d265, d526, e1, e1', e2, e2']; refine hR _ _ _ ?_; clear hR R)
  rw [seqX_nil]
  refine hK _ _ _ ?_; clear hK K
  refine hN10 _ _ _ ?_
  rw [xc_block]
  rw [xc_loop]
  refine vloopK (fun k' e ds A' => ∃ (i : Nat) (D : View) (m : Nat) (u : Value) (us : List Value), k' = kids.length - i ∧ ds = [] ∧ A' = ov D [(q5, .cells (trc k st tag val an h l f row col (-1) (.slice bs kids.length cap)) 24 (0, 0))] ∧ Priv D [q5] ∧ e 1 = .int .i64 d ∧ e 2 = ptr0 ma ∧ e 3 = ptr0 mb ∧ e 4 = ptr0 me ∧ e 5 = .pointer (some ⟨q5, 0, none⟩) ∧ e 11 = .int .i64 n ∧ e 76 = .slice bs kids.length cap ∧ e 77 = .int .i64 kids.length ∧ e 78 = .int .i64 i ∧ (i ≤ kids.length) ∧ (Cnt A0 D ma mb me m u us) ∧ (m = n + 1 + ((kids.take i).map nds).sum)) _ ⟨0, D4, n + 1, .slice wb (n + 1) wc, cs ++ [.int .i64 (-1)], rfl, rfl, rfl, hP, by simp [go_sem, hcz, hco, hkb, hk16, hwn, hm5, he5, d265, d526, e1, e1', e2, e2'], by simp [go_sem, hcz, hco, hkb, hk16, hwn, hm5, he5, d265, d526, e1, e1', e2, e2'], by simp [go_sem, hcz, hco, hkb, hk16, hwn, hm5, he5, d265, d526, e1, e1', e2, e2'], by simp [go_sem, hcz, hco, hkb, hk16, hwn, hm5, he5, d265, d526, e1, e1', e2, e2'], by simp [go_sem, hcz, hco, hkb, hk16, hwn, hm5, he5, d265, d526, e1, e1', e2, e2'], by simp [go_sem, hcz, hco, hkb, hk16, hwn, hm5, he5, d265, d526, e1, e1', e2, e2'], by simp [go_sem, hcz, hco, hkb, hk16, hwn, hm5, he5, d265, d526, e1, e1', e2, e2'], by simp [go_sem, hcz, hco, hkb, hk16, hwn, hm5, he5, d265, d526, e1, e1', e2, e2'], by simp [go_sem, hcz, hco, hkb, hk16, hwn, hm5, he5, d265, d526, e1, e1', e2, e2'], by omega, hC4, by simp⟩ ?_
  clear hP
  rintro k' e ds _ ⟨i, D, m, u, us, rfl, rfl, rfl, hP, g1, g2, g3, g4, g5, g11, g76, g77, g78, hil, hCi, hmi⟩ J1 X1 hJ1 hX1
  refine xc_sound _ ?_
  have hw1 : IntKind.i64.wrap ((i : Int) + 1) = ((i + 1 : Nat) : Int) := by rw [wrap_in (by omega) (by omega)]; omega
  have hwd : IntKind.i64.wrap ((d : Int) + 1) = ((d + 1 : Nat) : Int) := by rw [wrap_in (by omega) (by omega)]; omega
  by_cases hi : i < kids.length
  rotate_left
  · rw [List.take_of_length_le (by omega)] at hmi
    have hnm : n < m := by omega
    obtain ⟨a, cap', D5, rfl, hx5, hO5, hE5, hP5⟩ := xstore_ownL (L := [(q5, .cells (trc k st tag val an h l f row col (-1) (.slice bs kids.length cap)) 24 (0, 0))]) (t := 3) (u := .int .i64 (m : Int)) (i := n) ti3 hCi.own hnm rfl hP
    have ca5 := cell_of (i := 0) hCi.da rfl
    have ce5 := cell_of (i := 0) hCi.de rfl
    have hnmi : (n : Int) < m := by omega
    have hC5 : Cnt A0 D5 ma mb me m (.slice (some a) m cap') (us.set n (.int .i64 (m : Int))) := by
      refine ⟨by rw [hE5]; exact hCi.low, hCi.na, hCi.ne, ?_, ?_, own_rebase hO5, hCi.xa, hCi.xe, hCi.ae⟩
      · have := congrFun hE5 ma
        rw [eraseB_apart hCi.xa, eraseB_apart hCi.xa, hCi.da] at this
        exact this
      · have := congrFun hE5 me
        rw [eraseB_apart hCi.xe, eraseB_apart hCi.xe, hCi.de] at this
        exact this
    refine xc_two fun N11 hN11 => ?_
    refine xc_reg2 fun K hK => ?_
    simp only [rall, rsl, gres]
    (refine seqX_hide2 fun R hR => ?_; simp [go_sem, hcz, hco, hkb, hk16, hwn, hm5, he5, d265, d526, e1, e1', e2, e2', g1, g2, g3, g4, g5, g11, g76, g77, g78, hi, hnm, hnmi, bc hP ca5, bc hP ce5, xindexAt, hx5]; refine hR _ _ _ ?_; clear hR R)
    rw [seqX_nil]
    refine hK _ _ _ ?_; clear hK K
    refine hN11 _ _ _ ?_
    refine xc_two fun N12 hN12 => ?_
    refine xc_iffalse (by simp [go_sem, hcz, hco, hkb, hk16, hwn, hm5, he5, d265, d526, e1, e1', e2, e2', g1, g2, g3, g4, g5, g11, g76, g77, g78, hi, hnm, hnmi, bc hP ca5, bc hP ce5, xindexAt, hx5]) ?_
    refine hX1 _ _ _ _ ?_
    refine hN9 _ _ _ ?_
    refine xc_two fun N13 hN13 => ?_
    rw [xc_draws]
    refine vdrawK [(0, true), (1, true), (2, true), (3, true), (4, true), (5, true), (6, true), (7, true), (8, false)] (ov D [(q5, .cells (trc k st tag val an h l f row col (-1) (.slice bs kids.length cap)) 24 (0, 0))]) mixed (by kernel_rfl) (View.le_refl _) fun K hK => ?_
    simp only [rsl, gres]
    iterate 8 (refine seqR_hide fun R hR => ?_; simp [go_sem, hcz, hco, hkb, hk16, hwn, hm5, he5, d265, d526, e1, e1', e2, e2', g1, g2, g3, g4, g5, g11, g76, g77, g78, hi, hnm, hnmi, bc hP ca5, bc hP ce5, xindexAt, hx5]; refine hR _ _ _ ?_; clear hR R)
    refine seqR_hide fun R hR => ?_
    simp [go_sem, hcz, hco, hkb, hk16, hwn, hm5, he5, d265, d526, e1, e1', e2, e2', g1, g2, g3, g4, g5, g11, g76, g77, g78, hi, hnm, hnmi, bc hP ca5, bc hP ce5, xindexAt, hx5]
    refine hR _ _ _ ?_; clear hR R
    rw [seqR_nil]
    refine hK _ _ _ ?_; clear hK K
    refine hN13 _ _ _ ?_
    refine xc_two fun N14 hN14 => ?_
    refine xc_reg2 fun K hK => ?_
    simp only [rall, rsl, gres]
    (refine seqX_hide2 fun R hR => ?_; simp [go_sem, hcz, hco, hkb, hk16, hwn, hm5, he5, d265, d526, e1, e1', e2, e2', g1, g2, g3, g4, g5, g11, g76, g77, g78, hi, hnm, hnmi, bc hP ca5, bc hP ce5, xindexAt, hx5]; refine hR _ _ _ ?_; clear hR R)
    rw [seqX_nil]
    refine hK _ _ _ ?_; clear hK K
    refine hN14 _ _ _ ?_
    simp [go_sem, hcz, hco, hkb, hk16, hwn, hm5, he5, d265, d526, e1, e1', e2, e2', g1, g2, g3, g4, g5, g11, g76, g77, g78, hi, hnm, hnmi, bc hP ca5, bc hP ce5, xindexAt, hx5]
    rw [show n + (1 + (kids.map nds).sum) = m by omega]
    exact ⟨_, _, hC5.le (le_ov (L := [(q5, .cells (trc k st tag val an h l f row col (-1) (.slice bs kids.length cap)) 24 (0, 0))]) hP5)⟩
  obtain ⟨bs', cap', f1, hel⟩ := hT
  simp only [Value.slice.injEq, true_and] at f1
  obtain ⟨rfl, rfl⟩ := f1
  obtain ⟨a, ci, rfl, u0, hci0⟩ := hel i hi
  have hx := List.getElem_mem hi
  have htk : kids.take (i + 1) = kids.take i ++ [kids[i]] := List.take_succ_eq_append_getElem hi
  have hsm : ((kids.take (i + 1)).map nds).sum ≤ (kids.map nds).sum := by
    conv => rhs; rw [← List.take_append_drop (i + 1) kids]
    rw [List.map_append, List.sum_append]
    omega
  have hsm2 : ((kids.take (i + 1)).map nds).sum = ((kids.take i).map nds).sum + nds kids[i] := by
    rw [htk, List.map_append, List.sum_append]
    simp
  have lAD := View.le_trans hCi.low (eraseB_le D u)
  have u1 := le_cells lAD _ _ _ u0
  have hcz := hci0.size
  have hco := hci0.ones
  have hii : (i : Int) < kids.length := by omega
  refine xc_two fun N11 hN11 => ?_
  refine xc_reg2 fun K hK => ?_
  simp only [rall, rsl, gres]
  (refine seqX_hide2 fun R hR => ?_; simp [go_sem, hcz, hco, hkb, hk16, hwn, hm5, he5, d265, d526, e1, e1', e2, e2', g1, g2, g3, g4, g5, g11, g76, g77, g78, hi, hii, hw1, hwd, bcs hP u1]; refine hR _ _ _ ?_; clear hR R)
  rw [seqX_nil]
  refine hK _ _ _ ?_; clear hK K
  refine hN11 _ _ _ ?_
  refine xc_two fun N12 hN12 => ?_
  refine xc_iftrue (by simp [go_sem, hcz, hco, hkb, hk16, hwn, hm5, he5, d265, d526, e1, e1', e2, e2', g1, g2, g3, g4, g5, g11, g76, g77, g78, hi, hii, hw1, hwd, bcs hP u1]) ?_
  refine hN12 _ _ _ ?_
  refine xc_two fun N13 hN13 => ?_
  rw [xc_block]
  refine xc_two fun N14 hN14 => ?_
  refine xc_reg2 fun K hK => ?_
  simp only [rall, rsl, gres]
  iterate 2 (refine seqX_hide2 fun R hR => ?_; simp [go_sem, hcz, hco, hkb, hk16, hwn, hm5, he5, d265, d526, e1, e1', e2, e2', g1, g2, g3, g4, g5, g11, g76, g77, g78, hi, hii, hw1, hwd, bcs hP u1]; refine hR _ _ _ ?_; clear hR R)
  refine seqX_hide2 fun R hR => ?_
  simp [go_sem, hcz, hco, hkb, hk16, hwn, hm5, he5, d265, d526, e1, e1', e2, e2', g1, g2, g3, g4, g5, g11, g76, g77, g78, hi, hii, hw1, hwd, bcs hP u1]
  intro q13 hq13
  replace hP := hP.cons hq13
  clear hq13
  have d135 : q13 ≠ q5 := (hP.ne q5 (by simp [addrs])).1
  have d513 : q5 ≠ q13 := (hP.ne q5 (by simp [addrs])).2
  refine hR _ _ _ ?_; clear hR R
  refine seqX_hide2 fun R hR => ?_
  simp [go_sem, hcz, hco, hkb, hk16, hwn, hm5, he5, d265, d526, e1, e1', e2, e2', g1, g2, g3, g4, g5, g11, g76, g77, g78, hi, hii, hw1, hwd, bcs hP u1, d135, d513]
  refine hR _ _ _ ?_; clear hR R
  rw [seqX_nil]
  refine hK _ _ _ ?_; clear hK K
  refine hN14 _ _ _ ?_
  refine xc_two fun N15 hN15 => ?_
  refine xc_reg2 fun K hK => ?_
  simp only [rall, rsl, gres]
  iterate 6 (refine seqX_hide2 fun R hR => ?_; simp [go_sem, hcz, hco, hkb, hk16, hwn, hm5, he5, d265, d526, e1, e1', e2, e2', g1, g2, g3, g4, g5, g11, g76, g77, g78, hi, hii, hw1, hwd, bcs hP u1, d135, d513]; refine hR _ _ _ ?_; clear hR R)
  refine seqX_hide2 fun R hR => ?_
  simp [go_sem, hcz, hco, hkb, hk16, hwn, hm5, he5, d265, d526, e1, e1', e2, e2', g1, g2, g3, g4, g5, g11, g76, g77, g78, hi, hii, hw1, hwd, bcs hP u1, d135, d513]
  refine call_ov hP (ihk _ hx (lv - 1) (d + 1) A0 D ci ma mb me m u us hci0 (hpk i hi) hCi (by omega) (by omega)) ?_
  clear hP
  rintro _ D5 ⟨rfl, u', us', hC5⟩ hP
  refine hR _ _ _ ?_; clear hR R
  (refine seqX_hide2 fun R hR => ?_; simp [go_sem, hcz, hco, hkb, hk16, hwn, hm5, he5, d265, d526, e1, e1', e2, e2', g1, g2, g3, g4, g5, g11, g76, g77, g78, hi, hii, hw1, hwd, d135, d513]; refine hR _ _ _ ?_; clear hR R)
  rw [seqX_nil]
  refine hK _ _ _ ?_; clear hK K
  refine hN15 _ _ _ ?_
  refine xc_iffalse (by simp [go_sem, hcz, hco, hkb, hk16, hwn, hm5, he5, d265, d526, e1, e1', e2, e2', g1, g2, g3, g4, g5, g11, g76, g77, g78, hi, hii, hw1, hwd, d135, d513]) ?_
  refine hN13 _ _ _ ?_
  refine xc_reg2 fun K hK => ?_
  simp only [rall, rsl, gres]
  iterate 2 (refine seqX_hide2 fun R hR => ?_; simp [go_sem, hcz, hco, hkb, hk16, hwn, hm5, he5, d265, d526, e1, e1', e2, e2', g1, g2, g3, g4, g5, g11, g76, g77, g78, hi, hii, hw1, hwd, d135, d513]; refine hR _ _ _ ?_; clear hR R)
  rw [seqX_nil]
  refine hK _ _ _ ?_; clear hK K
  refine sink_goal 0 hP rfl fun hPn lq13 nq13 => ?_
  clear hP; have hP := hPn; clear hPn
  simp only [List.eraseIdx_cons_zero, List.eraseIdx_cons_succ, addrs_cons, addrs_nil] at hP ⊢
  refine hJ1 (kids.length - (i + 1)) _ _ _ (by omega) ⟨i + 1, _, m + nds kids[i], u', us', rfl, rfl, rfl, hP, by simp [go_sem, hcz, hco, hkb, hk16, hwn, hm5, he5, d265, d526, e1, e1', e2, e2', g1, g2, g3, g4, g5, g11, g76, g77, g78, hi, hii, hw1, hwd, d135, d513], by simp [go_sem, hcz, hco, hkb, hk16, hwn, hm5, he5, d265, d526, e1, e1', e2, e2', g1, g2, g3, g4, g5, g11, g76, g77, g78, hi, hii, hw1, hwd, d135, d513], by simp [go_sem, hcz, hco, hkb, hk16, hwn, hm5, he5, d265, d526, e1, e1', e2, e2', g1, g2, g3, g4, g5, g11, g76, g77, g78, hi, hii, hw1, hwd, d135, d513], by simp [go_sem, hcz, hco, hkb, hk16, hwn, hm5, he5, d265, d526, e1, e1', e2, e2', g1, g2, g3, g4, g5, g11, g76, g77, g78, hi, hii, hw1, hwd, d135, d513], by simp [go_sem, hcz, hco, hkb, hk16, hwn, hm5, he5, d265, d526, e1, e1', e2, e2', g1, g2, g3, g4, g5, g11, g76, g77, g78, hi, hii, hw1, hwd, d135, d513], by simp [go_sem, hcz, hco, hkb, hk16, hwn, hm5, he5, d265, d526, e1, e1', e2, e2', g1, g2, g3, g4, g5, g11, g76, g77, g78, hi, hii, hw1, hwd, d135, d513], by simp [go_sem, hcz, hco, hkb, hk16, hwn, hm5, he5, d265, d526, e1, e1', e2, e2', g1, g2, g3, g4, g5, g11, g76, g77, g78, hi, hii, hw1, hwd, d135, d513], by simp [go_sem, hcz, hco, hkb, hk16, hwn, hm5, he5, d265, d526, e1, e1', e2, e2', g1, g2, g3, g4, g5, g11, g76, g77, g78, hi, hii, hw1, hwd, d135, d513], by simp [go_sem, hcz, hco, hkb, hk16, hwn, hm5, he5, d265, d526, e1, e1', e2, e2', g1, g2, g3, g4, g5, g11, g76, g77, g78, hi, hii, hw1, hwd, d135, d513], by omega, hC5.le lq13, by omega⟩
set_option maxRecDepth 20000 in
set_option maxHeartbeats 4000000 in
theorem rootedS (A : View) (t : Tr) (lv : Nat) (c : Array Value) (hc : IsTr A t c) (hpl : PT lv t) (hnd : nds t ≤ 400) (hlv : lv ≤ 40) : VCalls Try.prog 47 #[.agg c] A fun r A' => ∃ q p, r = .tuple #[ptr0 q, .bool true] ∧ A' q = some (.cells #[.slice none 0 0, ptr0 p, .bool false, .slice none 0 0] 111 (0, 0)) ∧ q ≠ p ∧ A q = none ∧ TopY A A' t p := by
  have hcz := hc.size
  have hco := hc.ones
  refine xcalls Try.func47 rfl (by simp [Try.ntmps47]) ?_
  simp only [Try.f47]
  have hP : Priv A (addrs []) := Priv.nil A
  show xc _ _ _ _ _ _ (ov A [])
  refine xc_two fun N1 hN1 => ?_
  refine xc_reg2 fun K hK => ?_
  simp only [rall, rsl, gres]
  refine seqX_hide2 fun R hR => ?_
  simp [go_sem, hcz, hco]
  intro q1 hq1
  replace hP := hP.cons hq1
  clear hq1
  refine hR _ _ _ ?_; clear hR R
  iterate 2 (refine seqX_hide2 fun R hR => ?_; simp [go_sem, hcz, hco]; refine hR _ _ _ ?_; clear hR R)
  rw [seqX_nil]
  refine hK _ _ _ ?_; clear hK K
  refine hN1 _ _ _ ?_
  refine xc_two fun N2 hN2 => ?_
  refine xc_reg2 fun K hK => ?_
  simp only [rall, rsl, gres]
  refine seqX_hide2 fun R hR => ?_
  simp [go_sem, hcz, hco]
  intro q4 hq4
  replace hP := hP.cons hq4
  clear hq4
  have d41 : q4 ≠ q1 := (hP.ne q1 (by simp [addrs])).1
  have d14 : q1 ≠ q4 := (hP.ne q1 (by simp [addrs])).2
  refine hR _ _ _ ?_; clear hR R
  refine seqX_hide2 fun R hR => ?_
  simp [go_sem, hcz, hco, d41, d14]
  intro q5 hq5
  replace hP := hP.cons hq5
  clear hq5
  have d54 : q5 ≠ q4 := (hP.ne q4 (by simp [addrs])).1
  have d45 : q4 ≠ q5 := (hP.ne q4 (by simp [addrs])).2
  have d51 : q5 ≠ q1 := (hP.ne q1 (by simp [addrs])).1
  have d15 : q1 ≠ q5 := (hP.ne q1 (by simp [addrs])).2
  refine hR _ _ _ ?_; clear hR R
  refine seqX_hide2 fun R hR => ?_
  simp [go_sem, hcz, hco, d41, d14, d54, d45, d51, d15]
  refine hR _ _ _ ?_; clear hR R
  refine seqX_hide2 fun R hR => ?_
  simp [go_sem, hcz, hco, d41, d14, d54, d45, d51, d15]
  refine hR _ _ _ ?_; clear hR R
  rw [seqX_nil]
  refine hK _ _ _ ?_; clear hK K
  refine hN2 _ _ _ ?_
  refine xc_two fun N3 hN3 => ?_
  refine xc_reg2 fun K hK => ?_
  simp only [rall, rsl, gres]
  refine seqX_hide2 fun R hR => ?_
  simp [go_sem, hcz, hco, d41, d14, d54, d45, d51, d15]
  intro q6 hq6
  replace hP := hP.cons hq6
  clear hq6
  have d65 : q6 ≠ q5 := (hP.ne q5 (by simp [addrs])).1
  have d56 : q5 ≠ q6 := (hP.ne q5 (by simp [addrs])).2
  have d64 : q6 ≠ q4 := (hP.ne q4 (by simp [addrs])).1
  have d46 : q4 ≠ q6 := (hP.ne q4 (by simp [addrs])).2
  have d61 : q6 ≠ q1 := (hP.ne q1 (by simp [addrs])).1
  have d16 : q1 ≠ q6 := (hP.ne q1 (by simp [addrs])).2
  refine hR _ _ _ ?_; clear hR R
  rw [seqX_nil]
  refine hK _ _ _ ?_; clear hK K
  refine hN3 _ _ _ ?_
  refine xc_two fun N4 hN4 => ?_
  refine xc_two fun N5 hN5 => ?_
  refine xc_reg2 fun K hK => ?_
  simp only [rall, rsl, gres]
  (refine seqX_hide2 fun R hR => ?_; simp [go_sem, hcz, hco, d41, d14, d54, d45, d51, d15, d65, d56, d64, d46, d61, d16]; refine hR _ _ _ ?_; clear hR R)
  refine seqX_hide2 fun R hR => ?_
  simp [go_sem, hcz, hco, d41, d14, d54, d45, d51, d15, d65, d56, d64, d46, d61, d16]
  obtain ⟨eq6, hPn, nq6⟩ := sinkI (A := A) (L := [(q6, .cells #[.slice none 0 0] 104 (0, 0)), (q5, .cells #[.int .i64 0] 3 (0, 0)), (q4, .cells #[.int .i64 0] 3 (0, 0)), (q1, .cells c 24 (0, 0))]) 0 hP rfl
  rw [eq6]
  clear eq6 hP; have hP := hPn; clear hPn
  simp only [List.eraseIdx_cons_zero, List.eraseIdx_cons_succ, addrs_cons, addrs_nil] at hP ⊢
  obtain ⟨eq5, hPn, nq5⟩ := sinkI (A := A.set q6 (.cells #[.slice none 0 0] 104 (0, 0))) (L := [(q5, .cells #[.int .i64 0] 3 (0, 0)), (q4, .cells #[.int .i64 0] 3 (0, 0)), (q1, .cells c 24 (0, 0))]) 0 hP rfl
  rw [eq5]
  clear eq5 hP; have hP := hPn; clear hPn
  simp only [List.eraseIdx_cons_zero, List.eraseIdx_cons_succ, addrs_cons, addrs_nil] at hP ⊢
  obtain ⟨eq4, hPn, nq4⟩ := sinkI (A := (A.set q6 (.cells #[.slice none 0 0] 104 (0, 0))).set q5 (.cells #[.int .i64 0] 3 (0, 0))) (L := [(q4, .cells #[.int .i64 0] 3 (0, 0)), (q1, .cells c 24 (0, 0))]) 0 hP rfl
  rw [eq4]
  clear eq4 hP; have hP := hPn; clear hPn
  simp only [List.eraseIdx_cons_zero, List.eraseIdx_cons_succ, addrs_cons, addrs_nil] at hP ⊢
  have n64 : q6 ≠ q4 := d64
  have hC : Cnt A (((A.set q6 (.cells #[.slice none 0 0] 104 (0, 0))).set q5 (.cells #[.int .i64 0] 3 (0, 0))).set q4 (.cells #[.int .i64 0] 3 (0, 0))) q4 q5 q6 0 (.slice none 0 0) [] := by
    refine ⟨le_set0 (le_set0 (le_set0 (View.le_refl _) nq6) (none_le (le_set nq6) nq5)) (none_le (View.le_trans (le_set nq6) (le_set nq5)) nq4), none_le (View.le_trans (le_set nq6) (le_set nq5)) nq4, nq6, set_at _ _ _, ?_, Own.nil _ _ _ _, by simp [blockOf], by simp [blockOf], fun hx => n64 hx.symm⟩
    rw [set_other n64, set_other d65, set_at]
  generalize ((A.set q6 (.cells #[.slice none 0 0] 104 (0, 0))).set q5 (.cells #[.int .i64 0] 3 (0, 0))).set q4 (.cells #[.int .i64 0] 3 (0, 0)) = A1 at hP hC ⊢
  have lA1 : A ≤ A1 := hC.low
  refine call_ov hP (counted32 t lv 0 A A1 c q4 q5 q6 0 (.slice none 0 0) [] hc hpl hC (by omega) (by omega)) ?_
  clear hP
  rintro _ A2 ⟨rfl, ev', cs', hC2⟩ hP
  have lA2 := View.le_trans hC2.low (eraseB_le A2 ev')
  refine hR _ _ _ ?_; clear hR R
  (refine seqX_hide2 fun R hR => ?_; simp [go_sem, hcz, hco, d41, d14, d54, d45, d51, d15, d65, d56, d64, d46, d61, d16]; refine hR _ _ _ ?_; clear hR R)
  rw [seqX_nil]
  refine hK _ _ _ ?_; clear hK K
  refine hN5 _ _ _ ?_
  refine xc_iffalse (by simp [go_sem, hcz, hco, d41, d14, d54, d45, d51, d15, d65, d56, d64, d46, d61, d16]) ?_
  refine hN4 _ _ _ ?_
  refine xc_two fun N6 hN6 => ?_
  refine xc_reg2 fun K hK => ?_
  simp only [rall, rsl, gres]
  (refine seqX_hide2 fun R hR => ?_; simp [go_sem, hcz, hco, d41, d14, d54, d45, d51, d15, d65, d56, d64, d46, d61, d16]; refine hR _ _ _ ?_; clear hR R)
  refine seqX_hide2 fun R hR => ?_
  simp [go_sem, hcz, hco, d41, d14, d54, d45, d51, d15, d65, d56, d64, d46, d61, d16]
  refine call_ov hP (build34 A2 t lv c (hc.le lA2) hpl (by omega)) ?_
  clear hP
  rintro _ A3 ⟨p, rfl, hty⟩ hP
  refine hR _ _ _ ?_; clear hR R
  refine seqX_hide2 fun R hR => ?_
  simp [go_sem, hcz, hco, d41, d14, d54, d45, d51, d15, d65, d56, d64, d46, d61, d16]
  refine call_ov hP (newRNodeS A3 p) ?_
  clear hP
  rintro _ A4 ⟨q, rfl, hr, hq0, hA4⟩ hP
  refine hR _ _ _ ?_; clear hR R
  iterate 2 (refine seqX_hide2 fun R hR => ?_; simp [go_sem, hcz, hco, d41, d14, d54, d45, d51, d15, d65, d56, d64, d46, d61, d16]; refine hR _ _ _ ?_; clear hR R)
  rw [seqX_nil]
  refine hK _ _ _ ?_; clear hK K
  refine hN6 _ _ _ ?_
  simp [go_sem, hcz, hco, d41, d14, d54, d45, d51, d15, d65, d56, d64, d46, d61, d16]
  have hty4 := hty.grow lA2 (View.le_trans hA4 (le_ov hP))
  refine ⟨p, ?_, fun hx => ?_, none_le (View.le_trans lA2 hty.le) hq0, hty4⟩
  · exact le_ov hP _ _ hr
  · exact hty.yn.ne (by rw [← hx]; exact hq0)
theorem rooted23 (A : View) (t : Tr) (lv : Nat) (c : Array Value) (hc : IsTr A t c) (hpl : PT lv t) (hnd : nds t ≤ 400) (hlv : lv ≤ 40) : VCalls Try.prog 47 #[.agg c] A fun r A' => ∃ q, r = .tuple #[ptr0 q, .bool true] ∧ IsRn A' t q ∧ A ≤ A' :=
  (rootedS A t lv c hc hpl hnd hlv).mono fun _ _ ⟨q, p, e, h1, _, _, h2⟩ => ⟨q, e, ⟨p, h1, h2.yn⟩, h2.le⟩
end Go.Proofs.YtpinamipjddobaaV

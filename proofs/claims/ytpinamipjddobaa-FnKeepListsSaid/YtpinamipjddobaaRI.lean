/- Trees: MatchField. -/
import Derived.Test.YtpinamipjddobaaRH
import Derived.Test.YtpinamipjddobaaRB
namespace Go.Proofs.YtpinamipjddobaaV
open Go.RowKit
set_option linter.unusedSimpArgs false
set_option linter.unusedVariables false
/-- The field, if its value is such. -/
def mfl (kids : List Tr) (nm sv : ByteArray) : Option Tr := (fld kids nm).bind fun x => if x.value = sv then some x else none
def QV (b8 : Nat) (sv : ByteArray) (x : Tr) (A : View) : Prop := if x.value = sv then QM b8 x A else A b8 = some (.cells #[.pointer none] 62 (0, 0))
theorem key_node {A : View} {s : ByteArray} {q : Nat} (h : IsRn A (keyT s) q) : ∃ p cv, A q = some (.cells (rnc p) 111 (0, 0)) ∧ A p = some (.cells (ync 8 0 e0 s e0 cv e0 e0 e0 0 0) 114 (0, 0)) := by
  obtain ⟨p, h1, h2⟩ := h
  obtain ⟨cv, ps, hp, -, -, -⟩ := IsYn.open h2
  exact ⟨p, cv, h1, hp⟩
set_option maxRecDepth 20000 in
theorem newScalar78 (A : View) (s : ByteArray) : VCalls Try.prog 78 #[.string s] A fun r A' => ∃ q, r = ptr0 q ∧ IsRn A' (keyT s) q ∧ A ≤ A' := by
  refine xcalls Try.func78 rfl (by simp [Try.ntmps78]) ?_
  simp only [Try.f78]
  have hP : Priv A (addrs []) := Priv.nil A
  show xc _ _ _ _ _ _ (ov A [])
  refine xc_two fun N1 hN1 => ?_
  refine xc_reg2 fun K hK => ?_
  simp only [rall, rsl, gres]
  (refine seqX_hide2 fun R hR => ?_; simp [go_sem]; refine hR _ _ _ ?_; clear hR R)
  rw [seqX_nil]
  refine hK _ _ _ ?_; clear hK K
  refine hN1 _ _ _ ?_
  refine xc_two fun N2 hN2 => ?_
  refine xc_reg2 fun K hK => ?_
  simp only [rall, rsl, gres]
  iterate 2 (refine seqX_hide2 fun R hR => ?_; simp [go_sem]; refine hR _ _ _ ?_; clear hR R)
  refine seqX_hide2 fun R hR => ?_
  simp [go_sem]
  intro q5 hq5
  replace hP := hP.cons hq5
  clear hq5
  refine hR _ _ _ ?_; clear hR R
  (refine seqX_hide2 fun R hR => ?_; simp [go_sem]; refine hR _ _ _ ?_; clear hR R)
  refine seqX_hide2 fun R hR => ?_
  simp [go_sem]
  intro q7 hq7
  replace hP := hP.cons hq7
  clear hq7
  have d75 : q7 ≠ q5 := (hP.ne q5 (by simp [addrs])).1
  have d57 : q5 ≠ q7 := (hP.ne q5 (by simp [addrs])).2
  refine hR _ _ _ ?_; clear hR R
  (refine seqX_hide2 fun R hR => ?_; simp [go_sem, d75, d57]; refine hR _ _ _ ?_; clear hR R)
  rw [seqX_nil]
  refine hK _ _ _ ?_; clear hK K
  refine hN2 _ _ _ ?_
  simp [go_sem, d75, d57]
  refine ⟨⟨q5, ov_at_here _ _ _ _, ?_⟩, le_ov hP⟩
  rw [keyT, IsYn]
  exact ⟨.slice none 0 0, [], (set_other d57).trans (set_at _ _ _), .inr ⟨rfl, rfl, rfl⟩, rfl, fun j hj => absurd hj (Nat.not_lt_zero _)⟩
set_option maxRecDepth 20000 in
theorem matchF60 (A : View) (nm s : ByteArray) : VCalls Try.prog 60 #[.string nm, .string s] A fun r A' => ∃ q, r = .agg #[.string ⟨#[]⟩, .string nm, ptr0 q, .string ⟨#[]⟩, .string ⟨#[]⟩, .pointer none] ∧ IsRn A' (keyT s) q ∧ A ≤ A' := by
  refine xcalls Try.func60 rfl (by simp [Try.ntmps60]) ?_
  simp only [Try.f60]
  have hP : Priv A (addrs []) := Priv.nil A
  show xc _ _ _ _ _ _ (ov A [])
  refine xc_two fun N1 hN1 => ?_
  refine xc_reg2 fun K hK => ?_
  simp only [rall, rsl, gres]
  refine seqX_hide2 fun R hR => ?_
  simp [go_sem]
  intro q4 hq4
  replace hP := hP.cons hq4
  clear hq4
  refine hR _ _ _ ?_; clear hR R
  rw [seqX_nil]
  refine hK _ _ _ ?_; clear hK K
  refine hN1 _ _ _ ?_
  refine xc_two fun N2 hN2 => ?_
  refine xc_reg2 fun K hK => ?_
  simp only [rall, rsl, gres]
  iterate 2 (refine seqX_hide2 fun R hR => ?_; simp [go_sem]; refine hR _ _ _ ?_; clear hR R)
  refine seqX_hide2 fun R hR => ?_
  simp [go_sem]
  refine call_ov hP (newScalar78 A s) ?_
  clear hP
  rintro _ A2 ⟨q, rfl, hq, hA2⟩ hP
  refine hR _ _ _ ?_; clear hR R
  (refine seqX_hide2 fun R hR => ?_; simp [go_sem]; refine hR _ _ _ ?_; clear hR R)
  refine seqX_hide2 fun R hR => ?_
  simp [go_sem]
  refine hR _ _ _ ?_; clear hR R
  rw [seqX_nil]
  refine hK _ _ _ ?_; clear hK K
  refine hN2 _ _ _ ?_
  simp [go_sem]
  refine ⟨hq.le ?_, View.le_trans hA2 ?_⟩
  · exact le_ov hP
  · exact le_ov hP
set_option maxRecDepth 20000 in
theorem keepV (b9 b2 b8 rv : Nat) (nm sv : ByteArray) (Bs : View) (h9 : Bs b9 = some (.cells #[.bool true] 4 (0, 0))) (h2 : Bs b2 = some (.cells #[.string ⟨#[]⟩, .string nm, ptr0 rv, .string ⟨#[]⟩, .string ⟨#[]⟩, .pointer none] 88 (0, 0))) (hrv : IsRn Bs (keyT sv) rv) : CB 136 b8 (.cells #[.pointer none] 62 (0, 0)) #[ptr0 b9, ptr0 b2, ptr0 b8] Bs (fun _ => True) (QV b8 sv) := by
  refine ⟨by kernel_rfl, ?_⟩
  intro A0 A x kp vp hbs hle h0 h6 hx _
  show VCalls Try.prog 136 #[ptr0 kp, ptr0 vp, ptr0 b9, ptr0 b2, ptr0 b8] A fun r A' => A0 ≤ A' ∧ QV b8 sv x A'
  have hBA := View.le_trans hbs hle
  have c9 := le_cell hBA (cell_of (i := 0) h9 rfl)
  have c2 := le_cell hBA (cell_of (i := 2) h2 rfl)
  obtain ⟨pv, cvv, hrv1, hpv⟩ := key_node (hrv.le hBA)
  have d3 := cell_of (i := 3) hpv rfl
  obtain ⟨k, st, tag, val, an, h, l, f, row, col, al, kids, rfl⟩ := x.ex
  obtain ⟨cv, ps, hp, -, -, -⟩ := (hx.le hle).open
  have c3 := cell_of (i := 3) hp rfl
  refine xcalls Try.func136 rfl (by simp [Try.ntmps136]) ?_
  simp only [Try.f136]
  have hP : Priv A (addrs []) := Priv.nil A
  show xc _ _ _ _ _ _ (ov A [])
  refine xc_two fun N1 hN1 => ?_
  rw [xc_draws]
  refine vdrawK [(0, true), (1, true), (2, true), (3, true), (4, true), (5, true), (6, true), (7, true), (8, true), (9, true), (10, true), (11, true), (12, true), (13, true), (14, true)] (ov A []) mixed (by kernel_rfl) (View.le_refl _) fun K hK => ?_
  simp only [rsl, gres]
  iterate 9 (refine seqR_hide fun R hR => ?_; simp [go_sem, bc hP c9, bc hP c2, bc hP c3, bc hP d3]; refine hR _ _ _ ?_; clear hR R)
  refine seqR_hide fun R hR => ?_
  simp [go_sem, bc hP c9, bc hP c2, bc hP c3, bc hP d3]
  refine call_same hP (ynode48 A rv pv 8 0 e0 sv e0 cvv e0 e0 e0 0 0 hrv1 hpv (by decide)) ?_
  rintro _ rfl
  by_cases hv : val = sv
  rotate_left
  · have hvb := bytes_ne hv
    refine ⟨View.le_refl _, hR _ _ _ ?_⟩; clear hR R
    iterate 5 (refine seqR_hide fun R hR => ?_; simp [go_sem, bc hP c9, bc hP c2, bc hP c3, bc hP d3, hv, hvb]; refine hR _ _ _ ?_; clear hR R)
    rw [seqR_nil]
    refine hK _ _ _ ?_; clear hK K
    refine hN1 _ _ _ ?_
    refine xc_iffalse (by simp [go_sem, bc hP c9, bc hP c2, bc hP c3, bc hP d3, hv, hvb]) ?_
    simp [go_sem, bc hP c9, bc hP c2, bc hP c3, bc hP d3, hv, hvb]
    refine ⟨hle, ?_⟩
    rw [QV, if_neg (show ¬ (Tr.mk k st tag val an h l f row col al kids).value = sv from hv)]
    exact h6
  subst hv
  refine ⟨View.le_refl _, hR _ _ _ ?_⟩; clear hR R
  iterate 5 (refine seqR_hide fun R hR => ?_; simp [go_sem, bc hP c9, bc hP c2, bc hP c3, bc hP d3]; refine hR _ _ _ ?_; clear hR R)
  rw [seqR_nil]
  refine hK _ _ _ ?_; clear hK K
  refine hN1 _ _ _ ?_
  refine xc_iftrue (by simp [go_sem, bc hP c9, bc hP c2, bc hP c3, bc hP d3]) ?_
  refine xc_reg2 fun K hK => ?_
  simp only [rall, rsl, gres]
  (refine seqX_hide2 fun R hR => ?_; simp [go_sem, bc hP c9, bc hP c2, bc hP c3, bc hP d3]; refine hR _ _ _ ?_; clear hR R)
  refine seqX_hide2 fun R hR => ?_
  simp [go_sem, bc hP c9, bc hP c2, bc hP c3, bc hP d3]
  refine call_ov hP (newRNodeS A vp) ?_
  clear hP
  rintro _ A2 ⟨rn, rfl, hrn, -, hA2⟩ hP
  have h62 := hA2 _ _ h6
  have hs := cstore (L := []) hP ti62 h62 (u := ptr0 rn) rfl
  have hsa := hs.1
  refine hR _ _ _ ?_; clear hR R
  refine seqX_hide2 fun R hR => ?_
  simp [go_sem, hsa]
  refine hR _ _ _ ?_; clear hR R
  rw [seqX_nil]
  refine hK _ _ _ ?_; clear hK K
  simp [go_sem, hsa]
  have l2 : A0 ≤ A2.set b8 (.cells #[ptr0 rn] 62 (0, 0)) := le_set0 (View.le_trans hle hA2) h0
  have nk : rn ≠ b8 := fun hx => by rw [hx, h62] at hrn; injection hrn with h; injection h with h1 h2; cases h2
  refine ⟨l2, ?_⟩
  rw [QV, if_pos (show (Tr.mk k st tag val an h l f row col al kids).value = val from rfl)]
  exact ⟨rn, set_at _ _ _, vp, (set_other nk).trans hrn, hx.le l2⟩
set_option maxRecDepth 20000 in
set_option maxHeartbeats 400000 in
theorem matchV134 (A : View) (t : Tr) (q : Nat) (nm sv : ByteArray) (rv : Nat) (hrv : IsRn A (keyT sv) rv) (hq : IsRn A t q) (hk : t.kind = 4) (ht : t.tag ≠ tNull) (hev : t.kids.length % 2 = 0) (hkl : t.kids.length ≤ 1000000) (hnm : nm ≠ e0) :
    VCalls Try.prog 134 #[.agg #[.string ⟨#[]⟩, .string nm, ptr0 rv, .string ⟨#[]⟩, .string ⟨#[]⟩, .pointer none], ptr0 q] A fun r A' => ∃ x : Option Nat, r = .tuple #[(match x with | none => .pointer none | some b => ptr0 b), .nilIface] ∧ (RP (mfl t.kids nm sv) (match x with | none => .pointer none | some b => ptr0 b) A' ∧ A ≤ A') := by
  have hq0 := hq
  have hk1 : t.kind ≠ 1 := by omega
  have hmiss := missing39 A t q hq0 hk1
  rw [decide_eq_false ht] at hmiss
  have herr := errIf79 A t q 4 hq0 hk1 ht hk (fun _ => hev) hkl
  obtain ⟨p, hqc, hy⟩ := hq
  obtain ⟨k, st, tag, val, an, h, l, f, row, col, al, kids, rfl⟩ := t.ex
  obtain ⟨cv, ps, hp, hrow, hpl, hyk⟩ := hy.open
  obtain ⟨cb, cc, rfl⟩ := hrow.form
  replace hk1 : k ≠ 1 := hk1
  replace hev : kids.length % 2 = 0 := hev
  replace hkl : kids.length ≤ 1000000 := hkl
  show VCalls Try.prog 134 _ A fun r A' => ∃ x : Option Nat, r = .tuple #[(match x with | none => .pointer none | some b => ptr0 b), .nilIface] ∧ (RP (mfl kids nm sv) (match x with | none => .pointer none | some b => ptr0 b) A' ∧ A ≤ A')
  have hn1 := (ne_empty hnm).1
  have hn2 := (ne_empty hnm).2
  refine xcalls Try.func134 rfl (by simp [Try.ntmps134]) ?_
  simp only [Try.f134]
  have hP : Priv A (addrs []) := Priv.nil A
  show xc _ _ _ _ _ _ (ov A [])
  refine xc_two fun N1 hN1 => ?_
  refine xc_reg2 fun K hK => ?_
  simp only [rall, rsl, gres]
  refine seqX_hide2 fun R hR => ?_
  simp [go_sem, hn1, hn2]
  intro q2 hq2
  replace hP := hP.cons hq2
  clear hq2
  refine hR _ _ _ ?_; clear hR R
  iterate 2 (refine seqX_hide2 fun R hR => ?_; simp [go_sem, hn1, hn2]; refine hR _ _ _ ?_; clear hR R)
  rw [seqX_nil]
  refine hK _ _ _ ?_; clear hK K
  refine hN1 _ _ _ ?_
  refine xc_two fun N2 hN2 => ?_
  refine xc_two fun N3 hN3 => ?_
  refine xc_reg2 fun K hK => ?_
  simp only [rall, rsl, gres]
  iterate 8 (refine seqX_hide2 fun R hR => ?_; simp [go_sem, hn1, hn2]; refine hR _ _ _ ?_; clear hR R)
  rw [seqX_nil]
  refine hK _ _ _ ?_; clear hK K
  refine hN3 _ _ _ ?_
  refine xc_iffalse (by simp [go_sem, hn1, hn2]) ?_
  refine hN2 _ _ _ ?_
  refine xc_two fun N4 hN4 => ?_
  refine xc_two fun N5 hN5 => ?_
  refine xc_reg2 fun K hK => ?_
  simp only [rall, rsl, gres]
  (refine seqX_hide2 fun R hR => ?_; simp [go_sem, hn1, hn2]; refine hR _ _ _ ?_; clear hR R)
  refine seqX_hide2 fun R hR => ?_
  simp [go_sem, hn1, hn2]
  refine call_same hP hmiss ?_
  rintro _ rfl
  refine hR _ _ _ ?_; clear hR R
  rw [seqX_nil]
  refine hK _ _ _ ?_; clear hK K
  refine hN5 _ _ _ ?_
  refine xc_iffalse (by simp [go_sem, hn1, hn2]) ?_
  refine hN4 _ _ _ ?_
  refine xc_two fun N6 hN6 => ?_
  refine xc_two fun N7 hN7 => ?_
  refine xc_reg2 fun K hK => ?_
  simp only [rall, rsl, gres]
  iterate 3 (refine seqX_hide2 fun R hR => ?_; simp [go_sem, hn1, hn2]; refine hR _ _ _ ?_; clear hR R)
  rw [seqX_nil]
  refine hK _ _ _ ?_; clear hK K
  refine hN7 _ _ _ ?_
  refine xc_iffalse (by simp [go_sem, hn1, hn2]) ?_
  refine hN6 _ _ _ ?_
  refine xc_two fun N8 hN8 => ?_
  refine xc_two fun N9 hN9 => ?_
  refine xc_reg2 fun K hK => ?_
  simp only [rall, rsl, gres]
  (refine seqX_hide2 fun R hR => ?_; simp [go_sem, hn1, hn2]; refine hR _ _ _ ?_; clear hR R)
  refine seqX_hide2 fun R hR => ?_
  simp [go_sem, hn1, hn2]
  refine call_same hP herr ?_
  rintro _ rfl
  refine hR _ _ _ ?_; clear hR R
  (refine seqX_hide2 fun R hR => ?_; simp [go_sem, hn1, hn2]; refine hR _ _ _ ?_; clear hR R)
  rw [seqX_nil]
  refine hK _ _ _ ?_; clear hK K
  refine hN9 _ _ _ ?_
  refine xc_two fun N10 hN10 => ?_
  refine xc_reg2 fun K hK => ?_
  simp only [rall, rsl, gres]
  iterate 2 (refine seqX_hide2 fun R hR => ?_; simp [go_sem, hn1, hn2]; refine hR _ _ _ ?_; clear hR R)
  rw [seqX_nil]
  refine hK _ _ _ ?_; clear hK K
  refine hN10 _ _ _ ?_
  refine xc_iffalse (by simp [go_sem, hn1, hn2]) ?_
  refine hN8 _ _ _ ?_
  refine xc_two fun N11 hN11 => ?_
  refine xc_reg2 fun K hK => ?_
  simp only [rall, rsl, gres]
  refine seqX_hide2 fun R hR => ?_
  simp [go_sem, hn1, hn2]
  intro q8 hq8
  replace hP := hP.cons hq8
  clear hq8
  have d82 : q8 ≠ q2 := (hP.ne q2 (by simp [addrs])).1
  have d28 : q2 ≠ q8 := (hP.ne q2 (by simp [addrs])).2
  refine hR _ _ _ ?_; clear hR R
  rw [seqX_nil]
  refine hK _ _ _ ?_; clear hK K
  refine hN11 _ _ _ ?_
  refine xc_two fun N12 hN12 => ?_
  refine xc_reg2 fun K hK => ?_
  simp only [rall, rsl, gres]
  iterate 3 (refine seqX_hide2 fun R hR => ?_; simp [go_sem, hn1, hn2, d82, d28]; refine hR _ _ _ ?_; clear hR R)
  refine seqX_hide2 fun R hR => ?_
  simp [go_sem, hn1, hn2, d82, d28]
  intro q9 hq9
  replace hP := hP.cons hq9
  clear hq9
  have d98 : q9 ≠ q8 := (hP.ne q8 (by simp [addrs])).1
  have d89 : q8 ≠ q9 := (hP.ne q8 (by simp [addrs])).2
  have d92 : q9 ≠ q2 := (hP.ne q2 (by simp [addrs])).1
  have d29 : q2 ≠ q9 := (hP.ne q2 (by simp [addrs])).2
  refine hR _ _ _ ?_; clear hR R
  refine seqX_hide2 fun R hR => ?_
  simp [go_sem, hn1, hn2, d82, d28, d98, d89, d92, d29]
  refine hR _ _ _ ?_; clear hR R
  rw [seqX_nil]
  refine hK _ _ _ ?_; clear hK K
  refine hN12 _ _ _ ?_
  refine xc_two fun N13 hN13 => ?_
  rw [xc_draws]
  refine vdrawK [(0, true), (1, true), (2, true), (3, true), (4, true), (5, true), (6, false)] (ov A [(q9, .cells #[.bool true] 4 (0, 0)), (q8, .cells #[.pointer none] 62 (0, 0)), (q2, .cells #[.string ⟨#[]⟩, .string nm, ptr0 rv, .string ⟨#[]⟩, .string ⟨#[]⟩, .pointer none] 88 (0, 0))]) mixed (by kernel_rfl) (View.le_refl _) fun K hK => ?_
  simp only [rsl, gres]
  (refine seqR_hide fun R hR => ?_; simp [go_sem, hn1, hn2, d82, d28, d98, d89, d92, d29]; refine hR _ _ _ ?_; clear hR R)
  refine seqR_hide fun R hR => ?_
  simp [go_sem, hn1, hn2, d82, d28, d98, d89, d92, d29]
  refine call_same hP (content36 A q p k st tag val an (.slice cb kids.length cc) h l f row col hqc hp hk1) ?_
  rintro _ rfl
  refine ⟨View.le_refl _, hR _ _ _ ?_⟩; clear hR R
  iterate 3 (refine seqR_hide fun R hR => ?_; simp [go_sem, hn1, hn2, d82, d28, d98, d89, d92, d29]; refine hR _ _ _ ?_; clear hR R)
  refine seqR_hide fun R hR => ?_
  simp [go_sem, hn1, hn2, d82, d28, d98, d89, d92, d29]
  intro q53 hq53
  replace hP := hP.cons hq53
  clear hq53
  have d539 : q53 ≠ q9 := (hP.ne q9 (by simp [addrs])).1
  have d953 : q9 ≠ q53 := (hP.ne q9 (by simp [addrs])).2
  have d538 : q53 ≠ q8 := (hP.ne q8 (by simp [addrs])).1
  have d853 : q8 ≠ q53 := (hP.ne q8 (by simp [addrs])).2
  have d532 : q53 ≠ q2 := (hP.ne q2 (by simp [addrs])).1
  have d253 : q2 ≠ q53 := (hP.ne q2 (by simp [addrs])).2
  refine hR _ _ _ ?_; clear hR R
  refine seqR_hide fun R hR => ?_
  simp [go_sem, hn1, hn2, d82, d28, d98, d89, d92, d29, d539, d953, d538, d853, d532, d253]
  obtain ⟨eq53, hPn, nq53⟩ := sinkI (A := A) (L := [(q53, .cells #[.string nm] 9 (0, 0)), (q9, .cells #[.bool true] 4 (0, 0)), (q8, .cells #[.pointer none] 62 (0, 0)), (q2, .cells #[.string ⟨#[]⟩, .string nm, ptr0 rv, .string ⟨#[]⟩, .string ⟨#[]⟩, .pointer none] 88 (0, 0))]) 0 hP rfl
  rw [eq53]
  clear eq53 hP; have hP := hPn; clear hPn
  simp only [List.eraseIdx_cons_zero, List.eraseIdx_cons_succ, addrs_cons, addrs_nil] at hP ⊢
  obtain ⟨eq9, hPn, nq9⟩ := sinkI (A := A.set q53 (.cells #[.string nm] 9 (0, 0))) (L := [(q9, .cells #[.bool true] 4 (0, 0)), (q8, .cells #[.pointer none] 62 (0, 0)), (q2, .cells #[.string ⟨#[]⟩, .string nm, ptr0 rv, .string ⟨#[]⟩, .string ⟨#[]⟩, .pointer none] 88 (0, 0))]) 0 hP rfl
  rw [eq9]
  clear eq9 hP; have hP := hPn; clear hPn
  simp only [List.eraseIdx_cons_zero, List.eraseIdx_cons_succ, addrs_cons, addrs_nil] at hP ⊢
  obtain ⟨eq2, hPn, nq2⟩ := sinkI (A := (A.set q53 (.cells #[.string nm] 9 (0, 0))).set q9 (.cells #[.bool true] 4 (0, 0))) (L := [(q8, .cells #[.pointer none] 62 (0, 0)), (q2, .cells #[.string ⟨#[]⟩, .string nm, ptr0 rv, .string ⟨#[]⟩, .string ⟨#[]⟩, .pointer none] 88 (0, 0))]) 1 hP rfl
  rw [eq2]
  clear eq2 hP; have hP := hPn; clear hPn
  simp only [List.eraseIdx_cons_zero, List.eraseIdx_cons_succ, addrs_cons, addrs_nil] at hP ⊢
  obtain ⟨eq8, hPn, nq8⟩ := sinkI (A := ((A.set q53 (.cells #[.string nm] 9 (0, 0))).set q9 (.cells #[.bool true] 4 (0, 0))).set q2 (.cells #[.string ⟨#[]⟩, .string nm, ptr0 rv, .string ⟨#[]⟩, .string ⟨#[]⟩, .pointer none] 88 (0, 0))) (L := [(q8, .cells #[.pointer none] 62 (0, 0))]) 0 hP rfl
  rw [eq8]
  clear eq8 hP; have hP := hPn; clear hPn
  simp only [List.eraseIdx_cons_zero, List.eraseIdx_cons_succ, addrs_cons, addrs_nil] at hP ⊢
  have l0 : A ≤ ((A.set q53 (.cells #[.string nm] 9 (0, 0))).set q9 (.cells #[.bool true] 4 (0, 0))).set q2 (.cells #[.string ⟨#[]⟩, .string nm, ptr0 rv, .string ⟨#[]⟩, .string ⟨#[]⟩, .pointer none] 88 (0, 0)) := View.le_trans (le_set nq53) (View.le_trans (le_set nq9) (le_set nq2))
  have y2 : (((A.set q53 (.cells #[.string nm] 9 (0, 0))).set q9 (.cells #[.bool true] 4 (0, 0))).set q2 (.cells #[.string ⟨#[]⟩, .string nm, ptr0 rv, .string ⟨#[]⟩, .string ⟨#[]⟩, .pointer none] 88 (0, 0))) q2 = some (.cells #[.string ⟨#[]⟩, .string nm, ptr0 rv, .string ⟨#[]⟩, .string ⟨#[]⟩, .pointer none] 88 (0, 0)) := set_at _ _ _
  have y9 : (((A.set q53 (.cells #[.string nm] 9 (0, 0))).set q9 (.cells #[.bool true] 4 (0, 0))).set q2 (.cells #[.string ⟨#[]⟩, .string nm, ptr0 rv, .string ⟨#[]⟩, .string ⟨#[]⟩, .pointer none] 88 (0, 0))) q9 = some (.cells #[.bool true] 4 (0, 0)) := by rw [set_other d92]; exact set_at _ _ _
  have y53 : (((A.set q53 (.cells #[.string nm] 9 (0, 0))).set q9 (.cells #[.bool true] 4 (0, 0))).set q2 (.cells #[.string ⟨#[]⟩, .string nm, ptr0 rv, .string ⟨#[]⟩, .string ⟨#[]⟩, .pointer none] 88 (0, 0))) q53 = some (.cells #[.string nm] 9 (0, 0)) := by rw [set_other d532, set_other d539]; exact set_at _ _ _
  generalize ((A.set q53 (.cells #[.string nm] 9 (0, 0))).set q9 (.cells #[.bool true] 4 (0, 0))).set q2 (.cells #[.string ⟨#[]⟩, .string nm, ptr0 rv, .string ⟨#[]⟩, .string ⟨#[]⟩, .pointer none] 88 (0, 0)) = Bs at hP l0 y2 y9 y53 nq8 ⊢
  refine call_ov hP (visitG _ _ _ Bs _ _ Bs _ q8 ⟨q53, 0, none⟩ 1 nm kids ps (.slice cb kids.length cc) (keepV q9 q2 q8 rv nm sv Bs y9 y2 (hrv.le l0)) (View.le_refl _) (le_set nq8) nq8 (set_at _ _ _) (cell_of (i := 0) y53 rfl) (hrow.le l0) hpl (fun j hj => let ⟨q, h1, h2⟩ := hyk j hj; ⟨q, h1, h2.le l0⟩) hev hkl (fun _ _ => trivial)) ?_
  clear hP
  rintro _ A3 ⟨hA3, hF⟩ hP
  have hA := View.le_trans l0 hA3
  cases hfo : mfl kids nm sv with
  | none =>
    have hF0 : A3 q8 = some (.cells #[.pointer none] 62 (0, 0)) := by
      cases hf2 : fld kids nm with
      | none => rw [hf2] at hF; exact hF
      | some x =>
        rw [hf2] at hF
        rw [mfl, hf2, Option.bind_some] at hfo
        have hne : ¬ x.value = sv := fun e => by rw [if_pos e] at hfo; cases hfo
        have hF2 : QV q8 sv x A3 := hF
        rwa [QV, if_neg hne] at hF2
    have c8 := cell_of (i := 0) hF0 rfl
    have c25 := le_cell hA3 (cell_of (i := 5) y2 rfl)
    refine hR _ _ _ ?_; clear hR R
    rw [seqR_nil]
    refine hK _ _ _ ?_; clear hK K
    refine hN13 _ _ _ ?_
    refine xc_two fun N14 hN14 => ?_
    refine xc_two fun N15 hN15 => ?_
    refine xc_reg2 fun K hK => ?_
    simp only [rall, rsl, gres]
    iterate 2 (refine seqX_hide2 fun R hR => ?_; simp [go_sem, hn1, hn2, d82, d28, d98, d89, d92, d29, d539, d953, d538, d853, d532, d253, bc hP c8, bc hP c25]; refine hR _ _ _ ?_; clear hR R)
    rw [seqX_nil]
    refine hK _ _ _ ?_; clear hK K
    refine hN15 _ _ _ ?_
    refine xc_iffalse (by simp [go_sem, hn1, hn2, d82, d28, d98, d89, d92, d29, d539, d953, d538, d853, d532, d253, bc hP c8, bc hP c25]) ?_
    refine hN14 _ _ _ ?_
    refine xc_two fun N16 hN16 => ?_
    refine xc_two fun N17 hN17 => ?_
    refine xc_reg2 fun K hK => ?_
    simp only [rall, rsl, gres]
    iterate 3 (refine seqX_hide2 fun R hR => ?_; simp [go_sem, hn1, hn2, d82, d28, d98, d89, d92, d29, d539, d953, d538, d853, d532, d253, bc hP c8, bc hP c25]; refine hR _ _ _ ?_; clear hR R)
    rw [seqX_nil]
    refine hK _ _ _ ?_; clear hK K
    refine hN17 _ _ _ ?_
    refine xc_iffalse (by simp [go_sem, hn1, hn2, d82, d28, d98, d89, d92, d29, d539, d953, d538, d853, d532, d253, bc hP c8, bc hP c25]) ?_
    refine hN16 _ _ _ ?_
    refine xc_two fun N18 hN18 => ?_
    refine xc_reg2 fun K hK => ?_
    simp only [rall, rsl, gres]
    iterate 2 (refine seqX_hide2 fun R hR => ?_; simp [go_sem, hn1, hn2, d82, d28, d98, d89, d92, d29, d539, d953, d538, d853, d532, d253, bc hP c8, bc hP c25]; refine hR _ _ _ ?_; clear hR R)
    rw [seqX_nil]
    refine hK _ _ _ ?_; clear hK K
    refine hN18 _ _ _ ?_
    simp [go_sem, hn1, hn2, d82, d28, d98, d89, d92, d29, d539, d953, d538, d853, d532, d253, bc hP c8, bc hP c25]
    rw [hfo]
    exact ⟨none, rfl, rfl, hA⟩
  | some x =>
    obtain ⟨rn, h8, hrn⟩ : QM q8 x A3 := by
      cases hf2 : fld kids nm with
      | none => rw [mfl, hf2] at hfo; cases hfo
      | some y =>
        rw [hf2] at hF
        rw [mfl, hf2, Option.bind_some] at hfo
        by_cases e : y.value = sv
        · rw [if_pos e] at hfo
          obtain rfl := Option.some.inj hfo
          have hF2 : QV q8 sv y A3 := hF
          rwa [QV, if_pos e] at hF2
        · rw [if_neg e] at hfo; cases hfo
    have c8 := cell_of (i := 0) h8 rfl
    refine hR _ _ _ ?_; clear hR R
    rw [seqR_nil]
    refine hK _ _ _ ?_; clear hK K
    refine hN13 _ _ _ ?_
    refine xc_two fun N14 hN14 => ?_
    refine xc_two fun N15 hN15 => ?_
    refine xc_reg2 fun K hK => ?_
    simp only [rall, rsl, gres]
    iterate 2 (refine seqX_hide2 fun R hR => ?_; simp [go_sem, hn1, hn2, d82, d28, d98, d89, d92, d29, d539, d953, d538, d853, d532, d253, bc hP c8]; refine hR _ _ _ ?_; clear hR R)
    rw [seqX_nil]
    refine hK _ _ _ ?_; clear hK K
    refine hN15 _ _ _ ?_
    refine xc_iftrue (by simp [go_sem, hn1, hn2, d82, d28, d98, d89, d92, d29, d539, d953, d538, d853, d532, d253, bc hP c8]) ?_
    refine xc_two fun N16 hN16 => ?_
    refine xc_reg2 fun K hK => ?_
    simp only [rall, rsl, gres]
    iterate 3 (refine seqX_hide2 fun R hR => ?_; simp [go_sem, hn1, hn2, d82, d28, d98, d89, d92, d29, d539, d953, d538, d853, d532, d253, bc hP c8]; refine hR _ _ _ ?_; clear hR R)
    rw [seqX_nil]
    refine hK _ _ _ ?_; clear hK K
    refine hN16 _ _ _ ?_
    simp [go_sem, hn1, hn2, d82, d28, d98, d89, d92, d29, d539, d953, d538, d853, d532, d253, bc hP c8]
    rw [hfo]
    exact ⟨some rn, rfl, ⟨rn, rfl, hrn⟩, hA⟩
theorem caught59 (p q s : Addr) (w : World) :
    CallsD Try.prog 59 #[.pointer (some p), .pointer (some q), .pointer (some s)] .returning w fun e u' w' => (∃ v, e = .returned v) ∧ u' = .returning ∧ w' = w := by
  refine callsD_of_wpS Try.func59 rfl fun c₀ cs hu => ?_
  apply wpS_seq
  apply wpS_region
  simp [wpOpsS, go_sem, recoverD, hu, Try.ntmps59, Exit.thenS]
  refine wpS_cond (t := false) (by simp [Act.eval, Array.replicate]) ?_
  simp only [Bool.false_eq_true, if_false]
  refine wpS_of_wp (wp_skip ?_)
  cases c₀
  simp_all [bodyPostS, results, Try.results59]
/-- None or one tree. -/
def opt1 (o : Option Tr) : List Tr :=
  match o with
  | none => []
  | some x => [x]
set_option maxRecDepth 20000 in
theorem found51 (A : View) (o : Option Tr) (v : Value) (h : RP o v A) (hnt : ∀ x, o = some x → NT x ∧ nds x ≤ 1000000) : VCalls Try.prog 51 #[v] A fun r A' => Trs A' r (opt1 o) ∧ A ≤ A' := by
  cases o with
  | none =>
    obtain rfl : v = .pointer none := h
    refine (foundNil51 A).mono ?_
    rintro _ _ ⟨rfl, rfl⟩
    exact ⟨Elems.nil _ _ _, View.le_refl _⟩
  | some x =>
    obtain ⟨rn, rfl, hr⟩ := h
    exact foundOf51 A x rn hr (hnt x rfl).1 (hnt x rfl).2
theorem PT.kid {lv : Nat} {t x : Tr} (h : PT lv t) (hx : x ∈ t.kids) : PT (lv - 1) x := by
  obtain ⟨k, st, tag, val, an, hh, l, f, row, col, al, kids, rfl⟩ := t.ex
  rw [PT] at h
  obtain ⟨j, hj, rfl⟩ := List.getElem_of_mem hx
  exact h.2.2.2 j hj
theorem nds_kid' {t x : Tr} (hx : x ∈ t.kids) : nds x ≤ nds t := by
  obtain ⟨k, st, tag, val, an, hh, l, f, row, col, al, kids, rfl⟩ := t.ex
  rw [nds_mk]
  have h2 := nds_mem (show x ∈ kids from hx)
  omega
theorem fld_mem : ∀ {l : List Tr} {s : ByteArray} {x : Tr}, fld l s = some x → x ∈ l
  | a :: b :: l, s, x, h => by
    rw [fld] at h
    split at h
    · rw [← Option.some.inj h]; simp
    · exact List.mem_cons_of_mem _ (List.mem_cons_of_mem _ (fld_mem h))
  | [], s, x, h => by cases h
  | [a], s, x, h => by cases h
theorem mfl_fld {kids : List Tr} {nm sv : ByteArray} {x : Tr} (h : mfl kids nm sv = some x) : fld kids nm = some x ∧ x.value = sv := by
  rw [mfl] at h
  cases hf : fld kids nm with
  | none => rw [hf] at h; cases h
  | some y =>
    rw [hf, Option.bind_some] at h
    by_cases e : y.value = sv
    · rw [if_pos e] at h
      obtain rfl := Option.some.inj h
      exact ⟨rfl, e⟩
    · rw [if_neg e] at h; cases h
set_option maxRecDepth 20000 in
set_option maxHeartbeats 400000 in
theorem matchField32 (A : View) (t : Tr) (lv : Nat) (c : Array Value) (nm sv : ByteArray) (hc : IsTr A t c) (hpt : PT lv t) (hnd : nds t ≤ 400) (hlv : lv ≤ 40) (hk : t.kind = 4) (ht : t.tag ≠ tNull) (hev : t.kids.length % 2 = 0) (hkl : t.kids.length ≤ 1000000) (hnm : nm ≠ e0) :
    VCalls Try.prog 32 #[.agg c, .string nm, .string sv] A fun r A' => ∃ c1 fv, r = .tuple #[.agg c1, fv, .int .i64 0] ∧ IsTr A' t c1 ∧ Trs A' fv (opt1 (mfl t.kids nm sv)) ∧ A ≤ A' := by
  have hcz := hc.size
  have hco := hc.ones
  refine xcallsD Try.func32 rfl (by simp [Try.ntmps32]) ?_
  simp only [Try.f32]
  have hP : Priv A (addrs []) := Priv.nil A
  show xc _ _ _ _ _ _ (ov A [])
  refine xc_two fun N1 hN1 => ?_
  refine xc_reg2 fun K hK => ?_
  simp only [rall, rsl, gres]
  refine seqX_hide2 fun R hR => ?_
  simp [go_sem, hcz, hco]
  intro q3 hq3
  replace hP := hP.cons hq3
  clear hq3
  refine hR _ _ _ ?_; clear hR R
  refine seqX_hide2 fun R hR => ?_
  simp [go_sem, hcz, hco]
  intro q6 hq6
  replace hP := hP.cons hq6
  clear hq6
  have d63 : q6 ≠ q3 := (hP.ne q3 (by simp [addrs])).1
  have d36 : q3 ≠ q6 := (hP.ne q3 (by simp [addrs])).2
  refine hR _ _ _ ?_; clear hR R
  refine seqX_hide2 fun R hR => ?_
  simp [go_sem, hcz, hco, d63, d36]
  intro q7 hq7
  replace hP := hP.cons hq7
  clear hq7
  have d76 : q7 ≠ q6 := (hP.ne q6 (by simp [addrs])).1
  have d67 : q6 ≠ q7 := (hP.ne q6 (by simp [addrs])).2
  have d73 : q7 ≠ q3 := (hP.ne q3 (by simp [addrs])).1
  have d37 : q3 ≠ q7 := (hP.ne q3 (by simp [addrs])).2
  refine hR _ _ _ ?_; clear hR R
  refine seqX_hide2 fun R hR => ?_
  simp [go_sem, hcz, hco, d63, d36, d76, d67, d73, d37]
  intro q8 hq8
  replace hP := hP.cons hq8
  clear hq8
  have d87 : q8 ≠ q7 := (hP.ne q7 (by simp [addrs])).1
  have d78 : q7 ≠ q8 := (hP.ne q7 (by simp [addrs])).2
  have d86 : q8 ≠ q6 := (hP.ne q6 (by simp [addrs])).1
  have d68 : q6 ≠ q8 := (hP.ne q6 (by simp [addrs])).2
  have d83 : q8 ≠ q3 := (hP.ne q3 (by simp [addrs])).1
  have d38 : q3 ≠ q8 := (hP.ne q3 (by simp [addrs])).2
  refine hR _ _ _ ?_; clear hR R
  rw [seqX_nil]
  refine hK _ _ _ ?_; clear hK K
  refine hN1 _ _ _ ?_
  refine xc_two fun N2 hN2 => ?_
  refine xc_reg2 fun K hK => ?_
  simp only [rall, rsl, gres]
  (refine seqX_hide2 fun R hR => ?_; simp [go_sem, hcz, hco, d63, d36, d76, d67, d73, d37, d87, d78, d86, d68, d83, d38]; refine hR _ _ _ ?_; clear hR R)
  refine seqX_hide2 fun R hR => ?_
  simp [go_sem, hcz, hco, d63, d36, d76, d67, d73, d37, d87, d78, d86, d68, d83, d38, toDefer]
  refine hR _ _ _ ?_; clear hR R
  rw [seqX_nil]
  refine hK _ _ _ ?_; clear hK K
  refine hN2 _ _ _ ?_
  refine xc_two fun N3 hN3 => ?_
  refine xc_reg2 fun K hK => ?_
  simp only [rall, rsl, gres]
  (refine seqX_hide2 fun R hR => ?_; simp [go_sem, hcz, hco, d63, d36, d76, d67, d73, d37, d87, d78, d86, d68, d83, d38]; refine hR _ _ _ ?_; clear hR R)
  refine seqX_hide2 fun R hR => ?_
  simp [go_sem, hcz, hco, d63, d36, d76, d67, d73, d37, d87, d78, d86, d68, d83, d38]
  refine call_ov hP (rooted23 A t lv c hc hpt hnd hlv) ?_
  clear hP
  rintro _ A2 ⟨q, rfl, hq, hA2⟩ hP
  refine hR _ _ _ ?_; clear hR R
  iterate 5 (refine seqX_hide2 fun R hR => ?_; simp [go_sem, hcz, hco, d63, d36, d76, d67, d73, d37, d87, d78, d86, d68, d83, d38]; refine hR _ _ _ ?_; clear hR R)
  rw [seqX_nil]
  refine hK _ _ _ ?_; clear hK K
  refine hN3 _ _ _ ?_
  refine xc_two fun N4 hN4 => ?_
  refine xc_two fun N5 hN5 => ?_
  refine xc_reg2 fun K hK => ?_
  simp only [rall, rsl, gres]
  iterate 2 (refine seqX_hide2 fun R hR => ?_; simp [go_sem, hcz, hco, d63, d36, d76, d67, d73, d37, d87, d78, d86, d68, d83, d38]; refine hR _ _ _ ?_; clear hR R)
  rw [seqX_nil]
  refine hK _ _ _ ?_; clear hK K
  refine hN5 _ _ _ ?_
  refine xc_iffalse (by simp [go_sem, hcz, hco, d63, d36, d76, d67, d73, d37, d87, d78, d86, d68, d83, d38]) ?_
  refine hN4 _ _ _ ?_
  refine xc_two fun N6 hN6 => ?_
  refine xc_reg2 fun K hK => ?_
  simp only [rall, rsl, gres]
  iterate 3 (refine seqX_hide2 fun R hR => ?_; simp [go_sem, hcz, hco, d63, d36, d76, d67, d73, d37, d87, d78, d86, d68, d83, d38]; refine hR _ _ _ ?_; clear hR R)
  refine seqX_hide2 fun R hR => ?_
  simp [go_sem, hcz, hco, d63, d36, d76, d67, d73, d37, d87, d78, d86, d68, d83, d38]
  refine call_ov hP (matchF60 A2 nm sv) ?_
  clear hP
  rintro _ A3 ⟨rv, rfl, hrv, hA3⟩ hP
  refine hR _ _ _ ?_; clear hR R
  (refine seqX_hide2 fun R hR => ?_; simp [go_sem, hcz, hco, d63, d36, d76, d67, d73, d37, d87, d78, d86, d68, d83, d38]; refine hR _ _ _ ?_; clear hR R)
  refine seqX_hide2 fun R hR => ?_
  simp [go_sem, hcz, hco, d63, d36, d76, d67, d73, d37, d87, d78, d86, d68, d83, d38]
  intro q28 hq28
  replace hP := hP.cons hq28
  clear hq28
  have d288 : q28 ≠ q8 := (hP.ne q8 (by simp [addrs])).1
  have d828 : q8 ≠ q28 := (hP.ne q8 (by simp [addrs])).2
  have d287 : q28 ≠ q7 := (hP.ne q7 (by simp [addrs])).1
  have d728 : q7 ≠ q28 := (hP.ne q7 (by simp [addrs])).2
  have d286 : q28 ≠ q6 := (hP.ne q6 (by simp [addrs])).1
  have d628 : q6 ≠ q28 := (hP.ne q6 (by simp [addrs])).2
  have d283 : q28 ≠ q3 := (hP.ne q3 (by simp [addrs])).1
  have d328 : q3 ≠ q28 := (hP.ne q3 (by simp [addrs])).2
  refine hR _ _ _ ?_; clear hR R
  refine seqX_hide2 fun R hR => ?_
  simp [go_sem, hcz, hco, d63, d36, d76, d67, d73, d37, d87, d78, d86, d68, d83, d38, d288, d828, d287, d728, d286, d628, d283, d328]
  obtain ⟨eq28, hPn, nq28⟩ := sinkI (A := A3) (L := [(q28, .cells #[.iface 88 (.agg #[.string ⟨#[]⟩, .string nm, ptr0 rv, .string ⟨#[]⟩, .string ⟨#[]⟩, .pointer none])] 116 (0, 0)), (q8, .cells #[.int .i64 0] 3 (0, 0)), (q7, .cells #[.slice none 0 0] 22 (0, 0)), (q6, .cells (trc 0 0 ⟨#[]⟩ ⟨#[]⟩ ⟨#[]⟩ ⟨#[]⟩ ⟨#[]⟩ ⟨#[]⟩ 0 0 0 (.slice none 0 0)) 24 (0, 0)), (q3, .cells c 24 (0, 0))]) 0 hP rfl
  rw [eq28]
  clear eq28 hP; have hP := hPn; clear hPn
  simp only [List.eraseIdx_cons_zero, List.eraseIdx_cons_succ, addrs_cons, addrs_nil] at hP ⊢
  have lq : A3 ≤ A3.set q28 (.cells #[.iface 88 (.agg #[.string ⟨#[]⟩, .string nm, ptr0 rv, .string ⟨#[]⟩, .string ⟨#[]⟩, .pointer none])] 116 (0, 0)) := le_set nq28
  have hrow : Row (A3.set q28 (.cells #[.iface 88 (.agg #[.string ⟨#[]⟩, .string nm, ptr0 rv, .string ⟨#[]⟩, .string ⟨#[]⟩, .pointer none])] 116 (0, 0))) 1 (.slice (some ⟨q28, 0, none⟩) 1 1) 1 [.iface 88 (.agg #[.string ⟨#[]⟩, .string nm, ptr0 rv, .string ⟨#[]⟩, .string ⟨#[]⟩, .pointer none])] := .inl ⟨_, 1, rfl, cells_block (set_at _ _ _) rfl⟩
  generalize A3.set q28 (.cells #[.iface 88 (.agg #[.string ⟨#[]⟩, .string nm, ptr0 rv, .string ⟨#[]⟩, .string ⟨#[]⟩, .pointer none])] 116 (0, 0)) = A4 at hP lq hrow ⊢
  have hq4 : IsRn A4 t q := hq.le (View.le_trans hA3 lq)
  have hq5 := hq4
  obtain ⟨p, hqc, hy⟩ := hq5
  obtain ⟨k, st, tag, val, an, h, l, f, row, col, al, kids, rfl⟩ := t.ex
  obtain ⟨cv, ps, hp, -, -, -⟩ := hy.open
  have hk1 : k ≠ 1 := by have : k = 4 := hk; omega
  refine call_ov hP (pipe1 A4 q p 88 134 (.agg #[.string ⟨#[]⟩, .string nm, ptr0 rv, .string ⟨#[]⟩, .string ⟨#[]⟩, .pointer none]) (.slice (some ⟨q28, 0, none⟩) 1 1) k st tag val an cv h l f row col hqc hp hk1 meth_fm (by kernel_rfl) hrow (fun x A' => RP (mfl kids nm sv) x A' ∧ A4 ≤ A') (matchV134 A4 (.mk k st tag val an h l f row col al kids) q nm sv rv (hrv.le lq) hq4 hk ht hev hkl hnm)) ?_
  clear hP
  rintro _ A5 ⟨x, rfl, hx, hA5⟩ hP
  have hq6 := hq4.le hA5
  cases x with
  | none =>
    replace hx : RP (mfl kids nm sv) (.pointer none) A5 := hx
    refine hR _ _ _ ?_; clear hR R
    iterate 5 (refine seqX_hide2 fun R hR => ?_; simp [go_sem, hcz, hco, d63, d36, d76, d67, d73, d37, d87, d78, d86, d68, d83, d38, d288, d828, d287, d728, d286, d628, d283, d328]; refine hR _ _ _ ?_; clear hR R)
    rw [seqX_nil]
    refine hK _ _ _ ?_; clear hK K
    refine hN6 _ _ _ ?_
    refine xc_two fun N7 hN7 => ?_
    refine xc_two fun N8 hN8 => ?_
    refine xc_reg2 fun K hK => ?_
    simp only [rall, rsl, gres]
    iterate 2 (refine seqX_hide2 fun R hR => ?_; simp [go_sem, hcz, hco, d63, d36, d76, d67, d73, d37, d87, d78, d86, d68, d83, d38, d288, d828, d287, d728, d286, d628, d283, d328]; refine hR _ _ _ ?_; clear hR R)
    rw [seqX_nil]
    refine hK _ _ _ ?_; clear hK K
    refine hN8 _ _ _ ?_
    refine xc_iffalse (by simp [go_sem, hcz, hco, d63, d36, d76, d67, d73, d37, d87, d78, d86, d68, d83, d38, d288, d828, d287, d728, d286, d628, d283, d328]) ?_
    refine hN7 _ _ _ ?_
    refine xc_two fun N9 hN9 => ?_
    refine xc_reg2 fun K hK => ?_
    simp only [rall, rsl, gres]
    (refine seqX_hide2 fun R hR => ?_; simp [go_sem, hcz, hco, d63, d36, d76, d67, d73, d37, d87, d78, d86, d68, d83, d38, d288, d828, d287, d728, d286, d628, d283, d328]; refine hR _ _ _ ?_; clear hR R)
    refine seqX_hide2 fun R hR => ?_
    simp [go_sem, hcz, hco, d63, d36, d76, d67, d73, d37, d87, d78, d86, d68, d83, d38, d288, d828, d287, d728, d286, d628, d283, d328]
    refine call_ov hP (treeOf28 A5 _ q hq6 hpt.nt (by omega)) ?_
    clear hP
    rintro _ A6 ⟨c1, rfl, hc1, hA6⟩ hP
    have hcz1 := hc1.size
    have hco1 := hc1.ones
    refine hR _ _ _ ?_; clear hR R
    (refine seqX_hide2 fun R hR => ?_; simp [go_sem, hcz, hco, d63, d36, d76, d67, d73, d37, d87, d78, d86, d68, d83, d38, d288, d828, d287, d728, d286, d628, d283, d328, hcz1, hco1]; refine hR _ _ _ ?_; clear hR R)
    refine seqX_hide2 fun R hR => ?_
    simp [go_sem, hcz, hco, d63, d36, d76, d67, d73, d37, d87, d78, d86, d68, d83, d38, d288, d828, d287, d728, d286, d628, d283, d328, hcz1, hco1]
    refine call_ov hP (found51 A6 (mfl kids nm sv) _ (hx.le hA6) (fun y hy => ?_)) ?_
    · have hm := fld_mem (mfl_fld hy).1
      exact ⟨(PT.kid hpt hm).nt, by have := nds_kid' (t := .mk k st tag val an h l f row col al kids) hm; omega⟩
    clear hP
    rintro fv A7 ⟨hfv, hA7⟩ hP
    have hfs := hfv.slice
    obtain ⟨fb, fc, rfl⟩ := hfs
    have hidle : Idle Try.prog { target := .fn (.func 59) #[.pointer (some ⟨q6, 0, none⟩), .pointer (some ⟨q7, 0, none⟩), .pointer (some ⟨q8, 0, none⟩)], args := #[] } := by
      intro w'
      exact ⟨_, _, 59, #[.pointer (some ⟨q6, 0, none⟩), .pointer (some ⟨q7, 0, none⟩), .pointer (some ⟨q8, 0, none⟩)], rfl, by simp [go_sem, invoke], caught59 _ _ _ _⟩
    refine hR _ _ _ ?_; clear hR R
    refine seqX_hide2 fun R hR => ?_
    simp [go_sem, hcz, hco, d63, d36, d76, d67, d73, d37, d87, d78, d86, d68, d83, d38, d288, d828, d287, d728, d286, d628, d283, d328, hcz1, hco1]
    refine hR _ _ _ ?_; clear hR R
    refine seqX_hide2 fun R hR => ?_
    simp [go_sem, hcz, hco, d63, d36, d76, d67, d73, d37, d87, d78, d86, d68, d83, d38, d288, d828, d287, d728, d286, d628, d283, d328, hcz1, hco1]
    refine hR _ _ _ ?_; clear hR R
    refine seqX_hide2 fun R hR => ?_
    simp [go_sem, hcz, hco, d63, d36, d76, d67, d73, d37, d87, d78, d86, d68, d83, d38, d288, d828, d287, d728, d286, d628, d283, d328, hcz1, hco1]
    refine hR _ _ _ ?_; clear hR R
    rw [seqX_nil]
    refine hK _ _ _ ?_; clear hK K
    refine hN9 _ _ _ ?_
    simp [go_sem, hcz, hco, d63, d36, d76, d67, d73, d37, d87, d78, d86, d68, d83, d38, d288, d828, d287, d728, d286, d628, d283, d328, hcz1, hco1]
    refine ⟨hidle, c1, _, ⟨rfl, rfl⟩, hc1.le ?_, hfv.le ?_, View.le_trans hA2 (View.le_trans hA3 (View.le_trans lq (View.le_trans hA5 (View.le_trans hA6 (View.le_trans hA7 ?_)))))⟩
    · refine View.le_trans hA7 ?_
      exact le_ov hP
    · exact le_ov hP
    · exact le_ov hP
  | some b =>
    replace hx : RP (mfl kids nm sv) (ptr0 b) A5 := hx
    refine hR _ _ _ ?_; clear hR R
    iterate 5 (refine seqX_hide2 fun R hR => ?_; simp [go_sem, hcz, hco, d63, d36, d76, d67, d73, d37, d87, d78, d86, d68, d83, d38, d288, d828, d287, d728, d286, d628, d283, d328]; refine hR _ _ _ ?_; clear hR R)
    rw [seqX_nil]
    refine hK _ _ _ ?_; clear hK K
    refine hN6 _ _ _ ?_
    refine xc_two fun N7 hN7 => ?_
    refine xc_two fun N8 hN8 => ?_
    refine xc_reg2 fun K hK => ?_
    simp only [rall, rsl, gres]
    iterate 2 (refine seqX_hide2 fun R hR => ?_; simp [go_sem, hcz, hco, d63, d36, d76, d67, d73, d37, d87, d78, d86, d68, d83, d38, d288, d828, d287, d728, d286, d628, d283, d328]; refine hR _ _ _ ?_; clear hR R)
    rw [seqX_nil]
    refine hK _ _ _ ?_; clear hK K
    refine hN8 _ _ _ ?_
    refine xc_iffalse (by simp [go_sem, hcz, hco, d63, d36, d76, d67, d73, d37, d87, d78, d86, d68, d83, d38, d288, d828, d287, d728, d286, d628, d283, d328]) ?_
    refine hN7 _ _ _ ?_
    refine xc_two fun N9 hN9 => ?_
    refine xc_reg2 fun K hK => ?_
    simp only [rall, rsl, gres]
    (refine seqX_hide2 fun R hR => ?_; simp [go_sem, hcz, hco, d63, d36, d76, d67, d73, d37, d87, d78, d86, d68, d83, d38, d288, d828, d287, d728, d286, d628, d283, d328]; refine hR _ _ _ ?_; clear hR R)
    refine seqX_hide2 fun R hR => ?_
    simp [go_sem, hcz, hco, d63, d36, d76, d67, d73, d37, d87, d78, d86, d68, d83, d38, d288, d828, d287, d728, d286, d628, d283, d328]
    refine call_ov hP (treeOf28 A5 _ q hq6 hpt.nt (by omega)) ?_
    clear hP
    rintro _ A6 ⟨c1, rfl, hc1, hA6⟩ hP
    have hcz1 := hc1.size
    have hco1 := hc1.ones
    refine hR _ _ _ ?_; clear hR R
    (refine seqX_hide2 fun R hR => ?_; simp [go_sem, hcz, hco, d63, d36, d76, d67, d73, d37, d87, d78, d86, d68, d83, d38, d288, d828, d287, d728, d286, d628, d283, d328, hcz1, hco1]; refine hR _ _ _ ?_; clear hR R)
    refine seqX_hide2 fun R hR => ?_
    simp [go_sem, hcz, hco, d63, d36, d76, d67, d73, d37, d87, d78, d86, d68, d83, d38, d288, d828, d287, d728, d286, d628, d283, d328, hcz1, hco1]
    refine call_ov hP (found51 A6 (mfl kids nm sv) _ (hx.le hA6) (fun y hy => ?_)) ?_
    · have hm := fld_mem (mfl_fld hy).1
      exact ⟨(PT.kid hpt hm).nt, by have := nds_kid' (t := .mk k st tag val an h l f row col al kids) hm; omega⟩
    clear hP
    rintro fv A7 ⟨hfv, hA7⟩ hP
    have hfs := hfv.slice
    obtain ⟨fb, fc, rfl⟩ := hfs
    have hidle : Idle Try.prog { target := .fn (.func 59) #[.pointer (some ⟨q6, 0, none⟩), .pointer (some ⟨q7, 0, none⟩), .pointer (some ⟨q8, 0, none⟩)], args := #[] } := by
      intro w'
      exact ⟨_, _, 59, #[.pointer (some ⟨q6, 0, none⟩), .pointer (some ⟨q7, 0, none⟩), .pointer (some ⟨q8, 0, none⟩)], rfl, by simp [go_sem, invoke], caught59 _ _ _ _⟩
    refine hR _ _ _ ?_; clear hR R
    refine seqX_hide2 fun R hR => ?_
    simp [go_sem, hcz, hco, d63, d36, d76, d67, d73, d37, d87, d78, d86, d68, d83, d38, d288, d828, d287, d728, d286, d628, d283, d328, hcz1, hco1]
    refine hR _ _ _ ?_; clear hR R
    refine seqX_hide2 fun R hR => ?_
    simp [go_sem, hcz, hco, d63, d36, d76, d67, d73, d37, d87, d78, d86, d68, d83, d38, d288, d828, d287, d728, d286, d628, d283, d328, hcz1, hco1]
    refine hR _ _ _ ?_; clear hR R
    refine seqX_hide2 fun R hR => ?_
    simp [go_sem, hcz, hco, d63, d36, d76, d67, d73, d37, d87, d78, d86, d68, d83, d38, d288, d828, d287, d728, d286, d628, d283, d328, hcz1, hco1]
    refine hR _ _ _ ?_; clear hR R
    rw [seqX_nil]
    refine hK _ _ _ ?_; clear hK K
    refine hN9 _ _ _ ?_
    simp [go_sem, hcz, hco, d63, d36, d76, d67, d73, d37, d87, d78, d86, d68, d83, d38, d288, d828, d287, d728, d286, d628, d283, d328, hcz1, hco1]
    refine ⟨hidle, c1, _, ⟨rfl, rfl⟩, hc1.le ?_, hfv.le ?_, View.le_trans hA2 (View.le_trans hA3 (View.le_trans lq (View.le_trans hA5 (View.le_trans hA6 (View.le_trans hA7 ?_)))))⟩
    · refine View.le_trans hA7 ?_
      exact le_ov hP
    · exact le_ov hP
    · exact le_ov hP
end Go.Proofs.YtpinamipjddobaaV

/- Trees: FieldMatcher with a text to match. -/
import Derived.Test.YtpinamipjddobaaRZ
namespace Go.Proofs.YtpinamipjddobaaV
open Go.RowKit
set_option linter.unusedSimpArgs false
set_option linter.unusedVariables false
set_option maxRecDepth 20000 in
theorem keepS (b9 b2 b8 rv : Nat) (nm sv sf : ByteArray) (Bs : View) (h9 : Bs b9 = some (.cells #[.bool true] 4 (0, 0))) (h2 : Bs b2 = some (.cells #[.string ⟨#[]⟩, .string nm, ptr0 rv, .string sf, .string ⟨#[]⟩, .pointer none] 88 (0, 0))) (hrv : IsRn Bs (keyT sv) rv) : CB 136 b8 (.cells #[.pointer none] 62 (0, 0)) #[ptr0 b9, ptr0 b2, ptr0 b8] Bs (fun _ => True) (QV b8 sv) := by
  refine ⟨by kernel_rfl, ?_⟩
  intro A0 A x kp vp hbs hle h0 h6 hx _
  show VCalls Try.prog 136 #[ptr0 kp, ptr0 vp, ptr0 b9, ptr0 b2, ptr0 b8] A fun r A' => A0 ≤ A' ∧ QV b8 sv x A'
  have hBA := View.le_trans hbs hle
  have c9 := le_cell hBA (cell_of (i := 0) h9 rfl)
  have c2 := le_cell hBA (cell_of (i := 2) h2 rfl)
  obtain ⟨pv, cvv, hrv1, hpv⟩ := key_node (hrv.le hBA)
  have d3 := cell_of (i := 3) hpv rfl
  obtain ⟨k, st, tag, val, an, h, l, f, row, col, al, kids, rfl⟩ := x.ex
  obtain ⟨cv, ps, hp, -, -, -⟩ := (hx.le hle).open
  have c3 := cell_of (i := 3) hp rfl
  refine xcalls Try.func136 rfl (by simp [Try.ntmps136]) ?_
  simp only [Try.f136]
  have hP : Priv A (addrs []) := Priv.nil A
  show xc _ _ _ _ _ _ (ov A [])
  refine xc_two fun N1 hN1 => ?_
  rw [xc_draws]
  refine vdrawK [(0, true), (1, true), (2, true), (3, true), (4, true), (5, true), (6, true), (7, true), (8, true), (9, true), (10, true), (11, true), (12, true), (13, true), (14, true)] (ov A []) mixed (by kernel_rfl) (View.le_refl _) fun K hK => ?_
  simp only [rsl, gres]
  iterate 9 (refine seqR_hide fun R hR => ?_; simp [go_sem, bc hP c9, bc hP c2, bc hP c3, bc hP d3]; refine hR _ _ _ ?_; clear hR R)
  refine seqR_hide fun R hR => ?_
  simp [go_sem, bc hP c9, bc hP c2, bc hP c3, bc hP d3]
  refine call_same hP (ynode48 A rv pv 8 0 e0 sv e0 cvv e0 e0 e0 0 0 hrv1 hpv (by decide)) ?_
  rintro _ rfl
  by_cases hv : val = sv
  rotate_left
  · have hvb := bytes_ne hv
    refine ⟨View.le_refl _, hR _ _ _ ?_⟩; clear hR R
    iterate 5 (refine seqR_hide fun R hR => ?_; simp [go_sem, bc hP c9, bc hP c2, bc hP c3, bc hP d3, hv, hvb]; refine hR _ _ _ ?_; clear hR R)
    rw [seqR_nil]
    refine hK _ _ _ ?_; clear hK K
    refine hN1 _ _ _ ?_
    refine xc_iffalse (by simp [go_sem, bc hP c9, bc hP c2, bc hP c3, bc hP d3, hv, hvb]) ?_
    simp [go_sem, bc hP c9, bc hP c2, bc hP c3, bc hP d3, hv, hvb]
    refine ⟨hle, ?_⟩
    rw [QV, if_neg (show ¬ (Tr.mk k st tag val an h l f row col al kids).value = sv from hv)]
    exact h6
  subst hv
  refine ⟨View.le_refl _, hR _ _ _ ?_⟩; clear hR R
  iterate 5 (refine seqR_hide fun R hR => ?_; simp [go_sem, bc hP c9, bc hP c2, bc hP c3, bc hP d3]; refine hR _ _ _ ?_; clear hR R)
  rw [seqR_nil]
  refine hK _ _ _ ?_; clear hK K
  refine hN1 _ _ _ ?_
  refine xc_iftrue (by simp [go_sem, bc hP c9, bc hP c2, bc hP c3, bc hP d3]) ?_
  refine xc_reg2 fun K hK => ?_
  simp only [rall, rsl, gres]
  (refine seqX_hide2 fun R hR => ?_; simp [go_sem, bc hP c9, bc hP c2, bc hP c3, bc hP d3]; refine hR _ _ _ ?_; clear hR R)
  refine seqX_hide2 fun R hR => ?_
  simp [go_sem, bc hP c9, bc hP c2, bc hP c3, bc hP d3]
  refine call_ov hP (newRNodeS A vp) ?_
  clear hP
  rintro _ A2 ⟨rn, rfl, hrn, -, hA2⟩ hP
  have h62 := hA2 _ _ h6
  have hs := cstore (L := []) hP ti62 h62 (u := ptr0 rn) rfl
  have hsa := hs.1
  refine hR _ _ _ ?_; clear hR R
  refine seqX_hide2 fun R hR => ?_
  simp [go_sem, hsa]
  refine hR _ _ _ ?_; clear hR R
  rw [seqX_nil]
  refine hK _ _ _ ?_; clear hK K
  simp [go_sem, hsa]
  have l2 : A0 ≤ A2.set b8 (.cells #[ptr0 rn] 62 (0, 0)) := le_set0 (View.le_trans hle hA2) h0
  have nk : rn ≠ b8 := fun hx => by rw [hx, h62] at hrn; injection hrn with h; injection h with h1 h2; cases h2
  refine ⟨l2, ?_⟩
  rw [QV, if_pos (show (Tr.mk k st tag val an h l f row col al kids).value = val from rfl)]
  exact ⟨rn, set_at _ _ _, vp, (set_other nk).trans hrn, hx.le l2⟩
set_option maxRecDepth 20000 in
set_option maxHeartbeats 400000 in
theorem matchS134 (A : View) (t : Tr) (q : Nat) (nm sv : ByteArray) (hq : IsRn A t q) (hk : t.kind = 4) (ht : t.tag ≠ tNull) (hev : t.kids.length % 2 = 0) (hkl : t.kids.length ≤ 1000000) (hnm : nm ≠ e0) (hsv : sv ≠ e0) :
    VCalls Try.prog 134 #[.agg #[.string ⟨#[]⟩, .string nm, .pointer none, .string sv, .string ⟨#[]⟩, .pointer none], ptr0 q] A fun r A' => ∃ x : Option Nat, r = .tuple #[(match x with | none => .pointer none | some b => ptr0 b), .nilIface] ∧ (RP (mfl t.kids nm sv) (match x with | none => .pointer none | some b => ptr0 b) A' ∧ A ≤ A') := by
  have hs1 := (ne_empty hsv).1
  have hs2 := (ne_empty hsv).2
  have hn1 := (ne_empty hnm).1
  have hn2 := (ne_empty hnm).2
  refine xcalls Try.func134 rfl (by simp [Try.ntmps134]) ?_
  simp only [Try.f134]
  have hP : Priv A (addrs []) := Priv.nil A
  show xc _ _ _ _ _ _ (ov A [])
  refine xc_two fun N1 hN1 => ?_
  refine xc_reg2 fun K hK => ?_
  simp only [rall, rsl, gres]
  refine seqX_hide2 fun R hR => ?_
  simp [go_sem, hn1, hn2, hs1, hs2]
  intro q2 hq2
  replace hP := hP.cons hq2
  clear hq2
  refine hR _ _ _ ?_; clear hR R
  iterate 2 (refine seqX_hide2 fun R hR => ?_; simp [go_sem, hn1, hn2, hs1, hs2]; refine hR _ _ _ ?_; clear hR R)
  rw [seqX_nil]
  refine hK _ _ _ ?_; clear hK K
  refine hN1 _ _ _ ?_
  refine xc_two fun N2 hN2 => ?_
  refine xc_two fun N3 hN3 => ?_
  refine xc_reg2 fun K hK => ?_
  simp only [rall, rsl, gres]
  iterate 8 (refine seqX_hide2 fun R hR => ?_; simp [go_sem, hn1, hn2, hs1, hs2]; refine hR _ _ _ ?_; clear hR R)
  rw [seqX_nil]
  refine hK _ _ _ ?_; clear hK K
  refine hN3 _ _ _ ?_
  refine xc_iftrue (by simp [go_sem, hn1, hn2, hs1, hs2]) ?_
  refine xc_reg2 fun K hK => ?_
  simp only [rall, rsl, gres]
  iterate 2 (refine seqX_hide2 fun R hR => ?_; simp [go_sem, hn1, hn2, hs1, hs2]; refine hR _ _ _ ?_; clear hR R)
  refine seqX_hide2 fun R hR => ?_
  simp [go_sem, hn1, hn2, hs1, hs2]
  refine call_ov hP (newScalar78 A sv) ?_
  clear hP
  rintro _ A1 ⟨rv, rfl, hrv, hA1⟩ hP
  simp only [addrs_cons, addrs_nil] at hP
  replace hq := hq.le hA1
  have hq0 := hq
  have hk1 : t.kind ≠ 1 := by omega
  have hmiss := missing39 A1 t q hq0 hk1
  rw [decide_eq_false ht] at hmiss
  have herr := errIf79 A1 t q 4 hq0 hk1 ht hk (fun _ => hev) hkl
  obtain ⟨p, hqc, hy⟩ := hq
  obtain ⟨k, st, tag, val, an, h, l, f, row, col, al, kids, rfl⟩ := t.ex
  obtain ⟨cv, ps, hp, hrow, hpl, hyk⟩ := hy.open
  obtain ⟨cb, cc, rfl⟩ := hrow.form
  replace hk1 : k ≠ 1 := hk1
  replace hev : kids.length % 2 = 0 := hev
  replace hkl : kids.length ≤ 1000000 := hkl
  refine hR _ _ _ ?_; clear hR R
  (refine seqX_hide2 fun R hR => ?_; simp [go_sem, hn1, hn2, hs1, hs2]; refine hR _ _ _ ?_; clear hR R)
  refine seqX_hide2 fun R hR => ?_
  simp [go_sem, hn1, hn2, hs1, hs2]
  refine hR _ _ _ ?_; clear hR R
  rw [seqX_nil]
  refine hK _ _ _ ?_; clear hK K
  refine hN2 _ _ _ ?_
  refine xc_two fun N4 hN4 => ?_
  refine xc_two fun N5 hN5 => ?_
  refine xc_reg2 fun K hK => ?_
  simp only [rall, rsl, gres]
  (refine seqX_hide2 fun R hR => ?_; simp [go_sem, hn1, hn2, hs1, hs2]; refine hR _ _ _ ?_; clear hR R)
  refine seqX_hide2 fun R hR => ?_
  simp [go_sem, hn1, hn2, hs1, hs2]
  refine call_same hP hmiss ?_
  rintro _ rfl
  refine hR _ _ _ ?_; clear hR R
  rw [seqX_nil]
  refine hK _ _ _ ?_; clear hK K
  refine hN5 _ _ _ ?_
  refine xc_iffalse (by simp [go_sem, hn1, hn2, hs1, hs2]) ?_
  refine hN4 _ _ _ ?_
  refine xc_two fun N6 hN6 => ?_
  refine xc_two fun N7 hN7 => ?_
  refine xc_reg2 fun K hK => ?_
  simp only [rall, rsl, gres]
  iterate 3 (refine seqX_hide2 fun R hR => ?_; simp [go_sem, hn1, hn2, hs1, hs2]; refine hR _ _ _ ?_; clear hR R)
  rw [seqX_nil]
  refine hK _ _ _ ?_; clear hK K
  refine hN7 _ _ _ ?_
  refine xc_iffalse (by simp [go_sem, hn1, hn2, hs1, hs2]) ?_
  refine hN6 _ _ _ ?_
  refine xc_two fun N8 hN8 => ?_
  refine xc_two fun N9 hN9 => ?_
  refine xc_reg2 fun K hK => ?_
  simp only [rall, rsl, gres]
  (refine seqX_hide2 fun R hR => ?_; simp [go_sem, hn1, hn2, hs1, hs2]; refine hR _ _ _ ?_; clear hR R)
  refine seqX_hide2 fun R hR => ?_
  simp [go_sem, hn1, hn2, hs1, hs2]
  refine call_same hP herr ?_
  rintro _ rfl
  refine hR _ _ _ ?_; clear hR R
  (refine seqX_hide2 fun R hR => ?_; simp [go_sem, hn1, hn2, hs1, hs2]; refine hR _ _ _ ?_; clear hR R)
  rw [seqX_nil]
  refine hK _ _ _ ?_; clear hK K
  refine hN9 _ _ _ ?_
  refine xc_two fun N10 hN10 => ?_
  refine xc_reg2 fun K hK => ?_
  simp only [rall, rsl, gres]
  iterate 2 (refine seqX_hide2 fun R hR => ?_; simp [go_sem, hn1, hn2, hs1, hs2]; refine hR _ _ _ ?_; clear hR R)
  rw [seqX_nil]
  refine hK _ _ _ ?_; clear hK K
  refine hN10 _ _ _ ?_
  refine xc_iffalse (by simp [go_sem, hn1, hn2, hs1, hs2]) ?_
  refine hN8 _ _ _ ?_
  refine xc_two fun N11 hN11 => ?_
  refine xc_reg2 fun K hK => ?_
  simp only [rall, rsl, gres]
  refine seqX_hide2 fun R hR => ?_
  simp [go_sem, hn1, hn2, hs1, hs2]
  intro q8 hq8
  replace hP := hP.cons hq8
  clear hq8
  have d82 : q8 ≠ q2 := (hP.ne q2 (by simp [addrs])).1
  have d28 : q2 ≠ q8 := (hP.ne q2 (by simp [addrs])).2
  refine hR _ _ _ ?_; clear hR R
  rw [seqX_nil]
  refine hK _ _ _ ?_; clear hK K
  refine hN11 _ _ _ ?_
  refine xc_two fun N12 hN12 => ?_
  refine xc_reg2 fun K hK => ?_
  simp only [rall, rsl, gres]
  iterate 3 (refine seqX_hide2 fun R hR => ?_; simp [go_sem, hn1, hn2, hs1, hs2, d82, d28]; refine hR _ _ _ ?_; clear hR R)
  refine seqX_hide2 fun R hR => ?_
  simp [go_sem, hn1, hn2, hs1, hs2, d82, d28]
  intro q9 hq9
  replace hP := hP.cons hq9
  clear hq9
  have d98 : q9 ≠ q8 := (hP.ne q8 (by simp [addrs])).1
  have d89 : q8 ≠ q9 := (hP.ne q8 (by simp [addrs])).2
  have d92 : q9 ≠ q2 := (hP.ne q2 (by simp [addrs])).1
  have d29 : q2 ≠ q9 := (hP.ne q2 (by simp [addrs])).2
  refine hR _ _ _ ?_; clear hR R
  refine seqX_hide2 fun R hR => ?_
  simp [go_sem, hn1, hn2, hs1, hs2, d82, d28, d98, d89, d92, d29]
  refine hR _ _ _ ?_; clear hR R
  rw [seqX_nil]
  refine hK _ _ _ ?_; clear hK K
  refine hN12 _ _ _ ?_
  refine xc_two fun N13 hN13 => ?_
  rw [xc_draws]
  refine vdrawK [(0, true), (1, true), (2, true), (3, true), (4, true), (5, true), (6, false)] (ov A1 [(q9, .cells #[.bool true] 4 (0, 0)), (q8, .cells #[.pointer none] 62 (0, 0)), (q2, .cells #[.string ⟨#[]⟩, .string nm, ptr0 rv, .string sv, .string ⟨#[]⟩, .pointer none] 88 (0, 0))]) mixed (by kernel_rfl) (View.le_refl _) fun K hK => ?_
  simp only [rsl, gres]
  (refine seqR_hide fun R hR => ?_; simp [go_sem, hn1, hn2, hs1, hs2, d82, d28, d98, d89, d92, d29]; refine hR _ _ _ ?_; clear hR R)
  refine seqR_hide fun R hR => ?_
  simp [go_sem, hn1, hn2, hs1, hs2, d82, d28, d98, d89, d92, d29]
  refine call_same hP (content36 A1 q p k st tag val an (.slice cb kids.length cc) h l f row col hqc hp hk1) ?_
  rintro _ rfl
  refine ⟨View.le_refl _, hR _ _ _ ?_⟩; clear hR R
  iterate 3 (refine seqR_hide fun R hR => ?_; simp [go_sem, hn1, hn2, hs1, hs2, d82, d28, d98, d89, d92, d29]; refine hR _ _ _ ?_; clear hR R)
  refine seqR_hide fun R hR => ?_
  simp [go_sem, hn1, hn2, hs1, hs2, d82, d28, d98, d89, d92, d29]
  intro q53 hq53
  replace hP := hP.cons hq53
  clear hq53
  have d539 : q53 ≠ q9 := (hP.ne q9 (by simp [addrs])).1
  have d953 : q9 ≠ q53 := (hP.ne q9 (by simp [addrs])).2
  have d538 : q53 ≠ q8 := (hP.ne q8 (by simp [addrs])).1
  have d853 : q8 ≠ q53 := (hP.ne q8 (by simp [addrs])).2
  have d532 : q53 ≠ q2 := (hP.ne q2 (by simp [addrs])).1
  have d253 : q2 ≠ q53 := (hP.ne q2 (by simp [addrs])).2
  refine hR _ _ _ ?_; clear hR R
  refine seqR_hide fun R hR => ?_
  simp [go_sem, hn1, hn2, hs1, hs2, d82, d28, d98, d89, d92, d29, d539, d953, d538, d853, d532, d253]
  obtain ⟨eq53, hPn, nq53⟩ := sinkI (A := A1) (L := [(q53, .cells #[.string nm] 9 (0, 0)), (q9, .cells #[.bool true] 4 (0, 0)), (q8, .cells #[.pointer none] 62 (0, 0)), (q2, .cells #[.string ⟨#[]⟩, .string nm, ptr0 rv, .string sv, .string ⟨#[]⟩, .pointer none] 88 (0, 0))]) 0 hP rfl
  rw [eq53]
  clear eq53 hP; have hP := hPn; clear hPn
  simp only [List.eraseIdx_cons_zero, List.eraseIdx_cons_succ, addrs_cons, addrs_nil] at hP ⊢
  obtain ⟨eq9, hPn, nq9⟩ := sinkI (A := A1.set q53 (.cells #[.string nm] 9 (0, 0))) (L := [(q9, .cells #[.bool true] 4 (0, 0)), (q8, .cells #[.pointer none] 62 (0, 0)), (q2, .cells #[.string ⟨#[]⟩, .string nm, ptr0 rv, .string sv, .string ⟨#[]⟩, .pointer none] 88 (0, 0))]) 0 hP rfl
  rw [eq9]
  clear eq9 hP; have hP := hPn; clear hPn
  simp only [List.eraseIdx_cons_zero, List.eraseIdx_cons_succ, addrs_cons, addrs_nil] at hP ⊢
  obtain ⟨eq2, hPn, nq2⟩ := sinkI (A := (A1.set q53 (.cells #[.string nm] 9 (0, 0))).set q9 (.cells #[.bool true] 4 (0, 0))) (L := [(q8, .cells #[.pointer none] 62 (0, 0)), (q2, .cells #[.string ⟨#[]⟩, .string nm, ptr0 rv, .string sv, .string ⟨#[]⟩, .pointer none] 88 (0, 0))]) 1 hP rfl
  rw [eq2]
  clear eq2 hP; have hP := hPn; clear hPn
  simp only [List.eraseIdx_cons_zero, List.eraseIdx_cons_succ, addrs_cons, addrs_nil] at hP ⊢
  obtain ⟨eq8, hPn, nq8⟩ := sinkI (A := ((A1.set q53 (.cells #[.string nm] 9 (0, 0))).set q9 (.cells #[.bool true] 4 (0, 0))).set q2 (.cells #[.string ⟨#[]⟩, .string nm, ptr0 rv, .string sv, .string ⟨#[]⟩, .pointer none] 88 (0, 0))) (L := [(q8, .cells #[.pointer none] 62 (0, 0))]) 0 hP rfl
  rw [eq8]
  clear eq8 hP; have hP := hPn; clear hPn
  simp only [List.eraseIdx_cons_zero, List.eraseIdx_cons_succ, addrs_cons, addrs_nil] at hP ⊢
  have l0 : A1 ≤ ((A1.set q53 (.cells #[.string nm] 9 (0, 0))).set q9 (.cells #[.bool true] 4 (0, 0))).set q2 (.cells #[.string ⟨#[]⟩, .string nm, ptr0 rv, .string sv, .string ⟨#[]⟩, .pointer none] 88 (0, 0)) := View.le_trans (le_set nq53) (View.le_trans (le_set nq9) (le_set nq2))
  have y2 : (((A1.set q53 (.cells #[.string nm] 9 (0, 0))).set q9 (.cells #[.bool true] 4 (0, 0))).set q2 (.cells #[.string ⟨#[]⟩, .string nm, ptr0 rv, .string sv, .string ⟨#[]⟩, .pointer none] 88 (0, 0))) q2 = some (.cells #[.string ⟨#[]⟩, .string nm, ptr0 rv, .string sv, .string ⟨#[]⟩, .pointer none] 88 (0, 0)) := set_at _ _ _
  have y9 : (((A1.set q53 (.cells #[.string nm] 9 (0, 0))).set q9 (.cells #[.bool true] 4 (0, 0))).set q2 (.cells #[.string ⟨#[]⟩, .string nm, ptr0 rv, .string sv, .string ⟨#[]⟩, .pointer none] 88 (0, 0))) q9 = some (.cells #[.bool true] 4 (0, 0)) := by rw [set_other d92]; exact set_at _ _ _
  have y53 : (((A1.set q53 (.cells #[.string nm] 9 (0, 0))).set q9 (.cells #[.bool true] 4 (0, 0))).set q2 (.cells #[.string ⟨#[]⟩, .string nm, ptr0 rv, .string sv, .string ⟨#[]⟩, .pointer none] 88 (0, 0))) q53 = some (.cells #[.string nm] 9 (0, 0)) := by rw [set_other d532, set_other d539]; exact set_at _ _ _
  generalize ((A1.set q53 (.cells #[.string nm] 9 (0, 0))).set q9 (.cells #[.bool true] 4 (0, 0))).set q2 (.cells #[.string ⟨#[]⟩, .string nm, ptr0 rv, .string sv, .string ⟨#[]⟩, .pointer none] 88 (0, 0)) = Bs at hP l0 y2 y9 y53 nq8 ⊢
  refine call_ov hP (visitG _ _ _ Bs _ _ Bs _ q8 ⟨q53, 0, none⟩ 1 nm kids ps (.slice cb kids.length cc) (keepS q9 q2 q8 rv nm sv sv Bs y9 y2 (hrv.le l0)) (View.le_refl _) (le_set nq8) nq8 (set_at _ _ _) (cell_of (i := 0) y53 rfl) (hrow.le l0) hpl (fun j hj => let ⟨q, h1, h2⟩ := hyk j hj; ⟨q, h1, h2.le l0⟩) hev hkl (fun _ _ => trivial)) ?_
  clear hP
  rintro _ A3 ⟨hA3, hF⟩ hP
  have hA := View.le_trans hA1 (View.le_trans l0 hA3)
  cases hfo : mfl kids nm sv with
  | none =>
    have hF0 : A3 q8 = some (.cells #[.pointer none] 62 (0, 0)) := by
      cases hf2 : fld kids nm with
      | none => rw [hf2] at hF; exact hF
      | some x =>
        rw [hf2] at hF
        rw [mfl, hf2, Option.bind_some] at hfo
        have hne : ¬ x.value = sv := fun e => by rw [if_pos e] at hfo; cases hfo
        have hF2 : QV q8 sv x A3 := hF
        rwa [QV, if_neg hne] at hF2
    have c8 := cell_of (i := 0) hF0 rfl
    have c25 := le_cell hA3 (cell_of (i := 5) y2 rfl)
    refine hR _ _ _ ?_; clear hR R
    rw [seqR_nil]
    refine hK _ _ _ ?_; clear hK K
    refine hN13 _ _ _ ?_
    refine xc_two fun N14 hN14 => ?_
    refine xc_two fun N15 hN15 => ?_
    refine xc_reg2 fun K hK => ?_
    simp only [rall, rsl, gres]
    iterate 2 (refine seqX_hide2 fun R hR => ?_; simp [go_sem, hn1, hn2, hs1, hs2, d82, d28, d98, d89, d92, d29, d539, d953, d538, d853, d532, d253, bc hP c8, bc hP c25]; refine hR _ _ _ ?_; clear hR R)
    rw [seqX_nil]
    refine hK _ _ _ ?_; clear hK K
    refine hN15 _ _ _ ?_
    refine xc_iffalse (by simp [go_sem, hn1, hn2, hs1, hs2, d82, d28, d98, d89, d92, d29, d539, d953, d538, d853, d532, d253, bc hP c8, bc hP c25]) ?_
    refine hN14 _ _ _ ?_
    refine xc_two fun N16 hN16 => ?_
    refine xc_two fun N17 hN17 => ?_
    refine xc_reg2 fun K hK => ?_
    simp only [rall, rsl, gres]
    iterate 3 (refine seqX_hide2 fun R hR => ?_; simp [go_sem, hn1, hn2, hs1, hs2, d82, d28, d98, d89, d92, d29, d539, d953, d538, d853, d532, d253, bc hP c8, bc hP c25]; refine hR _ _ _ ?_; clear hR R)
    rw [seqX_nil]
    refine hK _ _ _ ?_; clear hK K
    refine hN17 _ _ _ ?_
    refine xc_iffalse (by simp [go_sem, hn1, hn2, hs1, hs2, d82, d28, d98, d89, d92, d29, d539, d953, d538, d853, d532, d253, bc hP c8, bc hP c25]) ?_
    refine hN16 _ _ _ ?_
    refine xc_two fun N18 hN18 => ?_
    refine xc_reg2 fun K hK => ?_
    simp only [rall, rsl, gres]
    iterate 2 (refine seqX_hide2 fun R hR => ?_; simp [go_sem, hn1, hn2, hs1, hs2, d82, d28, d98, d89, d92, d29, d539, d953, d538, d853, d532, d253, bc hP c8, bc hP c25]; refine hR _ _ _ ?_; clear hR R)
    rw [seqX_nil]
    refine hK _ _ _ ?_; clear hK K
    refine hN18 _ _ _ ?_
    simp [go_sem, hn1, hn2, hs1, hs2, d82, d28, d98, d89, d92, d29, d539, d953, d538, d853, d532, d253, bc hP c8, bc hP c25]
    rw [show (Tr.mk k st tag val an h l f row col al kids).kids = kids from rfl, hfo]
    exact ⟨none, rfl, rfl, hA⟩
  | some x =>
    obtain ⟨rn, h8, hrn⟩ : QM q8 x A3 := by
      cases hf2 : fld kids nm with
      | none => rw [mfl, hf2] at hfo; cases hfo
      | some y =>
        rw [hf2] at hF
        rw [mfl, hf2, Option.bind_some] at hfo
        by_cases e : y.value = sv
        · rw [if_pos e] at hfo
          obtain rfl := Option.some.inj hfo
          have hF2 : QV q8 sv y A3 := hF
          rwa [QV, if_pos e] at hF2
        · rw [if_neg e] at hfo; cases hfo
    have c8 := cell_of (i := 0) h8 rfl
    refine hR _ _ _ ?_; clear hR R
    rw [seqR_nil]
    refine hK _ _ _ ?_; clear hK K
    refine hN13 _ _ _ ?_
    refine xc_two fun N14 hN14 => ?_
    refine xc_two fun N15 hN15 => ?_
    refine xc_reg2 fun K hK => ?_
    simp only [rall, rsl, gres]
    iterate 2 (refine seqX_hide2 fun R hR => ?_; simp [go_sem, hn1, hn2, hs1, hs2, d82, d28, d98, d89, d92, d29, d539, d953, d538, d853, d532, d253, bc hP c8]; refine hR _ _ _ ?_; clear hR R)
    rw [seqX_nil]
    refine hK _ _ _ ?_; clear hK K
    refine hN15 _ _ _ ?_
    refine xc_iftrue (by simp [go_sem, hn1, hn2, hs1, hs2, d82, d28, d98, d89, d92, d29, d539, d953, d538, d853, d532, d253, bc hP c8]) ?_
    refine xc_two fun N16 hN16 => ?_
    refine xc_reg2 fun K hK => ?_
    simp only [rall, rsl, gres]
    iterate 3 (refine seqX_hide2 fun R hR => ?_; simp [go_sem, hn1, hn2, hs1, hs2, d82, d28, d98, d89, d92, d29, d539, d953, d538, d853, d532, d253, bc hP c8]; refine hR _ _ _ ?_; clear hR R)
    rw [seqX_nil]
    refine hK _ _ _ ?_; clear hK K
    refine hN16 _ _ _ ?_
    simp [go_sem, hn1, hn2, hs1, hs2, d82, d28, d98, d89, d92, d29, d539, d953, d538, d853, d532, d253, bc hP c8]
    rw [show (Tr.mk k st tag val an h l f row col al kids).kids = kids from rfl, hfo]
    exact ⟨some rn, rfl, ⟨rn, rfl, hrn⟩, hA⟩
end Go.Proofs.YtpinamipjddobaaV

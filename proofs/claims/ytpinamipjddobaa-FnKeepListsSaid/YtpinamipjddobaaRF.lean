/- Trees: FieldMatcher. -/
import Derived.Test.YtpinamipjddobaaRC
import Derived.Test.YtpinamipjddobaaRE
namespace Go.Proofs.YtpinamipjddobaaV
open Go.RowKit
set_option linter.unusedSimpArgs false
set_option linter.unusedVariables false
theorem ne_empty {v : ByteArray} (hv : v ≠ e0) : v.toList.isEmpty = false ∧ ¬ v.toList = [] := by
  have h : ¬ v.toList = [] := fun he => absurd (show v.toList = e0.toList by rw [he]; kernel_rfl) (bytes_ne hv)
  refine ⟨?_, h⟩
  cases he : v.toList.isEmpty with
  | false => rfl
  | true => exact absurd (List.isEmpty_iff.1 he) h
/-- A handle, or none. -/
def RP (o : Option Tr) (v : Value) (A : View) : Prop :=
  match o with
  | none => v = .pointer none
  | some x => ∃ rn, v = ptr0 rn ∧ IsRn A x rn
theorem RP.le {A B : View} (h : A ≤ B) {o : Option Tr} {v : Value} (e : RP o v A) : RP o v B := by
  cases o with
  | none => exact e
  | some x => obtain ⟨rn, h1, h2⟩ := e; exact ⟨rn, h1, h2.le h⟩
def QM (b8 : Nat) (x : Tr) (A : View) : Prop := ∃ rn, A b8 = some (.cells #[ptr0 rn] 62 (0, 0)) ∧ IsRn A x rn
set_option maxRecDepth 20000 in
theorem keepM (b9 b2 b8 : Nat) (Bs : View) (h9 : Bs b9 = some (.cells #[.bool false] 4 (0, 0))) : CB 136 b8 (.cells #[.pointer none] 62 (0, 0)) #[ptr0 b9, ptr0 b2, ptr0 b8] Bs (fun _ => True) (QM b8) := by
  refine ⟨by kernel_rfl, ?_⟩
  intro A0 A x kp vp hbs hle h0 h6 hx _
  show VCalls Try.prog 136 #[ptr0 kp, ptr0 vp, ptr0 b9, ptr0 b2, ptr0 b8] A fun r A' => A0 ≤ A' ∧ QM b8 x A'
  have c9 := le_cell (View.le_trans hbs hle) (cell_of (i := 0) h9 rfl)
  refine xcalls Try.func136 rfl (by simp [Try.ntmps136]) ?_
  simp only [Try.f136]
  have hP : Priv A (addrs []) := Priv.nil A
  show xc _ _ _ _ _ _ (ov A [])
  refine xc_two fun N1 hN1 => ?_
  rw [xc_draws]
  refine vdrawK [(0, true), (1, true), (2, true), (3, true), (4, true), (5, true), (6, true), (7, true), (8, true), (9, true), (10, true), (11, true), (12, true), (13, true), (14, true)] (ov A []) mixed (by kernel_rfl) (View.le_refl _) fun K hK => ?_
  simp only [rsl, gres]
  iterate 9 (refine seqR_hide fun R hR => ?_; simp [go_sem, bc hP c9]; refine hR _ _ _ ?_; clear hR R)
  refine seqR_hide fun R hR => ?_
  simp [go_sem, bc hP c9]
  refine hR _ _ _ ?_; clear hR R
  iterate 5 (refine seqR_hide fun R hR => ?_; simp [go_sem, bc hP c9]; refine hR _ _ _ ?_; clear hR R)
  rw [seqR_nil]
  refine hK _ _ _ ?_; clear hK K
  refine hN1 _ _ _ ?_
  refine xc_iftrue (by simp [go_sem, bc hP c9]) ?_
  refine xc_reg2 fun K hK => ?_
  simp only [rall, rsl, gres]
  (refine seqX_hide2 fun R hR => ?_; simp [go_sem, bc hP c9]; refine hR _ _ _ ?_; clear hR R)
  refine seqX_hide2 fun R hR => ?_
  simp [go_sem, bc hP c9]
  refine call_ov hP (newRNodeS A vp) ?_
  clear hP
  rintro _ A2 ⟨rn, rfl, hrn, -, hA2⟩ hP
  have h62 := hA2 _ _ h6
  have hs := cstore (L := []) hP ti62 h62 (u := ptr0 rn) rfl
  have hsa := hs.1
  refine hR _ _ _ ?_; clear hR R
  refine seqX_hide2 fun R hR => ?_
  simp [go_sem, hsa]
  refine hR _ _ _ ?_; clear hR R
  rw [seqX_nil]
  refine hK _ _ _ ?_; clear hK K
  simp [go_sem, hsa]
  have l2 : A0 ≤ A2.set b8 (.cells #[ptr0 rn] 62 (0, 0)) := le_set0 (View.le_trans hle hA2) h0
  have nk : rn ≠ b8 := fun hx => by rw [hx, h62] at hrn; injection hrn with h; injection h with h1 h2; cases h2
  refine ⟨l2, rn, set_at _ _ _, vp, ?_, hx.le l2⟩
  exact (set_other nk).trans hrn
set_option maxRecDepth 20000 in
set_option maxHeartbeats 400000 in
theorem match134 (A : View) (t : Tr) (q : Nat) (nm : ByteArray) (hq : IsRn A t q) (hk : t.kind = 4) (ht : t.tag ≠ tNull) (hev : t.kids.length % 2 = 0) (hkl : t.kids.length ≤ 1000000) (hnm : nm ≠ e0) :
    VCalls Try.prog 134 #[.agg #[.string ⟨#[]⟩, .string nm, .pointer none, .string ⟨#[]⟩, .string ⟨#[]⟩, .pointer none], ptr0 q] A fun r A' => ∃ x : Option Nat, r = .tuple #[(match x with | none => .pointer none | some b => ptr0 b), .nilIface] ∧ (RP (fld t.kids nm) (match x with | none => .pointer none | some b => ptr0 b) A' ∧ A ≤ A') := by
  have hq0 := hq
  have hk1 : t.kind ≠ 1 := by omega
  have hmiss := missing39 A t q hq0 hk1
  rw [decide_eq_false ht] at hmiss
  have herr := errIf79 A t q 4 hq0 hk1 ht hk (fun _ => hev) hkl
  obtain ⟨p, hqc, hy⟩ := hq
  obtain ⟨k, st, tag, val, an, h, l, f, row, col, al, kids, rfl⟩ := t.ex
  obtain ⟨cv, ps, hp, hrow, hpl, hyk⟩ := hy.open
  obtain ⟨cb, cc, rfl⟩ := hrow.form
  replace hk1 : k ≠ 1 := hk1
  replace hev : kids.length % 2 = 0 := hev
  replace hkl : kids.length ≤ 1000000 := hkl
  show VCalls Try.prog 134 _ A fun r A' => ∃ x : Option Nat, r = .tuple #[(match x with | none => .pointer none | some b => ptr0 b), .nilIface] ∧ (RP (fld kids nm) (match x with | none => .pointer none | some b => ptr0 b) A' ∧ A ≤ A')
  have hn1 := (ne_empty hnm).1
  have hn2 := (ne_empty hnm).2
  refine xcalls Try.func134 rfl (by simp [Try.ntmps134]) ?_
  simp only [Try.f134]
  have hP : Priv A (addrs []) := Priv.nil A
  show xc _ _ _ _ _ _ (ov A [])
  refine xc_two fun N1 hN1 => ?_
  refine xc_reg2 fun K hK => ?_
  simp only [rall, rsl, gres]
  refine seqX_hide2 fun R hR => ?_
  simp [go_sem, hn1, hn2]
  intro q2 hq2
  replace hP := hP.cons hq2
  clear hq2
  refine hR _ _ _ ?_; clear hR R
  iterate 2 (refine seqX_hide2 fun R hR => ?_; simp [go_sem, hn1, hn2]; refine hR _ _ _ ?_; clear hR R)
  rw [seqX_nil]
  refine hK _ _ _ ?_; clear hK K
  refine hN1 _ _ _ ?_
  refine xc_two fun N2 hN2 => ?_
  refine xc_two fun N3 hN3 => ?_
  refine xc_reg2 fun K hK => ?_
  simp only [rall, rsl, gres]
  iterate 8 (refine seqX_hide2 fun R hR => ?_; simp [go_sem, hn1, hn2]; refine hR _ _ _ ?_; clear hR R)
  rw [seqX_nil]
  refine hK _ _ _ ?_; clear hK K
  refine hN3 _ _ _ ?_
  refine xc_iffalse (by simp [go_sem, hn1, hn2]) ?_
  refine hN2 _ _ _ ?_
  refine xc_two fun N4 hN4 => ?_
  refine xc_two fun N5 hN5 => ?_
  refine xc_reg2 fun K hK => ?_
  simp only [rall, rsl, gres]
  (refine seqX_hide2 fun R hR => ?_; simp [go_sem, hn1, hn2]; refine hR _ _ _ ?_; clear hR R)
  refine seqX_hide2 fun R hR => ?_
  simp [go_sem, hn1, hn2]
  refine call_same hP hmiss ?_
  rintro _ rfl
  refine hR _ _ _ ?_; clear hR R
  rw [seqX_nil]
  refine hK _ _ _ ?_; clear hK K
  refine hN5 _ _ _ ?_
  refine xc_iffalse (by simp [go_sem, hn1, hn2]) ?_
  refine hN4 _ _ _ ?_
  refine xc_two fun N6 hN6 => ?_
  refine xc_two fun N7 hN7 => ?_
  refine xc_reg2 fun K hK => ?_
  simp only [rall, rsl, gres]
  iterate 3 (refine seqX_hide2 fun R hR => ?_; simp [go_sem, hn1, hn2]; refine hR _ _ _ ?_; clear hR R)
  rw [seqX_nil]
  refine hK _ _ _ ?_; clear hK K
  refine hN7 _ _ _ ?_
  refine xc_iffalse (by simp [go_sem, hn1, hn2]) ?_
  refine hN6 _ _ _ ?_
  refine xc_two fun N8 hN8 => ?_
  refine xc_two fun N9 hN9 => ?_
  refine xc_reg2 fun K hK => ?_
  simp only [rall, rsl, gres]
  (refine seqX_hide2 fun R hR => ?_; simp [go_sem, hn1, hn2]; refine hR _ _ _ ?_; clear hR R)
  refine seqX_hide2 fun R hR => ?_
  simp [go_sem, hn1, hn2]
  refine call_same hP herr ?_
  rintro _ rfl
  refine hR _ _ _ ?_; clear hR R
  (refine seqX_hide2 fun R hR => ?_; simp [go_sem, hn1, hn2]; refine hR _ _ _ ?_; clear hR R)
  rw [seqX_nil]
  refine hK _ _ _ ?_; clear hK K
  refine hN9 _ _ _ ?_
  refine xc_two fun N10 hN10 => ?_
  refine xc_reg2 fun K hK => ?_
  simp only [rall, rsl, gres]
  iterate 2 (refine seqX_hide2 fun R hR => ?_; simp [go_sem, hn1, hn2]; refine hR _ _ _ ?_; clear hR R)
  rw [seqX_nil]
  refine hK _ _ _ ?_; clear hK K
  refine hN10 _ _ _ ?_
  refine xc_iffalse (by simp [go_sem, hn1, hn2]) ?_
  refine hN8 _ _ _ ?_
  refine xc_two fun N11 hN11 => ?_
  refine xc_reg2 fun K hK => ?_
  simp only [rall, rsl, gres]
  refine seqX_hide2 fun R hR => ?_
  simp [go_sem, hn1, hn2]
  intro q8 hq8
  replace hP := hP.cons hq8
  clear hq8
  have d82 : q8 ≠ q2 := (hP.ne q2 (by simp [addrs])).1
  have d28 : q2 ≠ q8 := (hP.ne q2 (by simp [addrs])).2
  refine hR _ _ _ ?_; clear hR R
  rw [seqX_nil]
  refine hK _ _ _ ?_; clear hK K
  refine hN11 _ _ _ ?_
  refine xc_two fun N12 hN12 => ?_
  refine xc_reg2 fun K hK => ?_
  simp only [rall, rsl, gres]
  iterate 3 (refine seqX_hide2 fun R hR => ?_; simp [go_sem, hn1, hn2, d82, d28]; refine hR _ _ _ ?_; clear hR R)
  refine seqX_hide2 fun R hR => ?_
  simp [go_sem, hn1, hn2, d82, d28]
  intro q9 hq9
  replace hP := hP.cons hq9
  clear hq9
  have d98 : q9 ≠ q8 := (hP.ne q8 (by simp [addrs])).1
  have d89 : q8 ≠ q9 := (hP.ne q8 (by simp [addrs])).2
  have d92 : q9 ≠ q2 := (hP.ne q2 (by simp [addrs])).1
  have d29 : q2 ≠ q9 := (hP.ne q2 (by simp [addrs])).2
  refine hR _ _ _ ?_; clear hR R
  refine seqX_hide2 fun R hR => ?_
  simp [go_sem, hn1, hn2, d82, d28, d98, d89, d92, d29]
  refine hR _ _ _ ?_; clear hR R
  rw [seqX_nil]
  refine hK _ _ _ ?_; clear hK K
  refine hN12 _ _ _ ?_
  refine xc_two fun N13 hN13 => ?_
  rw [xc_draws]
  refine vdrawK [(0, true), (1, true), (2, true), (3, true), (4, true), (5, true), (6, false)] (ov A [(q9, .cells #[.bool false] 4 (0, 0)), (q8, .cells #[.pointer none] 62 (0, 0)), (q2, .cells #[.string ⟨#[]⟩, .string nm, .pointer none, .string ⟨#[]⟩, .string ⟨#[]⟩, .pointer none] 88 (0, 0))]) mixed (by kernel_rfl) (View.le_refl _) fun K hK => ?_
  simp only [rsl, gres]
  (refine seqR_hide fun R hR => ?_; simp [go_sem, hn1, hn2, d82, d28, d98, d89, d92, d29]; refine hR _ _ _ ?_; clear hR R)
  refine seqR_hide fun R hR => ?_
  simp [go_sem, hn1, hn2, d82, d28, d98, d89, d92, d29]
  refine call_same hP (content36 A q p k st tag val an (.slice cb kids.length cc) h l f row col hqc hp hk1) ?_
  rintro _ rfl
  refine ⟨View.le_refl _, hR _ _ _ ?_⟩; clear hR R
  iterate 3 (refine seqR_hide fun R hR => ?_; simp [go_sem, hn1, hn2, d82, d28, d98, d89, d92, d29]; refine hR _ _ _ ?_; clear hR R)
  refine seqR_hide fun R hR => ?_
  simp [go_sem, hn1, hn2, d82, d28, d98, d89, d92, d29]
  intro q53 hq53
  replace hP := hP.cons hq53
  clear hq53
  have d539 : q53 ≠ q9 := (hP.ne q9 (by simp [addrs])).1
  have d953 : q9 ≠ q53 := (hP.ne q9 (by simp [addrs])).2
  have d538 : q53 ≠ q8 := (hP.ne q8 (by simp [addrs])).1
  have d853 : q8 ≠ q53 := (hP.ne q8 (by simp [addrs])).2
  have d532 : q53 ≠ q2 := (hP.ne q2 (by simp [addrs])).1
  have d253 : q2 ≠ q53 := (hP.ne q2 (by simp [addrs])).2
  refine hR _ _ _ ?_; clear hR R
  refine seqR_hide fun R hR => ?_
  simp [go_sem, hn1, hn2, d82, d28, d98, d89, d92, d29, d539, d953, d538, d853, d532, d253]
  obtain ⟨eq53, hPn, nq53⟩ := sinkI (A := A) (L := [(q53, .cells #[.string nm] 9 (0, 0)), (q9, .cells #[.bool false] 4 (0, 0)), (q8, .cells #[.pointer none] 62 (0, 0)), (q2, .cells #[.string ⟨#[]⟩, .string nm, .pointer none, .string ⟨#[]⟩, .string ⟨#[]⟩, .pointer none] 88 (0, 0))]) 0 hP rfl
  rw [eq53]
  clear eq53 hP; have hP := hPn; clear hPn
  simp only [List.eraseIdx_cons_zero, List.eraseIdx_cons_succ, addrs_cons, addrs_nil] at hP ⊢
  obtain ⟨eq9, hPn, nq9⟩ := sinkI (A := A.set q53 (.cells #[.string nm] 9 (0, 0))) (L := [(q9, .cells #[.bool false] 4 (0, 0)), (q8, .cells #[.pointer none] 62 (0, 0)), (q2, .cells #[.string ⟨#[]⟩, .string nm, .pointer none, .string ⟨#[]⟩, .string ⟨#[]⟩, .pointer none] 88 (0, 0))]) 0 hP rfl
  rw [eq9]
  clear eq9 hP; have hP := hPn; clear hPn
  simp only [List.eraseIdx_cons_zero, List.eraseIdx_cons_succ, addrs_cons, addrs_nil] at hP ⊢
  obtain ⟨eq2, hPn, nq2⟩ := sinkI (A := (A.set q53 (.cells #[.string nm] 9 (0, 0))).set q9 (.cells #[.bool false] 4 (0, 0))) (L := [(q8, .cells #[.pointer none] 62 (0, 0)), (q2, .cells #[.string ⟨#[]⟩, .string nm, .pointer none, .string ⟨#[]⟩, .string ⟨#[]⟩, .pointer none] 88 (0, 0))]) 1 hP rfl
  rw [eq2]
  clear eq2 hP; have hP := hPn; clear hPn
  simp only [List.eraseIdx_cons_zero, List.eraseIdx_cons_succ, addrs_cons, addrs_nil] at hP ⊢
  obtain ⟨eq8, hPn, nq8⟩ := sinkI (A := ((A.set q53 (.cells #[.string nm] 9 (0, 0))).set q9 (.cells #[.bool false] 4 (0, 0))).set q2 (.cells #[.string ⟨#[]⟩, .string nm, .pointer none, .string ⟨#[]⟩, .string ⟨#[]⟩, .pointer none] 88 (0, 0))) (L := [(q8, .cells #[.pointer none] 62 (0, 0))]) 0 hP rfl
  rw [eq8]
  clear eq8 hP; have hP := hPn; clear hPn
  simp only [List.eraseIdx_cons_zero, List.eraseIdx_cons_succ, addrs_cons, addrs_nil] at hP ⊢
  have l0 : A ≤ ((A.set q53 (.cells #[.string nm] 9 (0, 0))).set q9 (.cells #[.bool false] 4 (0, 0))).set q2 (.cells #[.string ⟨#[]⟩, .string nm, .pointer none, .string ⟨#[]⟩, .string ⟨#[]⟩, .pointer none] 88 (0, 0)) := View.le_trans (le_set nq53) (View.le_trans (le_set nq9) (le_set nq2))
  have y2 : (((A.set q53 (.cells #[.string nm] 9 (0, 0))).set q9 (.cells #[.bool false] 4 (0, 0))).set q2 (.cells #[.string ⟨#[]⟩, .string nm, .pointer none, .string ⟨#[]⟩, .string ⟨#[]⟩, .pointer none] 88 (0, 0))) q2 = some (.cells #[.string ⟨#[]⟩, .string nm, .pointer none, .string ⟨#[]⟩, .string ⟨#[]⟩, .pointer none] 88 (0, 0)) := set_at _ _ _
  have y9 : (((A.set q53 (.cells #[.string nm] 9 (0, 0))).set q9 (.cells #[.bool false] 4 (0, 0))).set q2 (.cells #[.string ⟨#[]⟩, .string nm, .pointer none, .string ⟨#[]⟩, .string ⟨#[]⟩, .pointer none] 88 (0, 0))) q9 = some (.cells #[.bool false] 4 (0, 0)) := by rw [set_other d92]; exact set_at _ _ _
  have y53 : (((A.set q53 (.cells #[.string nm] 9 (0, 0))).set q9 (.cells #[.bool false] 4 (0, 0))).set q2 (.cells #[.string ⟨#[]⟩, .string nm, .pointer none, .string ⟨#[]⟩, .string ⟨#[]⟩, .pointer none] 88 (0, 0))) q53 = some (.cells #[.string nm] 9 (0, 0)) := by rw [set_other d532, set_other d539]; exact set_at _ _ _
  generalize ((A.set q53 (.cells #[.string nm] 9 (0, 0))).set q9 (.cells #[.bool false] 4 (0, 0))).set q2 (.cells #[.string ⟨#[]⟩, .string nm, .pointer none, .string ⟨#[]⟩, .string ⟨#[]⟩, .pointer none] 88 (0, 0)) = Bs at hP l0 y2 y9 y53 nq8 ⊢
  refine call_ov hP (visitG _ _ _ Bs _ _ Bs _ q8 ⟨q53, 0, none⟩ 1 nm kids ps (.slice cb kids.length cc) (keepM q9 q2 q8 Bs y9) (View.le_refl _) (le_set nq8) nq8 (set_at _ _ _) (cell_of (i := 0) y53 rfl) (hrow.le l0) hpl (fun j hj => let ⟨q, h1, h2⟩ := hyk j hj; ⟨q, h1, h2.le l0⟩) hev hkl (fun _ _ => trivial)) ?_
  clear hP
  rintro _ A3 ⟨hA3, hF⟩ hP
  have hA := View.le_trans l0 hA3
  cases hfo : fld kids nm with
  | none =>
    rw [hfo] at hF
    have c8 := cell_of (i := 0) hF rfl
    have c25 := le_cell hA3 (cell_of (i := 5) y2 rfl)
    refine hR _ _ _ ?_; clear hR R
    rw [seqR_nil]
    refine hK _ _ _ ?_; clear hK K
    refine hN13 _ _ _ ?_
    refine xc_two fun N14 hN14 => ?_
    refine xc_two fun N15 hN15 => ?_
    refine xc_reg2 fun K hK => ?_
    simp only [rall, rsl, gres]
    iterate 2 (refine seqX_hide2 fun R hR => ?_; simp [go_sem, hn1, hn2, d82, d28, d98, d89, d92, d29, d539, d953, d538, d853, d532, d253, bc hP c8, bc hP c25]; refine hR _ _ _ ?_; clear hR R)
    rw [seqX_nil]
    refine hK _ _ _ ?_; clear hK K
    refine hN15 _ _ _ ?_
    refine xc_iffalse (by simp [go_sem, hn1, hn2, d82, d28, d98, d89, d92, d29, d539, d953, d538, d853, d532, d253, bc hP c8, bc hP c25]) ?_
    refine hN14 _ _ _ ?_
    refine xc_two fun N16 hN16 => ?_
    refine xc_two fun N17 hN17 => ?_
    refine xc_reg2 fun K hK => ?_
    simp only [rall, rsl, gres]
    iterate 3 (refine seqX_hide2 fun R hR => ?_; simp [go_sem, hn1, hn2, d82, d28, d98, d89, d92, d29, d539, d953, d538, d853, d532, d253, bc hP c8, bc hP c25]; refine hR _ _ _ ?_; clear hR R)
    rw [seqX_nil]
    refine hK _ _ _ ?_; clear hK K
    refine hN17 _ _ _ ?_
    refine xc_iffalse (by simp [go_sem, hn1, hn2, d82, d28, d98, d89, d92, d29, d539, d953, d538, d853, d532, d253, bc hP c8, bc hP c25]) ?_
    refine hN16 _ _ _ ?_
    refine xc_two fun N18 hN18 => ?_
    refine xc_reg2 fun K hK => ?_
    simp only [rall, rsl, gres]
    iterate 2 (refine seqX_hide2 fun R hR => ?_; simp [go_sem, hn1, hn2, d82, d28, d98, d89, d92, d29, d539, d953, d538, d853, d532, d253, bc hP c8, bc hP c25]; refine hR _ _ _ ?_; clear hR R)
    rw [seqX_nil]
    refine hK _ _ _ ?_; clear hK K
    refine hN18 _ _ _ ?_
    simp [go_sem, hn1, hn2, d82, d28, d98, d89, d92, d29, d539, d953, d538, d853, d532, d253, bc hP c8, bc hP c25]
    rw [hfo]
    exact ⟨none, rfl, rfl, hA⟩
  | some x =>
    rw [hfo] at hF
    obtain ⟨rn, h8, hrn⟩ := hF
    have c8 := cell_of (i := 0) h8 rfl
    refine hR _ _ _ ?_; clear hR R
    rw [seqR_nil]
    refine hK _ _ _ ?_; clear hK K
    refine hN13 _ _ _ ?_
    refine xc_two fun N14 hN14 => ?_
    refine xc_two fun N15 hN15 => ?_
    refine xc_reg2 fun K hK => ?_
    simp only [rall, rsl, gres]
    iterate 2 (refine seqX_hide2 fun R hR => ?_; simp [go_sem, hn1, hn2, d82, d28, d98, d89, d92, d29, d539, d953, d538, d853, d532, d253, bc hP c8]; refine hR _ _ _ ?_; clear hR R)
    rw [seqX_nil]
    refine hK _ _ _ ?_; clear hK K
    refine hN15 _ _ _ ?_
    refine xc_iftrue (by simp [go_sem, hn1, hn2, d82, d28, d98, d89, d92, d29, d539, d953, d538, d853, d532, d253, bc hP c8]) ?_
    refine xc_two fun N16 hN16 => ?_
    refine xc_reg2 fun K hK => ?_
    simp only [rall, rsl, gres]
    iterate 3 (refine seqX_hide2 fun R hR => ?_; simp [go_sem, hn1, hn2, d82, d28, d98, d89, d92, d29, d539, d953, d538, d853, d532, d253, bc hP c8]; refine hR _ _ _ ?_; clear hR R)
    rw [seqX_nil]
    refine hK _ _ _ ?_; clear hK K
    refine hN16 _ _ _ ?_
    simp [go_sem, hn1, hn2, d82, d28, d98, d89, d92, d29, d539, d953, d538, d853, d532, d253, bc hP c8]
    rw [hfo]
    exact ⟨some rn, rfl, ⟨rn, rfl, hrn⟩, hA⟩
end Go.Proofs.YtpinamipjddobaaV

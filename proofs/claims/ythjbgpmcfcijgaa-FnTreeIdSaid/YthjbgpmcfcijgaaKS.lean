/- Trees: fields of a resource's node. -/
import Derived.Test.YthjbgpmcfcijgaaKR
namespace Go.Proofs.YthjbgpmcfcijgaaV
open Go.RowKit
set_option linter.unusedSimpArgs false
set_option linter.unusedVariables false
/-- A node's pointer, or none. -/
def VP (o : Option Tr) (r : Value) (A : View) : Prop :=
  match o with
  | none => r = .pointer none
  | some x => ∃ vp, r = ptr0 vp ∧ IsYn A x vp
def vof (o : Option Tr) : ByteArray :=
  match o with
  | none => e0
  | some x => x.value
set_option maxRecDepth 20000 in
theorem mapval55 (A : View) (t : Tr) (q : Nat) (nm : ByteArray) (hq : IsRn A t q) (hk : t.kind ≠ 1) (hev : t.kids.length % 2 = 0) (hkl : t.kids.length ≤ 1000000) :
    VCalls Try.prog 55 #[ptr0 q, .string nm] A fun r A' => VP (fld t.kids nm) r A' ∧ A ≤ A' := by
  obtain ⟨p, hq, hy⟩ := hq
  obtain ⟨k, st, tag, val, an, h, l, f, row, col, al, kids, rfl⟩ := t.ex
  obtain ⟨cv, ps, hp, hrow, hpl, hyk⟩ := hy.open
  obtain ⟨cb, cc, rfl⟩ := hrow.form
  replace hk : k ≠ 1 := hk
  replace hev : kids.length % 2 = 0 := hev
  replace hkl : kids.length ≤ 1000000 := hkl
  show VCalls Try.prog 55 #[ptr0 q, .string nm] A fun r A' => VP (fld kids nm) r A' ∧ A ≤ A'
  refine xcalls Try.func55 rfl (by simp [Try.ntmps55]) ?_
  simp only [Try.f55]
  have hP : Priv A (addrs []) := Priv.nil A
  show xc _ _ _ _ _ _ (ov A [])
  refine xc_two fun N1 hN1 => ?_
  refine xc_reg1 1 rfl fun K hK => ?_
  simp only [show (List.range 1).map (·, true) = [(0, true)] from rfl, rslv_cons, rslv_nil, List.getElem?_toArray, List.getElem?_cons_zero, List.getElem?_cons_succ, gres]
  (refine seqX_hide2 fun R hR => ?_; simp [go_sem]; refine hR _ _ _ ?_; clear hR R)
  rw [seqX_nil]
  refine hK _ _ _ ?_; clear hK K
  refine hN1 _ _ _ ?_
  refine xc_two fun N2 hN2 => ?_
  refine xc_reg1 1 rfl fun K hK => ?_
  simp only [show (List.range 1).map (·, true) = [(0, true)] from rfl, rslv_cons, rslv_nil, List.getElem?_toArray, List.getElem?_cons_zero, List.getElem?_cons_succ, gres]
  refine seqX_hide2 fun R hR => ?_
  simp [go_sem]
  intro q5 hq5
  replace hP := hP.cons hq5
  clear hq5
  refine hR _ _ _ ?_; clear hR R
  rw [seqX_nil]
  refine hK _ _ _ ?_; clear hK K
  refine hN2 _ _ _ ?_
  refine xc_two fun N3 hN3 => ?_
  refine xc_reg1 6 rfl fun K hK => ?_
  simp only [show (List.range 6).map (·, true) = [(0, true), (1, true), (2, true), (3, true), (4, true), (5, true)] from rfl, rslv_cons, rslv_nil, List.getElem?_toArray, List.getElem?_cons_zero, List.getElem?_cons_succ, gres]
  (refine seqX_hide2 fun R hR => ?_; simp [go_sem]; refine hR _ _ _ ?_; clear hR R)
  refine seqX_hide2 fun R hR => ?_
  simp [go_sem]
  refine call_same hP (content36 A q p k st tag val an (.slice cb kids.length cc) h l f row col hq hp hk) ?_
  rintro _ rfl
  refine hR _ _ _ ?_; clear hR R
  iterate 2 (refine seqX_hide2 fun R hR => ?_; simp [go_sem]; refine hR _ _ _ ?_; clear hR R)
  refine seqX_hide2 fun R hR => ?_
  simp [go_sem]
  intro q10 hq10
  replace hP := hP.cons hq10
  clear hq10
  have d105 : q10 ≠ q5 := (hP.ne q5 (by simp [addrs])).1
  have d510 : q5 ≠ q10 := (hP.ne q5 (by simp [addrs])).2
  refine hR _ _ _ ?_; clear hR R
  refine seqX_hide2 fun R hR => ?_
  simp [go_sem, d105, d510]
  obtain ⟨eq10, hPn, nq10⟩ := sinkI (A := A) (L := [(q10, .cells #[.string nm] 9 (0, 0)), (q5, .cells #[.pointer none] 67 (0, 0))]) 0 hP rfl
  rw [eq10]
  clear eq10 hP; have hP := hPn; clear hPn
  simp only [List.eraseIdx_cons_zero, List.eraseIdx_cons_succ, addrs_cons, addrs_nil] at hP ⊢
  obtain ⟨eq5, hPn, nq5⟩ := sinkI (A := A.set q10 (.cells #[.string nm] 9 (0, 0))) (L := [(q5, .cells #[.pointer none] 67 (0, 0))]) 0 hP rfl
  rw [eq5]
  clear eq5 hP; have hP := hPn; clear hPn
  simp only [List.eraseIdx_cons_zero, List.eraseIdx_cons_succ, addrs_cons, addrs_nil] at hP ⊢
  have l0 : A ≤ A.set q10 (.cells #[.string nm] 9 (0, 0)) := le_set nq10
  refine call_ov hP (visitG _ _ _ _ (A.set q10 (.cells #[.string nm] 9 (0, 0))) _ q5 ⟨q10, 0, none⟩ 1 nm kids ps (.slice cb kids.length cc) (keep66 q5) (le_set nq5) nq5 (set_at _ _ _) (cell_of (i := 0) (set_at _ _ _) rfl) (hrow.le l0) hpl (fun j hj => let ⟨q, h1, h2⟩ := hyk j hj; ⟨q, h1, h2.le l0⟩) hev hkl (fun _ _ => trivial)) ?_
  clear hP
  rintro _ A2 ⟨hA2, hF⟩ hP
  have hA := View.le_trans l0 hA2
  cases hfo : fld kids nm with
  | none =>
    rw [hfo] at hF
    have c5 := cell_of (i := 0) hF rfl
    refine hR _ _ _ ?_; clear hR R
    rw [seqX_nil]
    refine hK _ _ _ ?_; clear hK K
    refine hN3 _ _ _ ?_
    refine xc_two fun N4 hN4 => ?_
    refine xc_reg1 2 rfl fun K hK => ?_
    simp only [show (List.range 2).map (·, true) = [(0, true), (1, true)] from rfl, rslv_cons, rslv_nil, List.getElem?_toArray, List.getElem?_cons_zero, List.getElem?_cons_succ, gres]
    iterate 2 (refine seqX_hide2 fun R hR => ?_; simp [go_sem, d105, d510, bc hP c5]; refine hR _ _ _ ?_; clear hR R)
    rw [seqX_nil]
    refine hK _ _ _ ?_; clear hK K
    refine hN4 _ _ _ ?_
    simp [go_sem, d105, d510, bc hP c5]
    rw [hfo]
    exact ⟨rfl, hA⟩
  | some x =>
    rw [hfo] at hF
    obtain ⟨vp, h5, hv⟩ := hF
    have c5 := cell_of (i := 0) h5 rfl
    refine hR _ _ _ ?_; clear hR R
    rw [seqX_nil]
    refine hK _ _ _ ?_; clear hK K
    refine hN3 _ _ _ ?_
    refine xc_two fun N4 hN4 => ?_
    refine xc_reg1 2 rfl fun K hK => ?_
    simp only [show (List.range 2).map (·, true) = [(0, true), (1, true)] from rfl, rslv_cons, rslv_nil, List.getElem?_toArray, List.getElem?_cons_zero, List.getElem?_cons_succ, gres]
    iterate 2 (refine seqX_hide2 fun R hR => ?_; simp [go_sem, d105, d510, bc hP c5]; refine hR _ _ _ ?_; clear hR R)
    rw [seqX_nil]
    refine hK _ _ _ ?_; clear hK K
    refine hN4 _ _ _ ?_
    simp [go_sem, d105, d510, bc hP c5]
    rw [hfo]
    exact ⟨⟨vp, rfl, hv⟩, hA⟩
def vApi : ByteArray := ⟨#[97, 112, 105, 86, 101, 114, 115, 105, 111, 110]⟩
def vKind : ByteArray := ⟨#[107, 105, 110, 100]⟩
def vMeta : ByteArray := ⟨#[109, 101, 116, 97, 100, 97, 116, 97]⟩
def vNs : ByteArray := ⟨#[110, 97, 109, 101, 115, 112, 97, 99, 101]⟩
set_option maxRecDepth 20000 in
theorem api36 (A : View) (t : Tr) (q : Nat) (hq : IsRn A t q) (hk : t.kind ≠ 1) (hev : t.kids.length % 2 = 0) (hkl : t.kids.length ≤ 1000000) : VCalls Try.prog 36 #[ptr0 q] A fun r A' => r = .string (vof (fld t.kids vApi)) ∧ A ≤ A' := by
  refine xcalls Try.func36 rfl (by simp [Try.ntmps36]) ?_
  simp only [Try.f36]
  have hP : Priv A (addrs []) := Priv.nil A
  show xc _ _ _ _ _ _ (ov A [])
  refine xc_two fun N1 hN1 => ?_
  refine xc_reg1 1 rfl fun K hK => ?_
  simp only [show (List.range 1).map (·, true) = [(0, true)] from rfl, rslv_cons, rslv_nil, List.getElem?_toArray, List.getElem?_cons_zero, List.getElem?_cons_succ, gres]
  (refine seqX_hide2 fun R hR => ?_; simp [go_sem]; refine hR _ _ _ ?_; clear hR R)
  rw [seqX_nil]
  refine hK _ _ _ ?_; clear hK K
  refine hN1 _ _ _ ?_
  refine xc_two fun N2 hN2 => ?_
  refine xc_two fun N3 hN3 => ?_
  refine xc_reg1 3 rfl fun K hK => ?_
  simp only [show (List.range 3).map (·, true) = [(0, true), (1, true), (2, true)] from rfl, rslv_cons, rslv_nil, List.getElem?_toArray, List.getElem?_cons_zero, List.getElem?_cons_succ, gres]
  (refine seqX_hide2 fun R hR => ?_; simp [go_sem]; refine hR _ _ _ ?_; clear hR R)
  refine seqX_hide2 fun R hR => ?_
  simp [go_sem]
  refine call_ov hP (mapval55 A t q vApi hq hk hev hkl) ?_
  clear hP
  rintro r A2 ⟨hF, hA2⟩ hP
  cases hfo : fld t.kids vApi with
  | none =>
    rw [hfo] at hF
    obtain rfl : r = .pointer none := hF
    refine hR _ _ _ ?_; clear hR R
    (refine seqX_hide2 fun R hR => ?_; simp [go_sem]; refine hR _ _ _ ?_; clear hR R)
    rw [seqX_nil]
    refine hK _ _ _ ?_; clear hK K
    refine hN3 _ _ _ ?_
    refine xc_two fun N4 hN4 => ?_
    refine xc_reg1 2 rfl fun K hK => ?_
    simp only [show (List.range 2).map (·, true) = [(0, true), (1, true)] from rfl, rslv_cons, rslv_nil, List.getElem?_toArray, List.getElem?_cons_zero, List.getElem?_cons_succ, gres]
    iterate 2 (refine seqX_hide2 fun R hR => ?_; simp [go_sem]; refine hR _ _ _ ?_; clear hR R)
    rw [seqX_nil]
    refine hK _ _ _ ?_; clear hK K
    refine hN4 _ _ _ ?_
    refine xc_iffalse (by simp [go_sem]) ?_
    refine hN2 _ _ _ ?_
    refine xc_two fun N5 hN5 => ?_
    refine xc_reg1 1 rfl fun K hK => ?_
    simp only [show (List.range 1).map (·, true) = [(0, true)] from rfl, rslv_cons, rslv_nil, List.getElem?_toArray, List.getElem?_cons_zero, List.getElem?_cons_succ, gres]
    (refine seqX_hide2 fun R hR => ?_; simp [go_sem]; refine hR _ _ _ ?_; clear hR R)
    rw [seqX_nil]
    refine hK _ _ _ ?_; clear hK K
    refine hN5 _ _ _ ?_
    simp [go_sem]
    rw [hfo]
    exact ⟨rfl, hA2⟩
  | some x =>
    rw [hfo] at hF
    obtain ⟨vp, rfl, hv⟩ := hF
    obtain ⟨k, st, tag, val, an, h, l, f, row, col, al, kids, rfl⟩ := x.ex
    obtain ⟨cv, ps, hp, hrow, hpl, hyk⟩ := hv.open
    have c3 := cell_of (i := 3) hp rfl
    refine hR _ _ _ ?_; clear hR R
    (refine seqX_hide2 fun R hR => ?_; simp [go_sem, bc hP c3]; refine hR _ _ _ ?_; clear hR R)
    rw [seqX_nil]
    refine hK _ _ _ ?_; clear hK K
    refine hN3 _ _ _ ?_
    refine xc_two fun N4 hN4 => ?_
    refine xc_reg1 2 rfl fun K hK => ?_
    simp only [show (List.range 2).map (·, true) = [(0, true), (1, true)] from rfl, rslv_cons, rslv_nil, List.getElem?_toArray, List.getElem?_cons_zero, List.getElem?_cons_succ, gres]
    iterate 2 (refine seqX_hide2 fun R hR => ?_; simp [go_sem, bc hP c3]; refine hR _ _ _ ?_; clear hR R)
    rw [seqX_nil]
    refine hK _ _ _ ?_; clear hK K
    refine hN4 _ _ _ ?_
    refine xc_iftrue (by simp [go_sem, bc hP c3]) ?_
    refine xc_two fun N5 hN5 => ?_
    refine xc_reg1 5 rfl fun K hK => ?_
    simp only [show (List.range 5).map (·, true) = [(0, true), (1, true), (2, true), (3, true), (4, true)] from rfl, rslv_cons, rslv_nil, List.getElem?_toArray, List.getElem?_cons_zero, List.getElem?_cons_succ, gres]
    iterate 5 (refine seqX_hide2 fun R hR => ?_; simp [go_sem, bc hP c3]; refine hR _ _ _ ?_; clear hR R)
    rw [seqX_nil]
    refine hK _ _ _ ?_; clear hK K
    refine hN5 _ _ _ ?_
    simp [go_sem, bc hP c3]
    rw [hfo]
    exact ⟨rfl, hA2⟩
set_option maxRecDepth 20000 in
theorem kind38 (A : View) (t : Tr) (q : Nat) (hq : IsRn A t q) (hk : t.kind ≠ 1) (hev : t.kids.length % 2 = 0) (hkl : t.kids.length ≤ 1000000) : VCalls Try.prog 38 #[ptr0 q] A fun r A' => r = .string (vof (fld t.kids vKind)) ∧ A ≤ A' := by
  refine xcalls Try.func38 rfl (by simp [Try.ntmps38]) ?_
  simp only [Try.f38]
  have hP : Priv A (addrs []) := Priv.nil A
  show xc _ _ _ _ _ _ (ov A [])
  refine xc_two fun N1 hN1 => ?_
  refine xc_reg1 1 rfl fun K hK => ?_
  simp only [show (List.range 1).map (·, true) = [(0, true)] from rfl, rslv_cons, rslv_nil, List.getElem?_toArray, List.getElem?_cons_zero, List.getElem?_cons_succ, gres]
  (refine seqX_hide2 fun R hR => ?_; simp [go_sem]; refine hR _ _ _ ?_; clear hR R)
  rw [seqX_nil]
  refine hK _ _ _ ?_; clear hK K
  refine hN1 _ _ _ ?_
  refine xc_two fun N2 hN2 => ?_
  refine xc_two fun N3 hN3 => ?_
  refine xc_reg1 3 rfl fun K hK => ?_
  simp only [show (List.range 3).map (·, true) = [(0, true), (1, true), (2, true)] from rfl, rslv_cons, rslv_nil, List.getElem?_toArray, List.getElem?_cons_zero, List.getElem?_cons_succ, gres]
  (refine seqX_hide2 fun R hR => ?_; simp [go_sem]; refine hR _ _ _ ?_; clear hR R)
  refine seqX_hide2 fun R hR => ?_
  simp [go_sem]
  refine call_ov hP (mapval55 A t q vKind hq hk hev hkl) ?_
  clear hP
  rintro r A2 ⟨hF, hA2⟩ hP
  cases hfo : fld t.kids vKind with
  | none =>
    rw [hfo] at hF
    obtain rfl : r = .pointer none := hF
    refine hR _ _ _ ?_; clear hR R
    (refine seqX_hide2 fun R hR => ?_; simp [go_sem]; refine hR _ _ _ ?_; clear hR R)
    rw [seqX_nil]
    refine hK _ _ _ ?_; clear hK K
    refine hN3 _ _ _ ?_
    refine xc_two fun N4 hN4 => ?_
    refine xc_reg1 2 rfl fun K hK => ?_
    simp only [show (List.range 2).map (·, true) = [(0, true), (1, true)] from rfl, rslv_cons, rslv_nil, List.getElem?_toArray, List.getElem?_cons_zero, List.getElem?_cons_succ, gres]
    iterate 2 (refine seqX_hide2 fun R hR => ?_; simp [go_sem]; refine hR _ _ _ ?_; clear hR R)
    rw [seqX_nil]
    refine hK _ _ _ ?_; clear hK K
    refine hN4 _ _ _ ?_
    refine xc_iffalse (by simp [go_sem]) ?_
    refine hN2 _ _ _ ?_
    refine xc_two fun N5 hN5 => ?_
    refine xc_reg1 1 rfl fun K hK => ?_
    simp only [show (List.range 1).map (·, true) = [(0, true)] from rfl, rslv_cons, rslv_nil, List.getElem?_toArray, List.getElem?_cons_zero, List.getElem?_cons_succ, gres]
    (refine seqX_hide2 fun R hR => ?_; simp [go_sem]; refine hR _ _ _ ?_; clear hR R)
    rw [seqX_nil]
    refine hK _ _ _ ?_; clear hK K
    refine hN5 _ _ _ ?_
    simp [go_sem]
    rw [hfo]
    exact ⟨rfl, hA2⟩
  | some x =>
    rw [hfo] at hF
    obtain ⟨vp, rfl, hv⟩ := hF
    obtain ⟨k, st, tag, val, an, h, l, f, row, col, al, kids, rfl⟩ := x.ex
    obtain ⟨cv, ps, hp, hrow, hpl, hyk⟩ := hv.open
    have c3 := cell_of (i := 3) hp rfl
    refine hR _ _ _ ?_; clear hR R
    (refine seqX_hide2 fun R hR => ?_; simp [go_sem, bc hP c3]; refine hR _ _ _ ?_; clear hR R)
    rw [seqX_nil]
    refine hK _ _ _ ?_; clear hK K
    refine hN3 _ _ _ ?_
    refine xc_two fun N4 hN4 => ?_
    refine xc_reg1 2 rfl fun K hK => ?_
    simp only [show (List.range 2).map (·, true) = [(0, true), (1, true)] from rfl, rslv_cons, rslv_nil, List.getElem?_toArray, List.getElem?_cons_zero, List.getElem?_cons_succ, gres]
    iterate 2 (refine seqX_hide2 fun R hR => ?_; simp [go_sem, bc hP c3]; refine hR _ _ _ ?_; clear hR R)
    rw [seqX_nil]
    refine hK _ _ _ ?_; clear hK K
    refine hN4 _ _ _ ?_
    refine xc_iftrue (by simp [go_sem, bc hP c3]) ?_
    refine xc_two fun N5 hN5 => ?_
    refine xc_reg1 5 rfl fun K hK => ?_
    simp only [show (List.range 5).map (·, true) = [(0, true), (1, true), (2, true), (3, true), (4, true)] from rfl, rslv_cons, rslv_nil, List.getElem?_toArray, List.getElem?_cons_zero, List.getElem?_cons_succ, gres]
    iterate 5 (refine seqX_hide2 fun R hR => ?_; simp [go_sem, bc hP c3]; refine hR _ _ _ ?_; clear hR R)
    rw [seqX_nil]
    refine hK _ _ _ ?_; clear hK K
    refine hN5 _ _ _ ?_
    simp [go_sem, bc hP c3]
    rw [hfo]
    exact ⟨rfl, hA2⟩
set_option maxRecDepth 20000 in
theorem meta67 (A : View) (t : Tr) (q : Nat) (hq : IsRn A t q) (hk : t.kind ≠ 1) (ht : t.tag ≠ tNull) (hev : t.kids.length % 2 = 0) (hkl : t.kids.length ≤ 1000000) (hok : ∀ x, fld t.kids vMeta = some x → NE x) :
    VCalls Try.prog 67 #[ptr0 q] A fun r A' => VP (fld t.kids vMeta) r A' ∧ A ≤ A' := by
  have hq0 := hq
  obtain ⟨p, hq, hy⟩ := hq
  have hmiss := missing39 A t q hq0 hk
  rw [decide_eq_false ht] at hmiss
  obtain ⟨k, st, tag, val, an, h, l, f, row, col, al, kids, rfl⟩ := t.ex
  obtain ⟨cv, ps, hp, hrow, hpl, hyk⟩ := hy.open
  obtain ⟨cb, cc, rfl⟩ := hrow.form
  replace hk : k ≠ 1 := hk
  replace hev : kids.length % 2 = 0 := hev
  replace hkl : kids.length ≤ 1000000 := hkl
  replace hok : ∀ x, fld kids vMeta = some x → NE x := hok
  show VCalls Try.prog 67 #[ptr0 q] A fun r A' => VP (fld kids vMeta) r A' ∧ A ≤ A'
  have c0 := cell_of (i := 0) hp rfl
  have hkb : (k == 1) = false := beq_eq_false_iff_ne.2 hk
  refine xcalls Try.func67 rfl (by simp [Try.ntmps67]) ?_
  simp only [Try.f67]
  have hP : Priv A (addrs []) := Priv.nil A
  show xc _ _ _ _ _ _ (ov A [])
  refine xc_two fun N1 hN1 => ?_
  refine xc_reg1 1 rfl fun K hK => ?_
  simp only [show (List.range 1).map (·, true) = [(0, true)] from rfl, rslv_cons, rslv_nil, List.getElem?_toArray, List.getElem?_cons_zero, List.getElem?_cons_succ, gres]
  (refine seqX_hide2 fun R hR => ?_; simp [go_sem]; refine hR _ _ _ ?_; clear hR R)
  rw [seqX_nil]
  refine hK _ _ _ ?_; clear hK K
  refine hN1 _ _ _ ?_
  refine xc_two fun N2 hN2 => ?_
  refine xc_two fun N3 hN3 => ?_
  refine xc_reg1 2 rfl fun K hK => ?_
  simp only [show (List.range 2).map (·, true) = [(0, true), (1, true)] from rfl, rslv_cons, rslv_nil, List.getElem?_toArray, List.getElem?_cons_zero, List.getElem?_cons_succ, gres]
  (refine seqX_hide2 fun R hR => ?_; simp [go_sem]; refine hR _ _ _ ?_; clear hR R)
  refine seqX_hide2 fun R hR => ?_
  simp [go_sem]
  refine call_same hP hmiss ?_
  rintro _ rfl
  refine hR _ _ _ ?_; clear hR R
  rw [seqX_nil]
  refine hK _ _ _ ?_; clear hK K
  refine hN3 _ _ _ ?_
  refine xc_iffalse (by simp [go_sem]) ?_
  refine hN2 _ _ _ ?_
  refine xc_two fun N4 hN4 => ?_
  refine xc_reg1 3 rfl fun K hK => ?_
  simp only [show (List.range 3).map (·, true) = [(0, true), (1, true), (2, true)] from rfl, rslv_cons, rslv_nil, List.getElem?_toArray, List.getElem?_cons_zero, List.getElem?_cons_succ, gres]
  (refine seqX_hide2 fun R hR => ?_; simp [go_sem]; refine hR _ _ _ ?_; clear hR R)
  refine seqX_hide2 fun R hR => ?_
  simp [go_sem]
  refine call_same hP (content36 A q p k st tag val an (.slice cb kids.length cc) h l f row col hq hp hk) ?_
  rintro _ rfl
  refine hR _ _ _ ?_; clear hR R
  (refine seqX_hide2 fun R hR => ?_; simp [go_sem]; refine hR _ _ _ ?_; clear hR R)
  rw [seqX_nil]
  refine hK _ _ _ ?_; clear hK K
  refine hN4 _ _ _ ?_
  refine xc_two fun N5 hN5 => ?_
  refine xc_two fun N6 hN6 => ?_
  refine xc_reg1 6 rfl fun K hK => ?_
  simp only [show (List.range 6).map (·, true) = [(0, true), (1, true), (2, true), (3, true), (4, true), (5, true)] from rfl, rslv_cons, rslv_nil, List.getElem?_toArray, List.getElem?_cons_zero, List.getElem?_cons_succ, gres]
  (refine seqX_hide2 fun R hR => ?_; simp [go_sem]; refine hR _ _ _ ?_; clear hR R)
  refine seqX_hide2 fun R hR => ?_
  simp [go_sem]
  refine call_same hP (ynode48 A q p k st tag val an (.slice cb kids.length cc) h l f row col hq hp hk) ?_
  rintro _ rfl
  refine hR _ _ _ ?_; clear hR R
  iterate 4 (refine seqX_hide2 fun R hR => ?_; simp [go_sem, bc hP c0, hk, hkb]; refine hR _ _ _ ?_; clear hR R)
  rw [seqX_nil]
  refine hK _ _ _ ?_; clear hK K
  refine hN6 _ _ _ ?_
  refine xc_iffalse (by simp [go_sem, bc hP c0, hk, hkb]) ?_
  refine hN5 _ _ _ ?_
  refine xc_two fun N7 hN7 => ?_
  refine xc_reg1 1 rfl fun K hK => ?_
  simp only [show (List.range 1).map (·, true) = [(0, true)] from rfl, rslv_cons, rslv_nil, List.getElem?_toArray, List.getElem?_cons_zero, List.getElem?_cons_succ, gres]
  refine seqX_hide2 fun R hR => ?_
  simp [go_sem, bc hP c0, hk, hkb]
  intro q4 hq4
  replace hP := hP.cons hq4
  clear hq4
  refine hR _ _ _ ?_; clear hR R
  rw [seqX_nil]
  refine hK _ _ _ ?_; clear hK K
  refine hN7 _ _ _ ?_
  refine xc_two fun N8 hN8 => ?_
  refine xc_reg1 4 rfl fun K hK => ?_
  simp only [show (List.range 4).map (·, true) = [(0, true), (1, true), (2, true), (3, true)] from rfl, rslv_cons, rslv_nil, List.getElem?_toArray, List.getElem?_cons_zero, List.getElem?_cons_succ, gres]
  iterate 2 (refine seqX_hide2 fun R hR => ?_; simp [go_sem, bc hP c0, hk, hkb]; refine hR _ _ _ ?_; clear hR R)
  refine seqX_hide2 fun R hR => ?_
  simp [go_sem, bc hP c0, hk, hkb]
  intro q23 hq23
  replace hP := hP.cons hq23
  clear hq23
  have d234 : q23 ≠ q4 := (hP.ne q4 (by simp [addrs])).1
  have d423 : q4 ≠ q23 := (hP.ne q4 (by simp [addrs])).2
  refine hR _ _ _ ?_; clear hR R
  refine seqX_hide2 fun R hR => ?_
  simp [go_sem, bc hP c0, hk, hkb, d234, d423]
  obtain ⟨eq23, hPn, nq23⟩ := sinkI (A := A) (L := [(q23, .cells #[.string ⟨#[109, 101, 116, 97, 100, 97, 116, 97]⟩] 9 (0, 0)), (q4, .cells #[.pointer none] 67 (0, 0))]) 0 hP rfl
  rw [eq23]
  clear eq23 hP; have hP := hPn; clear hPn
  simp only [List.eraseIdx_cons_zero, List.eraseIdx_cons_succ, addrs_cons, addrs_nil] at hP ⊢
  obtain ⟨eq4, hPn, nq4⟩ := sinkI (A := A.set q23 (.cells #[.string ⟨#[109, 101, 116, 97, 100, 97, 116, 97]⟩] 9 (0, 0))) (L := [(q4, .cells #[.pointer none] 67 (0, 0))]) 0 hP rfl
  rw [eq4]
  clear eq4 hP; have hP := hPn; clear hPn
  simp only [List.eraseIdx_cons_zero, List.eraseIdx_cons_succ, addrs_cons, addrs_nil] at hP ⊢
  have l0 : A ≤ A.set q23 (.cells #[.string ⟨#[109, 101, 116, 97, 100, 97, 116, 97]⟩] 9 (0, 0)) := le_set nq23
  refine call_ov hP (visitG _ _ _ _ (A.set q23 (.cells #[.string ⟨#[109, 101, 116, 97, 100, 97, 116, 97]⟩] 9 (0, 0))) _ q4 ⟨q23, 0, none⟩ 1 vMeta kids ps (.slice cb kids.length cc) (keep81 q4) (le_set nq4) nq4 (set_at _ _ _) (cell_of (i := 0) (set_at _ _ _) rfl) (hrow.le l0) hpl (fun j hj => let ⟨q, h1, h2⟩ := hyk j hj; ⟨q, h1, h2.le l0⟩) hev hkl hok) ?_
  clear hP
  rintro _ A2 ⟨hA2, hF⟩ hP
  have hA := View.le_trans l0 hA2
  cases hfo : fld kids vMeta with
  | none =>
    rw [hfo] at hF
    have c5 := cell_of (i := 0) hF rfl
    refine hR _ _ _ ?_; clear hR R
    rw [seqX_nil]
    refine hK _ _ _ ?_; clear hK K
    refine hN8 _ _ _ ?_
    refine xc_two fun N9 hN9 => ?_
    refine xc_reg1 2 rfl fun K hK => ?_
    simp only [show (List.range 2).map (·, true) = [(0, true), (1, true)] from rfl, rslv_cons, rslv_nil, List.getElem?_toArray, List.getElem?_cons_zero, List.getElem?_cons_succ, gres]
    iterate 2 (refine seqX_hide2 fun R hR => ?_; simp [go_sem, hk, hkb, d234, d423, bc hP c5]; refine hR _ _ _ ?_; clear hR R)
    rw [seqX_nil]
    refine hK _ _ _ ?_; clear hK K
    refine hN9 _ _ _ ?_
    simp [go_sem, hk, hkb, d234, d423, bc hP c5]
    rw [hfo]
    exact ⟨rfl, hA⟩
  | some x =>
    rw [hfo] at hF
    obtain ⟨vp, h5, hv⟩ := hF
    have c5 := cell_of (i := 0) h5 rfl
    refine hR _ _ _ ?_; clear hR R
    rw [seqX_nil]
    refine hK _ _ _ ?_; clear hK K
    refine hN8 _ _ _ ?_
    refine xc_two fun N9 hN9 => ?_
    refine xc_reg1 2 rfl fun K hK => ?_
    simp only [show (List.range 2).map (·, true) = [(0, true), (1, true)] from rfl, rslv_cons, rslv_nil, List.getElem?_toArray, List.getElem?_cons_zero, List.getElem?_cons_succ, gres]
    iterate 2 (refine seqX_hide2 fun R hR => ?_; simp [go_sem, hk, hkb, d234, d423, bc hP c5]; refine hR _ _ _ ?_; clear hR R)
    rw [seqX_nil]
    refine hK _ _ _ ?_; clear hK K
    refine hN9 _ _ _ ?_
    simp [go_sem, hk, hkb, d234, d423, bc hP c5]
    rw [hfo]
    exact ⟨⟨vp, rfl, hv⟩, hA⟩
/-- What a mapping within a mapping has under a name. -/
def vin (o : Option Tr) (nm : ByteArray) : ByteArray :=
  match o with
  | none => e0
  | some x => vof (fld x.kids nm)
set_option maxRecDepth 20000 in
theorem metastr56 (A : View) (t : Tr) (q : Nat) (nm : ByteArray) (hq : IsRn A t q) (hk : t.kind ≠ 1) (ht : t.tag ≠ tNull) (hev : t.kids.length % 2 = 0) (hkl : t.kids.length ≤ 1000000) (hok : ∀ x, fld t.kids vMeta = some x → NE x ∧ x.kids.length % 2 = 0 ∧ x.kids.length ≤ 1000000 ∧ ∀ y, fld x.kids nm = some y → NE y) :
    VCalls Try.prog 56 #[ptr0 q, .string nm] A fun r A' => r = .string (vin (fld t.kids vMeta) nm) ∧ A ≤ A' := by
  refine xcalls Try.func56 rfl (by simp [Try.ntmps56]) ?_
  simp only [Try.f56]
  have hP : Priv A (addrs []) := Priv.nil A
  show xc _ _ _ _ _ _ (ov A [])
  refine xc_two fun N1 hN1 => ?_
  refine xc_reg1 1 rfl fun K hK => ?_
  simp only [show (List.range 1).map (·, true) = [(0, true)] from rfl, rslv_cons, rslv_nil, List.getElem?_toArray, List.getElem?_cons_zero, List.getElem?_cons_succ, gres]
  (refine seqX_hide2 fun R hR => ?_; simp [go_sem]; refine hR _ _ _ ?_; clear hR R)
  rw [seqX_nil]
  refine hK _ _ _ ?_; clear hK K
  refine hN1 _ _ _ ?_
  refine xc_two fun N2 hN2 => ?_
  refine xc_reg1 3 rfl fun K hK => ?_
  simp only [show (List.range 3).map (·, true) = [(0, true), (1, true), (2, true)] from rfl, rslv_cons, rslv_nil, List.getElem?_toArray, List.getElem?_cons_zero, List.getElem?_cons_succ, gres]
  (refine seqX_hide2 fun R hR => ?_; simp [go_sem]; refine hR _ _ _ ?_; clear hR R)
  refine seqX_hide2 fun R hR => ?_
  simp [go_sem]
  refine call_ov hP (meta67 A t q hq hk ht hev hkl (fun x hx => (hok x hx).1)) ?_
  clear hP
  rintro r A2 ⟨hF, hA2⟩ hP
  cases hfo : fld t.kids vMeta with
  | none =>
    rw [hfo] at hF
    obtain rfl : r = .pointer none := hF
    refine hR _ _ _ ?_; clear hR R
    (refine seqX_hide2 fun R hR => ?_; simp [go_sem]; refine hR _ _ _ ?_; clear hR R)
    rw [seqX_nil]
    refine hK _ _ _ ?_; clear hK K
    refine hN2 _ _ _ ?_
    refine xc_two fun N3 hN3 => ?_
    refine xc_two fun N4 hN4 => ?_
    refine xc_reg1 2 rfl fun K hK => ?_
    simp only [show (List.range 2).map (·, true) = [(0, true), (1, true)] from rfl, rslv_cons, rslv_nil, List.getElem?_toArray, List.getElem?_cons_zero, List.getElem?_cons_succ, gres]
    iterate 2 (refine seqX_hide2 fun R hR => ?_; simp [go_sem]; refine hR _ _ _ ?_; clear hR R)
    rw [seqX_nil]
    refine hK _ _ _ ?_; clear hK K
    refine hN4 _ _ _ ?_
    refine xc_iftrue (by simp [go_sem]) ?_
    refine xc_two fun N5 hN5 => ?_
    refine xc_reg1 1 rfl fun K hK => ?_
    simp only [show (List.range 1).map (·, true) = [(0, true)] from rfl, rslv_cons, rslv_nil, List.getElem?_toArray, List.getElem?_cons_zero, List.getElem?_cons_succ, gres]
    (refine seqX_hide2 fun R hR => ?_; simp [go_sem]; refine hR _ _ _ ?_; clear hR R)
    rw [seqX_nil]
    refine hK _ _ _ ?_; clear hK K
    refine hN5 _ _ _ ?_
    simp [go_sem]
    rw [hfo]
    exact ⟨rfl, hA2⟩
  | some x =>
    rw [hfo] at hF
    obtain ⟨vp, rfl, hv⟩ := hF
    obtain ⟨-, hev2, hkl2, hok2⟩ := hok x hfo
    obtain ⟨k, st, tag, val, an, h, l, f, row, col, al, kids, rfl⟩ := x.ex
    obtain ⟨cv, ps, hp, hrow, hpl, hyk⟩ := hv.open
    replace hev2 : kids.length % 2 = 0 := hev2
    replace hkl2 : kids.length ≤ 1000000 := hkl2
    replace hok2 : ∀ y, fld kids nm = some y → NE y := hok2
    obtain ⟨cb, cc, rfl⟩ := hrow.form
    have c6 := cell_of (i := 6) hp rfl
    refine hR _ _ _ ?_; clear hR R
    (refine seqX_hide2 fun R hR => ?_; simp [go_sem, bc hP c6]; refine hR _ _ _ ?_; clear hR R)
    rw [seqX_nil]
    refine hK _ _ _ ?_; clear hK K
    refine hN2 _ _ _ ?_
    refine xc_two fun N3 hN3 => ?_
    refine xc_two fun N4 hN4 => ?_
    refine xc_reg1 2 rfl fun K hK => ?_
    simp only [show (List.range 2).map (·, true) = [(0, true), (1, true)] from rfl, rslv_cons, rslv_nil, List.getElem?_toArray, List.getElem?_cons_zero, List.getElem?_cons_succ, gres]
    iterate 2 (refine seqX_hide2 fun R hR => ?_; simp [go_sem, bc hP c6]; refine hR _ _ _ ?_; clear hR R)
    rw [seqX_nil]
    refine hK _ _ _ ?_; clear hK K
    refine hN4 _ _ _ ?_
    refine xc_iffalse (by simp [go_sem, bc hP c6]) ?_
    refine hN3 _ _ _ ?_
    refine xc_two fun N5 hN5 => ?_
    refine xc_reg1 1 rfl fun K hK => ?_
    simp only [show (List.range 1).map (·, true) = [(0, true)] from rfl, rslv_cons, rslv_nil, List.getElem?_toArray, List.getElem?_cons_zero, List.getElem?_cons_succ, gres]
    refine seqX_hide2 fun R hR => ?_
    simp [go_sem, bc hP c6]
    intro q6 hq6
    replace hP := hP.cons hq6
    clear hq6
    refine hR _ _ _ ?_; clear hR R
    rw [seqX_nil]
    refine hK _ _ _ ?_; clear hK K
    refine hN5 _ _ _ ?_
    refine xc_two fun N6 hN6 => ?_
    refine xc_reg1 8 rfl fun K hK => ?_
    simp only [show (List.range 8).map (·, true) = [(0, true), (1, true), (2, true), (3, true), (4, true), (5, true), (6, true), (7, true)] from rfl, rslv_cons, rslv_nil, List.getElem?_toArray, List.getElem?_cons_zero, List.getElem?_cons_succ, gres]
    iterate 6 (refine seqX_hide2 fun R hR => ?_; simp [go_sem, bc hP c6]; refine hR _ _ _ ?_; clear hR R)
    refine seqX_hide2 fun R hR => ?_
    simp [go_sem, bc hP c6]
    intro q17 hq17
    replace hP := hP.cons hq17
    clear hq17
    have d176 : q17 ≠ q6 := (hP.ne q6 (by simp [addrs])).1
    have d617 : q6 ≠ q17 := (hP.ne q6 (by simp [addrs])).2
    refine hR _ _ _ ?_; clear hR R
    refine seqX_hide2 fun R hR => ?_
    simp [go_sem, bc hP c6, d176, d617]
    obtain ⟨eq17, hPn, nq17⟩ := sinkI (A := A2) (L := [(q17, .cells #[.string nm] 9 (0, 0)), (q6, .cells #[.string ⟨#[]⟩] 9 (0, 0))]) 0 hP rfl
    rw [eq17]
    clear eq17 hP; have hP := hPn; clear hPn
    simp only [List.eraseIdx_cons_zero, List.eraseIdx_cons_succ, addrs_cons, addrs_nil] at hP ⊢
    obtain ⟨eq6, hPn, nq6⟩ := sinkI (A := A2.set q17 (.cells #[.string nm] 9 (0, 0))) (L := [(q6, .cells #[.string ⟨#[]⟩] 9 (0, 0))]) 0 hP rfl
    rw [eq6]
    clear eq6 hP; have hP := hPn; clear hPn
    simp only [List.eraseIdx_cons_zero, List.eraseIdx_cons_succ, addrs_cons, addrs_nil] at hP ⊢
    have l0 : A2 ≤ A2.set q17 (.cells #[.string nm] 9 (0, 0)) := le_set nq17
    refine call_ov hP (visitG _ _ _ _ (A2.set q17 (.cells #[.string nm] 9 (0, 0))) _ q6 ⟨q17, 0, none⟩ 1 nm kids ps (.slice cb kids.length cc) (keep68 q6) (le_set nq6) nq6 (set_at _ _ _) (cell_of (i := 0) (set_at _ _ _) rfl) (hrow.le l0) hpl (fun j hj => let ⟨q, h1, h2⟩ := hyk j hj; ⟨q, h1, h2.le l0⟩) hev2 hkl2 hok2) ?_
    clear hP
    rintro _ A3 ⟨hA3, hF⟩ hP
    have hA := View.le_trans hA2 (View.le_trans l0 hA3)
    cases hfo2 : fld kids nm with
    | none =>
      rw [hfo2] at hF
      have c5 := cell_of (i := 0) hF rfl
      refine hR _ _ _ ?_; clear hR R
      rw [seqX_nil]
      refine hK _ _ _ ?_; clear hK K
      refine hN6 _ _ _ ?_
      refine xc_two fun N7 hN7 => ?_
      refine xc_reg1 2 rfl fun K hK => ?_
      simp only [show (List.range 2).map (·, true) = [(0, true), (1, true)] from rfl, rslv_cons, rslv_nil, List.getElem?_toArray, List.getElem?_cons_zero, List.getElem?_cons_succ, gres]
      iterate 2 (refine seqX_hide2 fun R hR => ?_; simp [go_sem, d176, d617, bc hP c5]; refine hR _ _ _ ?_; clear hR R)
      rw [seqX_nil]
      refine hK _ _ _ ?_; clear hK K
      refine hN7 _ _ _ ?_
      simp [go_sem, d176, d617, bc hP c5]
      refine ⟨?_, hA⟩
      rw [hfo, show vin (some (.mk k st tag val an h l f row col al kids)) nm = vof (fld kids nm) from rfl, hfo2]
      rfl
    | some y =>
      rw [hfo2] at hF
      have c5 := cell_of (i := 0) hF rfl
      refine hR _ _ _ ?_; clear hR R
      rw [seqX_nil]
      refine hK _ _ _ ?_; clear hK K
      refine hN6 _ _ _ ?_
      refine xc_two fun N7 hN7 => ?_
      refine xc_reg1 2 rfl fun K hK => ?_
      simp only [show (List.range 2).map (·, true) = [(0, true), (1, true)] from rfl, rslv_cons, rslv_nil, List.getElem?_toArray, List.getElem?_cons_zero, List.getElem?_cons_succ, gres]
      iterate 2 (refine seqX_hide2 fun R hR => ?_; simp [go_sem, d176, d617, bc hP c5]; refine hR _ _ _ ?_; clear hR R)
      rw [seqX_nil]
      refine hK _ _ _ ?_; clear hK K
      refine hN7 _ _ _ ?_
      simp [go_sem, d176, d617, bc hP c5]
      refine ⟨?_, hA⟩
      rw [hfo, show vin (some (.mk k st tag val an h l f row col al kids)) nm = vof (fld kids nm) from rfl, hfo2]
      rfl
set_option maxRecDepth 20000 in
theorem name39 (A : View) (t : Tr) (q : Nat) (hq : IsRn A t q) (hk : t.kind ≠ 1) (ht : t.tag ≠ tNull) (hev : t.kids.length % 2 = 0) (hkl : t.kids.length ≤ 1000000) (hok : ∀ x, fld t.kids vMeta = some x → NE x ∧ x.kids.length % 2 = 0 ∧ x.kids.length ≤ 1000000 ∧ ∀ y, fld x.kids vName = some y → NE y) : VCalls Try.prog 39 #[ptr0 q] A fun r A' => r = .string (vin (fld t.kids vMeta) vName) ∧ A ≤ A' := by
  refine xcalls Try.func39 rfl (by simp [Try.ntmps39]) ?_
  simp only [Try.f39]
  have hP : Priv A (addrs []) := Priv.nil A
  show xc _ _ _ _ _ _ (ov A [])
  refine xc_two fun N1 hN1 => ?_
  refine xc_reg1 1 rfl fun K hK => ?_
  simp only [show (List.range 1).map (·, true) = [(0, true)] from rfl, rslv_cons, rslv_nil, List.getElem?_toArray, List.getElem?_cons_zero, List.getElem?_cons_succ, gres]
  (refine seqX_hide2 fun R hR => ?_; simp [go_sem]; refine hR _ _ _ ?_; clear hR R)
  rw [seqX_nil]
  refine hK _ _ _ ?_; clear hK K
  refine hN1 _ _ _ ?_
  refine xc_two fun N2 hN2 => ?_
  refine xc_reg1 3 rfl fun K hK => ?_
  simp only [show (List.range 3).map (·, true) = [(0, true), (1, true), (2, true)] from rfl, rslv_cons, rslv_nil, List.getElem?_toArray, List.getElem?_cons_zero, List.getElem?_cons_succ, gres]
  (refine seqX_hide2 fun R hR => ?_; simp [go_sem]; refine hR _ _ _ ?_; clear hR R)
  refine seqX_hide2 fun R hR => ?_
  simp [go_sem]
  refine call_ov hP (metastr56 A t q vName hq hk ht hev hkl hok) ?_
  clear hP
  rintro _ A2 ⟨rfl, hA2⟩ hP
  refine hR _ _ _ ?_; clear hR R
  (refine seqX_hide2 fun R hR => ?_; simp [go_sem]; refine hR _ _ _ ?_; clear hR R)
  rw [seqX_nil]
  refine hK _ _ _ ?_; clear hK K
  refine hN2 _ _ _ ?_
  simp [go_sem]
  exact hA2
set_option maxRecDepth 20000 in
theorem ns40 (A : View) (t : Tr) (q : Nat) (hq : IsRn A t q) (hk : t.kind ≠ 1) (ht : t.tag ≠ tNull) (hev : t.kids.length % 2 = 0) (hkl : t.kids.length ≤ 1000000) (hok : ∀ x, fld t.kids vMeta = some x → NE x ∧ x.kids.length % 2 = 0 ∧ x.kids.length ≤ 1000000 ∧ ∀ y, fld x.kids vNs = some y → NE y) : VCalls Try.prog 40 #[ptr0 q] A fun r A' => r = .string (vin (fld t.kids vMeta) vNs) ∧ A ≤ A' := by
  refine xcalls Try.func40 rfl (by simp [Try.ntmps40]) ?_
  simp only [Try.f40]
  have hP : Priv A (addrs []) := Priv.nil A
  show xc _ _ _ _ _ _ (ov A [])
  refine xc_two fun N1 hN1 => ?_
  refine xc_reg1 1 rfl fun K hK => ?_
  simp only [show (List.range 1).map (·, true) = [(0, true)] from rfl, rslv_cons, rslv_nil, List.getElem?_toArray, List.getElem?_cons_zero, List.getElem?_cons_succ, gres]
  (refine seqX_hide2 fun R hR => ?_; simp [go_sem]; refine hR _ _ _ ?_; clear hR R)
  rw [seqX_nil]
  refine hK _ _ _ ?_; clear hK K
  refine hN1 _ _ _ ?_
  refine xc_two fun N2 hN2 => ?_
  refine xc_reg1 3 rfl fun K hK => ?_
  simp only [show (List.range 3).map (·, true) = [(0, true), (1, true), (2, true)] from rfl, rslv_cons, rslv_nil, List.getElem?_toArray, List.getElem?_cons_zero, List.getElem?_cons_succ, gres]
  (refine seqX_hide2 fun R hR => ?_; simp [go_sem]; refine hR _ _ _ ?_; clear hR R)
  refine seqX_hide2 fun R hR => ?_
  simp [go_sem]
  refine call_ov hP (metastr56 A t q vNs hq hk ht hev hkl hok) ?_
  clear hP
  rintro _ A2 ⟨rfl, hA2⟩ hP
  refine hR _ _ _ ?_; clear hR R
  (refine seqX_hide2 fun R hR => ?_; simp [go_sem]; refine hR _ _ _ ?_; clear hR R)
  rw [seqX_nil]
  refine hK _ _ _ ?_; clear hK K
  refine hN2 _ _ _ ?_
  simp [go_sem]
  exact hA2
end Go.Proofs.YthjbgpmcfcijgaaV

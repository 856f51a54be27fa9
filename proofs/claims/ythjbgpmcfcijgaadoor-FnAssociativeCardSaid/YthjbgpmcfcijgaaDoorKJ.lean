/- Trees: Field of a node. -/
import Derived.Test.YthjbgpmcfcijgaaDoorKI
namespace Go.Proofs.YthjbgpmcfcijgaaDoorV
open Go.RowKit
set_option linter.unusedSimpArgs false
set_option linter.unusedVariables false
theorem set_mono {A B : View} (h : A ≤ B) (b : Nat) (o : Obj) : A.set b o ≤ B.set b o := fun k x hk => by
  by_cases hb : k = b
  · subst hb; rw [set_at] at hk ⊢; exact hk
  · rw [set_other hb] at hk ⊢; exact h _ _ hk
set_option maxRecDepth 20000 in
theorem visit56 (A0 A : View) (b6 : Nat) (a : Addr) (cap : Nat) (nm : ByteArray) (kids : List Tr) (ps : List Nat) (cv : Value) (hle : A0 ≤ A) (h0 : A0 b6 = none) (h6 : A b6 = some (.cells #[.pointer none] 100 (0, 0))) (hs : A0.cell? a = some (.string nm)) (hrow : Row A0 1 cv kids.length (ps.map ptr0)) (hpl : ps.length = kids.length) (hyk : ∀ j (hj : j < kids.length), ∃ q, ps[j]? = some q ∧ IsYn A0 (kids[j]) q) (hev : kids.length % 2 = 0) (hkl : kids.length ≤ 1000000) :
    VCalls Tryd.prog 56 #[cv, .func (.func 57) #[] #[ptr0 b6], .slice (some a) 1 cap] A fun r A' => A0 ≤ A' ∧ ∃ w, A' b6 = some (.cells #[w] 100 (0, 0)) ∧ Found A' (fld kids nm) w := by
  refine xcalls Tryd.func56 rfl (by simp [Tryd.ntmps56]) ?_
  simp only [Tryd.f56]
  have hP : Priv A (addrs []) := Priv.nil A
  show xc _ _ _ _ _ _ (ov A [])
  refine xc_two fun N1 hN1 => ?_
  refine xc_reg1 2 rfl fun K hK => ?_
  simp only [show (List.range 2).map (·, true) = [(0, true), (1, true)] from rfl, rslv_cons, rslv_nil, List.getElem?_toArray, List.getElem?_cons_zero, List.getElem?_cons_succ, gres]
  refine seqX_hide2 fun R hR => ?_
  simp [go_sem]
  intro q4 hq4
  replace hP := hP.cons hq4
  clear hq4
  refine hR _ _ _ ?_; clear hR R
  refine seqX_hide2 fun R hR => ?_
  simp [go_sem]
  intro q5 hq5
  replace hP := hP.cons hq5
  clear hq5
  have d54 : q5 ≠ q4 := (hP.ne q4 (by simp [addrs])).1
  have d45 : q4 ≠ q5 := (hP.ne q4 (by simp [addrs])).2
  refine hR _ _ _ ?_; clear hR R
  rw [seqX_nil]
  refine hK _ _ _ ?_; clear hK K
  refine hN1 _ _ _ ?_
  refine xc_two fun N2 hN2 => ?_
  refine xc_reg1 2 rfl fun K hK => ?_
  simp only [show (List.range 2).map (·, true) = [(0, true), (1, true)] from rfl, rslv_cons, rslv_nil, List.getElem?_toArray, List.getElem?_cons_zero, List.getElem?_cons_succ, gres]
  iterate 2 (refine seqX_hide2 fun R hR => ?_; simp [go_sem, d54, d45]; refine hR _ _ _ ?_; clear hR R)
  rw [seqX_nil]
  refine hK _ _ _ ?_; clear hK K
  refine hN2 _ _ _ ?_
  rw [xc_block]
  refine xc_two fun N3 hN3 => ?_
  refine xc_reg1 2 rfl fun K hK => ?_
  simp only [show (List.range 2).map (·, true) = [(0, true), (1, true)] from rfl, rslv_cons, rslv_nil, List.getElem?_toArray, List.getElem?_cons_zero, List.getElem?_cons_succ, gres]
  iterate 2 (refine seqX_hide2 fun R hR => ?_; simp [go_sem, d54, d45]; refine hR _ _ _ ?_; clear hR R)
  rw [seqX_nil]
  refine hK _ _ _ ?_; clear hK K
  refine hN3 _ _ _ ?_
  refine xc_iffalse (by simp [go_sem, d54, d45]) ?_
  refine xc_two fun N4 hN4 => ?_
  refine xc_reg1 2 rfl fun K hK => ?_
  simp only [show (List.range 2).map (·, true) = [(0, true), (1, true)] from rfl, rslv_cons, rslv_nil, List.getElem?_toArray, List.getElem?_cons_zero, List.getElem?_cons_succ, gres]
  iterate 2 (refine seqX_hide2 fun R hR => ?_; simp [go_sem, d54, d45]; refine hR _ _ _ ?_; clear hR R)
  rw [seqX_nil]
  refine hK _ _ _ ?_; clear hK K
  refine hN4 _ _ _ ?_
  refine xc_iftrue (by simp [go_sem, d54, d45]) ?_
  refine xc_reg1 3 rfl fun K hK => ?_
  simp only [show (List.range 3).map (·, true) = [(0, true), (1, true), (2, true)] from rfl, rslv_cons, rslv_nil, List.getElem?_toArray, List.getElem?_cons_zero, List.getElem?_cons_succ, gres]
  iterate 2 (refine seqX_hide2 fun R hR => ?_; simp [go_sem, d54, d45]; refine hR _ _ _ ?_; clear hR R)
  refine seqX_hide2 fun R hR => ?_
  simp [go_sem, d54, d45]
  have n45 : q4 ≠ q5 := d45
  obtain ⟨eq5, hPn, nq5⟩ := sinkI (A := A) (L := [(q5, .cells #[.slice (some a) 1 cap] 41 (0, 0)), (q4, .cells #[.func (.func 57) #[] #[ptr0 b6]] 125 (0, 0))]) 0 hP rfl
  rw [eq5]
  clear eq5 hP; have hP := hPn; clear hPn
  simp only [List.eraseIdx_cons_zero, List.eraseIdx_cons_succ, addrs_cons, addrs_nil] at hP ⊢
  obtain ⟨eq4, hPn, nq4⟩ := sinkI (A := A.set q5 (.cells #[.slice (some a) 1 cap] 41 (0, 0))) (L := [(q4, .cells #[.func (.func 57) #[] #[ptr0 b6]] 125 (0, 0))]) 0 hP rfl
  rw [eq4]
  clear eq4 hP; have hP := hPn; clear hPn
  simp only [List.eraseIdx_cons_zero, List.eraseIdx_cons_succ, addrs_cons, addrs_nil] at hP ⊢
  have z5 : A0 q5 = none := none_le hle nq5
  have z4 : (A0.set q5 (.cells #[.slice (some a) 1 cap] 41 (0, 0))) q4 = none := none_le (set_mono hle _ _) nq4
  have l0 : A0 ≤ (A0.set q5 (.cells #[.slice (some a) 1 cap] 41 (0, 0))).set q4 (.cells #[.func (.func 57) #[] #[ptr0 b6]] 125 (0, 0)) := View.le_trans (le_set z5) (le_set z4)
  have l1 : (A0.set q5 (.cells #[.slice (some a) 1 cap] 41 (0, 0))).set q4 (.cells #[.func (.func 57) #[] #[ptr0 b6]] 125 (0, 0)) ≤ (A.set q5 (.cells #[.slice (some a) 1 cap] 41 (0, 0))).set q4 (.cells #[.func (.func 57) #[] #[ptr0 b6]] 125 (0, 0)) := set_mono (set_mono hle _ _) _ _
  have x5 : q5 ≠ b6 := fun hx => by rw [hx, h6] at nq5; cases nq5
  have x4 : q4 ≠ b6 := fun hx => by rw [hx, set_other (fun hy => x5 hy.symm), h6] at nq4; cases nq4
  refine call_ov hP (while62 ((A0.set q5 (.cells #[.slice (some a) 1 cap] 41 (0, 0))).set q4 (.cells #[.func (.func 57) #[] #[ptr0 b6]] 125 (0, 0))) _ b6 q4 q5 a cap nm kids ps cv l1 ?_ ?_ ?_ ?_ (le_cell l0 hs) (hrow.le l0) hpl (fun j hj => let ⟨q, h1, h2⟩ := hyk j hj; ⟨q, h1, h2.le l0⟩) hev hkl) ?_
  · rw [set_other (fun hx => x4 hx.symm), set_other (fun hx => x5 hx.symm)]; exact h0
  · rw [set_other (fun hx => x4 hx.symm), set_other (fun hx => x5 hx.symm)]; exact h6
  · exact set_at _ _ _
  · rw [set_other (fun hx => n45 hx.symm)]; exact set_at _ _ _
  clear hP
  rintro _ A2 ⟨hA2, w, h62, hF⟩ hP
  refine hR _ _ _ ?_; clear hR R
  rw [seqX_nil]
  refine hK _ _ _ ?_; clear hK K
  simp [go_sem, d54, d45]
  exact ⟨View.le_trans l0 hA2, w, h62, hF⟩
/-- What Field finds. -/
def fldOf (t : Tr) (nm : ByteArray) : Option Tr := if t.kind = 4 then fld t.kids nm else none
set_option maxRecDepth 20000 in
theorem field47 (A : View) (t : Tr) (q : Nat) (nm : ByteArray) (hq : IsRn A t q) (hk : t.kind ≠ 1) (hev : t.kind = 4 → t.kids.length % 2 = 0) (hkl : t.kids.length ≤ 1000000) :
    VCalls Tryd.prog 47 #[ptr0 q, .string nm] A fun r A' => Found A' (fldOf t nm) r ∧ A ≤ A' := by
  obtain ⟨p, hq, hy⟩ := hq
  obtain ⟨k, st, tag, val, an, h, l, f, row, col, al, kids, rfl⟩ := t.ex
  obtain ⟨cv, ps, hp, hrow, hpl, hyk⟩ := hy.open
  replace hk : k ≠ 1 := hk
  replace hev : k = 4 → kids.length % 2 = 0 := hev
  replace hkl : kids.length ≤ 1000000 := hkl
  have c0 := cell_of (i := 0) hp rfl
  refine xcalls Tryd.func47 rfl (by simp [Tryd.ntmps47]) ?_
  simp only [Tryd.f47]
  have hP : Priv A (addrs []) := Priv.nil A
  show xc _ _ _ _ _ _ (ov A [])
  refine xc_two fun N1 hN1 => ?_
  refine xc_reg1 1 rfl fun K hK => ?_
  simp only [show (List.range 1).map (·, true) = [(0, true)] from rfl, rslv_cons, rslv_nil, List.getElem?_toArray, List.getElem?_cons_zero, List.getElem?_cons_succ, gres]
  (refine seqX_hide2 fun R hR => ?_; simp [go_sem]; refine hR _ _ _ ?_; clear hR R)
  rw [seqX_nil]
  refine hK _ _ _ ?_; clear hK K
  refine hN1 _ _ _ ?_
  refine xc_two fun N2 hN2 => ?_
  refine xc_reg1 3 rfl fun K hK => ?_
  simp only [show (List.range 3).map (·, true) = [(0, true), (1, true), (2, true)] from rfl, rslv_cons, rslv_nil, List.getElem?_toArray, List.getElem?_cons_zero, List.getElem?_cons_succ, gres]
  (refine seqX_hide2 fun R hR => ?_; simp [go_sem]; refine hR _ _ _ ?_; clear hR R)
  refine seqX_hide2 fun R hR => ?_
  simp [go_sem]
  refine call_same hP (ynode48 A q p k st tag val an cv h l f row col hq hp hk) ?_
  rintro _ rfl
  refine hR _ _ _ ?_; clear hR R
  (refine seqX_hide2 fun R hR => ?_; simp [go_sem, bc hP c0]; refine hR _ _ _ ?_; clear hR R)
  rw [seqX_nil]
  refine hK _ _ _ ?_; clear hK K
  refine hN2 _ _ _ ?_
  refine xc_two fun N3 hN3 => ?_
  refine xc_two fun N4 hN4 => ?_
  refine xc_reg1 2 rfl fun K hK => ?_
  simp only [show (List.range 2).map (·, true) = [(0, true), (1, true)] from rfl, rslv_cons, rslv_nil, List.getElem?_toArray, List.getElem?_cons_zero, List.getElem?_cons_succ, gres]
  iterate 2 (refine seqX_hide2 fun R hR => ?_; simp [go_sem, bc hP c0]; refine hR _ _ _ ?_; clear hR R)
  rw [seqX_nil]
  refine hK _ _ _ ?_; clear hK K
  refine hN4 _ _ _ ?_
  refine xc_iffalse (by simp [go_sem, bc hP c0]) ?_
  refine hN3 _ _ _ ?_
  refine xc_two fun N5 hN5 => ?_
  refine xc_two fun N6 hN6 => ?_
  refine xc_reg1 5 rfl fun K hK => ?_
  simp only [show (List.range 5).map (·, true) = [(0, true), (1, true), (2, true), (3, true), (4, true)] from rfl, rslv_cons, rslv_nil, List.getElem?_toArray, List.getElem?_cons_zero, List.getElem?_cons_succ, gres]
  iterate 5 (refine seqX_hide2 fun R hR => ?_; simp [go_sem, bc hP c0]; refine hR _ _ _ ?_; clear hR R)
  rw [seqX_nil]
  refine hK _ _ _ ?_; clear hK K
  refine hN6 _ _ _ ?_
  by_cases hk4 : k = 4
  rotate_left
  · have hkb : (k == 4) = false := beq_eq_false_iff_ne.2 hk4
    refine xc_iftrue (by simp [go_sem, bc hP c0, hk4, hkb]) ?_
    refine xc_two fun N7 hN7 => ?_
    refine xc_reg1 1 rfl fun K hK => ?_
    simp only [show (List.range 1).map (·, true) = [(0, true)] from rfl, rslv_cons, rslv_nil, List.getElem?_toArray, List.getElem?_cons_zero, List.getElem?_cons_succ, gres]
    (refine seqX_hide2 fun R hR => ?_; simp [go_sem, bc hP c0, hk4, hkb]; refine hR _ _ _ ?_; clear hR R)
    rw [seqX_nil]
    refine hK _ _ _ ?_; clear hK K
    refine hN7 _ _ _ ?_
    simp [go_sem, bc hP c0, hk4, hkb]
    refine ⟨?_, le_ov hP⟩
    rw [show fldOf (.mk k st tag val an h l f row col al kids) nm = none from if_neg hk4]
    exact rfl
  have hfl : fldOf (.mk k st tag val an h l f row col al kids) nm = fld kids nm := if_pos hk4
  rw [hfl]
  have hev := hev hk4
  subst hk4
  refine xc_iffalse (by simp [go_sem, bc hP c0]) ?_
  refine hN5 _ _ _ ?_
  refine xc_two fun N7 hN7 => ?_
  refine xc_reg1 1 rfl fun K hK => ?_
  simp only [show (List.range 1).map (·, true) = [(0, true)] from rfl, rslv_cons, rslv_nil, List.getElem?_toArray, List.getElem?_cons_zero, List.getElem?_cons_succ, gres]
  refine seqX_hide2 fun R hR => ?_
  simp [go_sem, bc hP c0]
  intro q6 hq6
  replace hP := hP.cons hq6
  clear hq6
  refine hR _ _ _ ?_; clear hR R
  rw [seqX_nil]
  refine hK _ _ _ ?_; clear hK K
  refine hN7 _ _ _ ?_
  refine xc_two fun N8 hN8 => ?_
  refine xc_reg1 6 rfl fun K hK => ?_
  simp only [show (List.range 6).map (·, true) = [(0, true), (1, true), (2, true), (3, true), (4, true), (5, true)] from rfl, rslv_cons, rslv_nil, List.getElem?_toArray, List.getElem?_cons_zero, List.getElem?_cons_succ, gres]
  (refine seqX_hide2 fun R hR => ?_; simp [go_sem, bc hP c0]; refine hR _ _ _ ?_; clear hR R)
  refine seqX_hide2 fun R hR => ?_
  simp [go_sem, bc hP c0]
  refine call_same hP (content36 A q p 4 st tag val an cv h l f row col hq hp hk) ?_
  rintro _ rfl
  refine hR _ _ _ ?_; clear hR R
  iterate 2 (refine seqX_hide2 fun R hR => ?_; simp [go_sem]; refine hR _ _ _ ?_; clear hR R)
  refine seqX_hide2 fun R hR => ?_
  simp [go_sem]
  intro q20 hq20
  replace hP := hP.cons hq20
  clear hq20
  have d206 : q20 ≠ q6 := (hP.ne q6 (by simp [addrs])).1
  have d620 : q6 ≠ q20 := (hP.ne q6 (by simp [addrs])).2
  refine hR _ _ _ ?_; clear hR R
  refine seqX_hide2 fun R hR => ?_
  simp [go_sem, d206, d620]
  obtain ⟨eq20, hPn, nq20⟩ := sinkI (A := A) (L := [(q20, .cells #[.string nm] 9 (0, 0)), (q6, .cells #[.pointer none] 100 (0, 0))]) 0 hP rfl
  rw [eq20]
  clear eq20 hP; have hP := hPn; clear hPn
  simp only [List.eraseIdx_cons_zero, List.eraseIdx_cons_succ, addrs_cons, addrs_nil] at hP ⊢
  obtain ⟨eq6, hPn, nq6⟩ := sinkI (A := A.set q20 (.cells #[.string nm] 9 (0, 0))) (L := [(q6, .cells #[.pointer none] 100 (0, 0))]) 0 hP rfl
  rw [eq6]
  clear eq6 hP; have hP := hPn; clear hPn
  simp only [List.eraseIdx_cons_zero, List.eraseIdx_cons_succ, addrs_cons, addrs_nil] at hP ⊢
  obtain ⟨cb, cc, rfl⟩ := hrow.form
  have l0 : A ≤ A.set q20 (.cells #[.string nm] 9 (0, 0)) := le_set nq20
  refine call_ov hP (visit56 (A.set q20 (.cells #[.string nm] 9 (0, 0))) _ q6 ⟨q20, 0, none⟩ 1 nm kids ps (.slice cb kids.length cc) (le_set nq6) nq6 (set_at _ _ _) (cell_of (i := 0) (set_at _ _ _) rfl) (hrow.le l0) hpl (fun j hj => let ⟨q, h1, h2⟩ := hyk j hj; ⟨q, h1, h2.le l0⟩) (hev rfl) hkl) ?_
  clear hP
  rintro _ A2 ⟨hA2, w, h62, hF⟩ hP
  have c6 := cell_of (i := 0) h62 rfl
  refine hR _ _ _ ?_; clear hR R
  rw [seqX_nil]
  refine hK _ _ _ ?_; clear hK K
  refine hN8 _ _ _ ?_
  refine xc_two fun N9 hN9 => ?_
  refine xc_reg1 2 rfl fun K hK => ?_
  simp only [show (List.range 2).map (·, true) = [(0, true), (1, true)] from rfl, rslv_cons, rslv_nil, List.getElem?_toArray, List.getElem?_cons_zero, List.getElem?_cons_succ, gres]
  iterate 2 (refine seqX_hide2 fun R hR => ?_; simp [go_sem, d206, d620, bc hP c6]; refine hR _ _ _ ?_; clear hR R)
  rw [seqX_nil]
  refine hK _ _ _ ?_; clear hK K
  refine hN9 _ _ _ ?_
  simp [go_sem, d206, d620, bc hP c6]
  exact ⟨hF, View.le_trans l0 hA2⟩
end Go.Proofs.YthjbgpmcfcijgaaDoorV

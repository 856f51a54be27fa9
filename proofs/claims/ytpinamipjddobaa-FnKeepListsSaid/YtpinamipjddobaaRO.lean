/- Trees: the names of a mapping's fields. -/
import Derived.Test.YtpinamipjddobaaRJ
namespace Go.Proofs.YtpinamipjddobaaV
open Go.RowKit
set_option linter.unusedSimpArgs false
set_option linter.unusedVariables false
/-- The variable b5 holds a slice of such names, which is new over A0. -/
def NS (A0 D : View) (b5 : Nat) (l : List ByteArray) : Prop := ∃ u, D b5 = some (.cells #[u] 47 (0, 0)) ∧ Own A0 D 9 1 u l.length (l.map .string) ∧ A0 ≤ D ∧ A0 b5 = none
theorem str_ne : (47 : TypeId) ≠ 9 := by decide
set_option maxRecDepth 20000 in
theorem names82 (A0 A : View) (kp vp b5 : Nat) (l : List ByteArray) (k st : Int) (tag val an : ByteArray) (cv : Value) (h ln f : ByteArray) (row col : Int) (hn : NS A0 A b5 l) (hl : l.length ≤ 1000000) (hk : A0 kp = some (.cells (ync k st tag val an cv h ln f row col) 114 (0, 0))) :
    VCalls Try.prog 82 #[ptr0 kp, ptr0 vp, ptr0 b5] A fun r A' => NS A0 A' b5 (l ++ [val]) := by
  obtain ⟨u, h5, hO, hle, h0⟩ := hn
  obtain ⟨ub, uc, rfl⟩ := hO.shape
  have c5 := cell_of (i := 0) h5 rfl
  have c3 := le_cell hle (cell_of (i := 3) hk rfl)
  refine xcalls Try.func82 rfl (by simp [Try.ntmps82]) ?_
  simp only [Try.f82]
  have hP : Priv A (addrs []) := Priv.nil A
  show xc _ _ _ _ _ _ (ov A [])
  rw [xc_draws]
  refine vdrawK [(0, true), (1, true), (2, true), (3, true), (4, true), (5, true), (6, false), (7, false)] (ov A []) mixed (by kernel_rfl) (View.le_refl _) fun K hK => ?_
  simp only [rsl, gres]
  iterate 5 (refine seqR_hide fun R hR => ?_; simp [go_sem, bc hP c5, bc hP c3]; refine hR _ _ _ ?_; clear hR R)
  refine seqR_hide fun R hR => ?_
  simp [go_sem, bc hP c5, bc hP c3]
  intro q10 hq10
  replace hP := hP.cons hq10
  clear hq10
  refine hR _ _ _ ?_; clear hR R
  refine seqR_hide fun R hR => ?_
  simp [go_sem, bc hP c5, bc hP c3]
  have e10 : b5 ≠ q10 := fun hx => by have := hP.1; rw [← hx, h5] at this; cases this
  refine append_ov (cs := [.string val]) (m := 1) hP ti47 ti47 (fun k => by simp) ti9 rfl (by decide) hO hle (by simp [appended, View.cells?, go_sem]) (by simp [isStr]) (fun v hv => by rw [List.mem_singleton] at hv; subst hv; rfl) (by omega) ?_
  clear hP
  rintro v4 D4 h4 hO4 h4e hP
  simp only [addrs_cons, addrs_nil] at hP
  have h54 := keep_block h4e hO h5 str_ne
  obtain ⟨wb, wc, rfl⟩ := hO4.shape
  have hs := cstore (L := [(q10, .cells #[.string val] 9 (0, 0))]) hP ti47 h54 (u := .slice wb (l.length + 1) wc) rfl
  have hsa := hs.1
  refine hR _ _ _ ?_; clear hR R
  refine seqR_hide fun R hR => ?_
  simp [go_sem, e10, hsa]
  refine hR _ _ _ ?_; clear hR R
  rw [seqR_nil]
  refine hK _ _ _ ?_; clear hK K
  simp [go_sem, e10, hsa]
  have hP2 := hs.2
  have hne := own_ty hO4 h54 str_ne
  have hO5 : Own A0 (D4.set b5 (.cells #[.slice wb (l.length + 1) wc] 47 (0, 0))) 9 1 (.slice wb (l.length + 1) wc) (l.length + 1) (l.map .string ++ [.string val]) := own_move hO4 fun k o k1 k2 k3 => ⟨k1, by
    rw [set_other (fun hx => hne (by rw [← hx]; exact k2))]
    exact k3⟩
  have l5 : A0 ≤ D4.set b5 (.cells #[.slice wb (l.length + 1) wc] 47 (0, 0)) := le_set0 h4 h0
  refine ⟨.slice wb (l.length + 1) wc, ?_, ?_, View.le_trans l5 ?_, h0⟩
  · exact le_ov hP2 _ _ (set_at _ _ _)
  · rw [List.length_append, List.map_append]
    exact hO5.le (le_ov hP2)
  · exact le_ov hP2
set_option maxRecDepth 20000 in
theorem names90 (A0 A : View) (kp vp b5 q4 : Nat) (i : Int) (l : List ByteArray) (k st : Int) (tag val an : ByteArray) (cv : Value) (h ln f : ByteArray) (row col : Int) (hn : NS A0 A b5 l) (hl : l.length ≤ 1000000) (hk : A0 kp = some (.cells (ync k st tag val an cv h ln f row col) 114 (0, 0))) (h4 : A0 q4 = some (.cells #[.func (.func 82) #[] #[ptr0 b5]] 125 (0, 0))) :
    VCalls Try.prog 90 #[ptr0 kp, ptr0 vp, .int .i64 i, ptr0 q4] A fun r A' => r = .bool true ∧ NS A0 A' b5 (l ++ [val]) := by
  have hle := hn.choose_spec.2.2.1
  have c4 := le_cell hle (cell_of (i := 0) h4 rfl)
  refine xcalls Try.func90 rfl (by simp [Try.ntmps90]) ?_
  simp only [Try.f90]
  have hP : Priv A (addrs []) := Priv.nil A
  show xc _ _ _ _ _ _ (ov A [])
  refine xc_two fun N1 hN1 => ?_
  refine xc_reg2 fun K hK => ?_
  simp only [rall, rsl, gres]
  (refine seqX_hide2 fun R hR => ?_; simp [go_sem, bc hP c4]; refine hR _ _ _ ?_; clear hR R)
  rw [seqX_nil]
  refine hK _ _ _ ?_; clear hK K
  refine hN1 _ _ _ ?_
  refine xc_two fun N2 hN2 => ?_
  refine xc_reg2 fun K hK => ?_
  simp only [rall, rsl, gres]
  iterate 3 (refine seqX_hide2 fun R hR => ?_; simp [go_sem, bc hP c4]; refine hR _ _ _ ?_; clear hR R)
  refine seqX_hide2 fun R hR => ?_
  simp [go_sem, bc hP c4]
  refine call_ov hP (names82 A0 A kp vp b5 l k st tag val an cv h ln f row col hn hl hk) ?_
  clear hP
  rintro _ A2 hn2 hP
  refine hR _ _ _ ?_; clear hR R
  rw [seqX_nil]
  refine hK _ _ _ ?_; clear hK K
  refine hN2 _ _ _ ?_
  refine xc_two fun N3 hN3 => ?_
  refine xc_reg2 fun K hK => ?_
  simp only [rall, rsl, gres]
  (refine seqX_hide2 fun R hR => ?_; simp [go_sem]; refine hR _ _ _ ?_; clear hR R)
  rw [seqX_nil]
  refine hK _ _ _ ?_; clear hK K
  refine hN3 _ _ _ ?_
  simp [go_sem]
  exact hn2
/-- The keys of a mapping. -/
def keysL : List Tr → List ByteArray
  | a :: _ :: l => a.value :: keysL l
  | _ => []
theorem keysL_len : ∀ l : List Tr, (keysL l).length ≤ l.length
  | a :: b :: l => by
    rw [keysL, List.length_cons, List.length_cons, List.length_cons]
    have := keysL_len l
    omega
  | [] => Nat.le_refl _
  | [a] => by rw [keysL]; exact Nat.zero_le _; simp
theorem keysL_step {l : List Tr} {i : Nat} (h : i + 1 < l.length) : keysL (l.drop i) = (l[i]).value :: keysL (l.drop (i + 2)) := by
  rw [List.drop_eq_getElem_cons (by omega), List.drop_eq_getElem_cons (i := i + 1) h, keysL]
theorem keysL_end {l : List Tr} {i : Nat} (h : l.length ≤ i) : keysL (l.drop i) = [] := by
  rw [List.drop_eq_nil_of_le h, keysL]
  simp
set_option maxRecDepth 20000 in
set_option maxHeartbeats 400000 in
theorem namesW (A0 A : View) (b5 q4 : Nat) (kids : List Tr) (ps : List Nat) (cv : Value) (hn : NS A0 A b5 []) (h4 : A0 q4 = some (.cells #[.func (.func 82) #[] #[ptr0 b5]] 125 (0, 0))) (hrow : Row A0 1 cv kids.length (ps.map ptr0)) (hpl : ps.length = kids.length) (hyk : ∀ j (hj : j < kids.length), ∃ q, ps[j]? = some q ∧ IsYn A0 (kids[j]) q) (hev : kids.length % 2 = 0) (hkl : kids.length ≤ 1000000) :
    VCalls Try.prog 89 #[cv, .func (.func 90) #[] #[ptr0 q4]] A fun r A' => NS A0 A' b5 (keysL kids) := by
  obtain ⟨cb, cc, rfl⟩ := hrow.form
  refine xcalls Try.func89 rfl (by simp [Try.ntmps89]) ?_
  simp only [Try.f89]
  have hP : Priv A (addrs []) := Priv.nil A
  show xc _ _ _ _ _ _ (ov A [])
  refine xc_two fun N1 hN1 => ?_
  refine xc_reg2 fun K hK => ?_
  simp only [rall, rsl, gres]
  (refine seqX_hide2 fun R hR => ?_; simp [go_sem]; refine hR _ _ _ ?_; clear hR R)
  rw [seqX_nil]
  refine hK _ _ _ ?_; clear hK K
  refine hN1 _ _ _ ?_
  rw [xc_block]
  rw [xc_loop]
  refine vloopK (fun k' e ds A' => ∃ (i : Nat) (D : View) (ks : List ByteArray), k' = kids.length - i ∧ ds = [] ∧ A' = ov D [] ∧ Priv D [] ∧ e 0 = .slice cb kids.length cc ∧ e 1 = .func (.func 90) #[] #[ptr0 q4] ∧ e 4 = .int .i64 i ∧ (i ≤ kids.length) ∧ (i % 2 = 0) ∧ (keysL kids = ks ++ keysL (kids.drop i)) ∧ (ks.length ≤ i) ∧ (NS A0 D b5 ks)) _ ⟨0, A, [], rfl, rfl, rfl, hP, by simp [go_sem], by simp [go_sem], by simp [go_sem], by omega, rfl, rfl, Nat.le_refl _, hn⟩ ?_
  clear hP
  rintro k' e ds A' ⟨i, D, ks, rfl, rfl, hV, hP, g0, g1, g4, hil, hi2, hks, hkz, hnD⟩ J1 X1 hJ1 hX1
  refine xc_sound _ ?_
  replace hV := Eq.symm hV; subst hV; replace hP : Priv D (addrs []) := hP
  have hw1 : IntKind.i64.wrap ((i : Int) + 1) = ((i + 1 : Nat) : Int) := by rw [wrap_in (by omega) (by omega)]; omega
  have hw2 : IntKind.i64.wrap ((i : Int) + 2) = ((i + 2 : Nat) : Int) := by rw [wrap_in (by omega) (by omega)]; omega
  have hAD : A0 ≤ D := hnD.choose_spec.2.2.1
  by_cases hi : i < kids.length
  rotate_left
  · rw [keysL_end (by omega), List.append_nil] at hks
    have hii : ¬ (i : Int) < kids.length := by omega
    refine xc_two fun N2 hN2 => ?_
    refine xc_two fun N3 hN3 => ?_
    refine xc_reg2 fun K hK => ?_
    simp only [rall, rsl, gres]
    iterate 4 (refine seqX_hide2 fun R hR => ?_; simp [go_sem, g0, g1, g4, hi, hii]; refine hR _ _ _ ?_; clear hR R)
    rw [seqX_nil]
    refine hK _ _ _ ?_; clear hK K
    refine hN3 _ _ _ ?_
    refine xc_iffalse (by simp [go_sem, g0, g1, g4, hi, hii]) ?_
    refine hX1 _ _ _ _ ?_
    simp [go_sem, g0, g1, g4, hi, hii]
    rw [hks]
    exact hnD
  have hi1 : i + 1 < kids.length := by omega
  have hii : (i : Int) < kids.length := by omega
  have hii1 : ((i + 1 : Nat) : Int) < kids.length := by omega
  obtain ⟨q, hq1, hq2⟩ := hyk i hi
  obtain ⟨p, hp1, hp2⟩ := hyk (i + 1) hi1
  obtain ⟨a1, cap1, f1, -, u1⟩ := Row.at1 (i := i) (u := ptr0 q) hrow (by rw [List.getElem?_map, hq1]; rfl)
  simp only [Value.slice.injEq] at f1
  obtain ⟨rfl, -, rfl⟩ := f1
  obtain ⟨a2, cap2, f2, -, u2⟩ := Row.at1 (i := i + 1) (u := ptr0 p) hrow (by rw [List.getElem?_map, hp1]; rfl)
  simp only [Value.slice.injEq, Option.some.injEq] at f2
  obtain ⟨rfl, -, rfl⟩ := f2
  rw [show a1.add (i + 1) = ⟨a1.block, a1.off + (i + 1), none⟩ from if_neg (Nat.succ_ne_zero i)] at u2
  have hii2 : (i : Int) + 1 < kids.length := by omega
  have hii3 : (0 : Int) ≤ (i : Int) + 1 := by omega
  have u1z := u1
  have u2z := u2
  have u1 := le_cell hAD u1
  have u2 := le_cell hAD u2
  have hPz : Priv A0 (addrs []) := Priv.nil A0
  have hst := keysL_step hi1
  obtain ⟨k, st, tag, val, an, h, l, f, row, col, al, kk, hkk⟩ := kids[i].ex
  rw [hkk] at hq2 hst
  replace hst : keysL (kids.drop i) = val :: keysL (kids.drop (i + 2)) := hst
  obtain ⟨cv2, ps2, hq3, -, -, -⟩ := hq2.open
  refine xc_two fun N2 hN2 => ?_
  refine xc_two fun N3 hN3 => ?_
  refine xc_reg2 fun K hK => ?_
  simp only [rall, rsl, gres]
  iterate 4 (refine seqX_hide2 fun R hR => ?_; simp [go_sem, g0, g1, g4, hi, hii, hi1, hii1, hii2, hii3, hw1, hw2, bc hP u1, bc hP u2, bc hPz u1z, bc hPz u2z, xindexAt, vload]; refine hR _ _ _ ?_; clear hR R)
  rw [seqX_nil]
  refine hK _ _ _ ?_; clear hK K
  refine hN3 _ _ _ ?_
  refine xc_iftrue (by simp [go_sem, g0, g1, g4, hi, hii, hi1, hii1, hii2, hii3, hw1, hw2, bc hP u1, bc hP u2, bc hPz u1z, bc hPz u2z, xindexAt, vload]) ?_
  refine hN2 _ _ _ ?_
  refine xc_two fun N4 hN4 => ?_
  rw [xc_block]
  refine xc_two fun N5 hN5 => ?_
  rw [xc_draws]
  refine vdrawK [(0, true), (1, true), (2, true), (3, true), (4, true), (5, true), (6, true), (7, true), (8, true), (9, true), (10, true), (11, false), (12, true)] (ov A0 []) mixed (by kernel_rfl) (ov_mono hAD) fun K hK => ?_
  simp only [rsl, gres]
  iterate 11 (refine seqR_hide fun R hR => ?_; simp [go_sem, g0, g1, g4, hi, hii, hi1, hii1, hii2, hii3, hw1, hw2, bc hP u1, bc hP u2, bc hPz u1z, bc hPz u2z, xindexAt, vload]; refine hR _ _ _ ?_; clear hR R)
  refine seqR_hide fun R hR => ?_
  simp [go_sem, g0, g1, g4, hi, hii, hi1, hii1, hii2, hii3, hw1, hw2, bc hP u1, bc hP u2, bc hPz u1z, bc hPz u2z, xindexAt, vload]
  refine call_ov hP (names90 A0 D q p b5 q4 i ks k st tag val an cv2 h l f row col hnD (by omega) hq3 h4) ?_
  clear hP
  rintro _ D2 ⟨rfl, hn2⟩ hP
  refine hR _ _ _ ?_; clear hR R
  (refine seqR_hide fun R hR => ?_; simp [go_sem, g0, g1, g4, hi, hii, hi1, hii1, hii2, hii3, hw1, hw2, bc hPz u1z, bc hPz u2z, xindexAt, vload]; refine hR _ _ _ ?_; clear hR R)
  rw [seqR_nil]
  refine hK _ _ _ ?_; clear hK K
  refine hN5 _ _ _ ?_
  refine xc_two fun N6 hN6 => ?_
  refine xc_reg2 fun K hK => ?_
  simp only [rall, rsl, gres]
  iterate 2 (refine seqX_hide2 fun R hR => ?_; simp [go_sem, g0, g1, g4, hi, hii, hi1, hii1, hii2, hii3, hw1, hw2, bc hPz u1z, bc hPz u2z, xindexAt, vload]; refine hR _ _ _ ?_; clear hR R)
  rw [seqX_nil]
  refine hK _ _ _ ?_; clear hK K
  refine hN6 _ _ _ ?_
  refine xc_iffalse (by simp [go_sem, g0, g1, g4, hi, hii, hi1, hii1, hii2, hii3, hw1, hw2, bc hPz u1z, bc hPz u2z, xindexAt, vload]) ?_
  refine hN4 _ _ _ ?_
  refine xc_reg2 fun K hK => ?_
  simp only [rall, rsl, gres]
  iterate 3 (refine seqX_hide2 fun R hR => ?_; simp [go_sem, g0, g1, g4, hi, hii, hi1, hii1, hii2, hii3, hw1, hw2, bc hPz u1z, bc hPz u2z, xindexAt, vload]; refine hR _ _ _ ?_; clear hR R)
  rw [seqX_nil]
  refine hK _ _ _ ?_; clear hK K
  refine hJ1 (kids.length - (i + 2)) _ _ _ (by omega) ⟨i + 2, D2, ks ++ [val], rfl, rfl, rfl, hP, by simp [go_sem, g0, g1, g4, hi, hii, hi1, hii1, hii2, hii3, hw1, hw2, bc hPz u1z, bc hPz u2z, xindexAt, vload], by simp [go_sem, g0, g1, g4, hi, hii, hi1, hii1, hii2, hii3, hw1, hw2, bc hPz u1z, bc hPz u2z, xindexAt, vload], by simp [go_sem, g0, g1, g4, hi, hii, hi1, hii1, hii2, hii3, hw1, hw2, bc hPz u1z, bc hPz u2z, xindexAt, vload], by omega, by omega, by rw [hks, hst]; simp, by rw [List.length_append, List.length_singleton]; omega, hn2⟩
set_option maxRecDepth 20000 in
theorem namesV (A0 A : View) (b5 : Nat) (kids : List Tr) (ps : List Nat) (cv : Value) (hle : A0 ≤ A) (h0 : A0 b5 = none) (h5 : A b5 = some (.cells #[.slice none 0 0] 47 (0, 0))) (hrow : Row A0 1 cv kids.length (ps.map ptr0)) (hpl : ps.length = kids.length) (hyk : ∀ j (hj : j < kids.length), ∃ q, ps[j]? = some q ∧ IsYn A0 (kids[j]) q) (hev : kids.length % 2 = 0) (hkl : kids.length ≤ 1000000) :
    VCalls Try.prog 80 #[cv, .func (.func 82) #[] #[ptr0 b5], .slice none 0 0] A fun r A' => ∃ u, A' b5 = some (.cells #[u] 47 (0, 0)) ∧ Texts A' u (keysL kids) ∧ A0 ≤ A' := by
  refine xcalls Try.func80 rfl (by simp [Try.ntmps80]) ?_
  simp only [Try.f80]
  have hP : Priv A (addrs []) := Priv.nil A
  show xc _ _ _ _ _ _ (ov A [])
  refine xc_two fun N1 hN1 => ?_
  refine xc_reg2 fun K hK => ?_
  simp only [rall, rsl, gres]
  refine seqX_hide2 fun R hR => ?_
  simp [go_sem]
  intro q4 hq4
  replace hP := hP.cons hq4
  clear hq4
  refine hR _ _ _ ?_; clear hR R
  refine seqX_hide2 fun R hR => ?_
  simp [go_sem]
  intro q5 hq5
  replace hP := hP.cons hq5
  clear hq5
  have d54 : q5 ≠ q4 := (hP.ne q4 (by simp [addrs])).1
  have d45 : q4 ≠ q5 := (hP.ne q4 (by simp [addrs])).2
  refine hR _ _ _ ?_; clear hR R
  rw [seqX_nil]
  refine hK _ _ _ ?_; clear hK K
  refine hN1 _ _ _ ?_
  refine xc_two fun N2 hN2 => ?_
  refine xc_reg2 fun K hK => ?_
  simp only [rall, rsl, gres]
  iterate 2 (refine seqX_hide2 fun R hR => ?_; simp [go_sem, d54, d45]; refine hR _ _ _ ?_; clear hR R)
  rw [seqX_nil]
  refine hK _ _ _ ?_; clear hK K
  refine hN2 _ _ _ ?_
  rw [xc_block]
  refine xc_two fun N3 hN3 => ?_
  refine xc_reg2 fun K hK => ?_
  simp only [rall, rsl, gres]
  iterate 2 (refine seqX_hide2 fun R hR => ?_; simp [go_sem, d54, d45]; refine hR _ _ _ ?_; clear hR R)
  rw [seqX_nil]
  refine hK _ _ _ ?_; clear hK K
  refine hN3 _ _ _ ?_
  refine xc_iftrue (by simp [go_sem, d54, d45]) ?_
  refine xc_reg2 fun K hK => ?_
  simp only [rall, rsl, gres]
  iterate 2 (refine seqX_hide2 fun R hR => ?_; simp [go_sem, d54, d45]; refine hR _ _ _ ?_; clear hR R)
  refine seqX_hide2 fun R hR => ?_
  simp [go_sem, d54, d45]
  obtain ⟨eq4, hPn, nq4⟩ := sinkI (A := A) (L := [(q5, .cells #[.slice none 0 0] 47 (0, 0)), (q4, .cells #[.func (.func 82) #[] #[ptr0 b5]] 125 (0, 0))]) 1 hP rfl
  rw [eq4]
  clear eq4 hP; have hP := hPn; clear hPn
  simp only [List.eraseIdx_cons_zero, List.eraseIdx_cons_succ, addrs_cons, addrs_nil] at hP ⊢
  have z4 : A0 q4 = none := none_le hle nq4
  have x4 : q4 ≠ b5 := fun hx => by rw [hx, h5] at nq4; cases nq4
  have l0 : A0 ≤ A0.set q4 (.cells #[.func (.func 82) #[] #[ptr0 b5]] 125 (0, 0)) := le_set z4
  have hn : NS (A0.set q4 (.cells #[.func (.func 82) #[] #[ptr0 b5]] 125 (0, 0))) (A.set q4 (.cells #[.func (.func 82) #[] #[ptr0 b5]] 125 (0, 0))) b5 [] := ⟨.slice none 0 0, by rw [set_other (fun hx => x4 hx.symm)]; exact h5, Own.nil _ _ _ _, set_mono hle _ _, by rw [set_other (fun hx => x4 hx.symm)]; exact h0⟩
  refine call_ov hP (namesW (A0.set q4 (.cells #[.func (.func 82) #[] #[ptr0 b5]] 125 (0, 0))) _ b5 q4 kids ps cv hn (set_at _ _ _) (hrow.le l0) hpl (fun j hj => let ⟨q, h1, h2⟩ := hyk j hj; ⟨q, h1, h2.le l0⟩) hev hkl) ?_
  clear hP
  rintro _ A2 ⟨u, h52, hO2, hle2, -⟩ hP
  refine hR _ _ _ ?_; clear hR R
  rw [seqX_nil]
  refine hK _ _ _ ?_; clear hK K
  simp [go_sem, d54, d45]
  refine ⟨u, le_ov hP _ _ h52, ?_, View.le_trans l0 (View.le_trans hle2 ?_)⟩
  · exact hO2.row.le (le_ov hP)
  · exact le_ov hP
end Go.Proofs.YtpinamipjddobaaV

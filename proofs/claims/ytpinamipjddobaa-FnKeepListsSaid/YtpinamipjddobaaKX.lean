/- Trees: a kyaml node back as a thin tree (impl.node, treeOf). -/
import Derived.Test.YtpinamipjddobaaKL
namespace Go.Proofs.YtpinamipjddobaaV
open Go.RowKit
set_option linter.unusedSimpArgs false
set_option linter.unusedVariables false
/-- A tree as it is told: without aliases, styles within their bits. -/
def NT : Tr → Prop
  | .mk k st tag val an h l f row col al kids => (0 ≤ k ∧ k ≤ 16) ∧ (0 ≤ st ∧ st < 64) ∧ al = -1 ∧ ∀ j (hj : j < kids.length), NT (kids[j])
termination_by v => SizeOf.sizeOf v
decreasing_by
  have := List.sizeOf_lt_of_mem (List.getElem_mem hj)
  simp
  omega
theorem NT.open {k st : Int} {tag val an h l f : ByteArray} {row col al : Int} {kids : List Tr} (e : NT (.mk k st tag val an h l f row col al kids)) : (0 ≤ k ∧ k ≤ 16) ∧ (0 ≤ st ∧ st < 64) ∧ al = -1 ∧ ∀ x ∈ kids, NT x := by
  rw [NT] at e
  refine ⟨e.1, e.2.1, e.2.2.1, fun x hx => ?_⟩
  obtain ⟨j, hj, rfl⟩ := List.getElem_of_mem hx
  exact e.2.2.2 j hj
theorem NT.mk' {k st : Int} {tag val an h l f : ByteArray} {row col al : Int} {kids : List Tr} (h1 : 0 ≤ k ∧ k ≤ 16) (h2 : 0 ≤ st ∧ st < 64) (h3 : al = -1) (h4 : ∀ x ∈ kids, NT x) : NT (.mk k st tag val an h l f row col al kids) := by
  rw [NT]
  exact ⟨h1, h2, h3, fun j hj => h4 _ (List.getElem_mem hj)⟩
theorem PT.nt : ∀ {lv : Nat} {t : Tr}, PT lv t → NT t
  | lv, .mk k st tag val an h l f row col al kids, e => by
    rw [PT] at e
    obtain ⟨-, ⟨h2, h3⟩, h4, h5⟩ := e
    rw [NT]
    exact ⟨by omega, by omega, h3, fun j hj => PT.nt (h5 j hj)⟩
termination_by _ v => SizeOf.sizeOf v
decreasing_by
  have := List.sizeOf_lt_of_mem (List.getElem_mem hj)
  simp
  omega
theorem conv_k (k : Int) : xconv Try.prog 112 3 (.int .u32 k) = some (.int .i64 (IntKind.i64.wrap k)) := by
  kernel_rfl
theorem conv_s (k : Int) : xconv Try.prog 71 3 (.int .u32 k) = some (.int .i64 (IntKind.i64.wrap k)) := by
  kernel_rfl
set_option maxRecDepth 20000 in
set_option maxHeartbeats 4000000 in
theorem node50 (t : Tr) : ∀ (A : View) (p : Nat) (all : Value), IsYn A t p → NT t → nds t ≤ 1000000 → VCalls Try.prog 76 #[ptr0 p, all] A fun r A' => ∃ c, r = .agg c ∧ IsTr A' t c ∧ A ≤ A' := by
  induction t using WellFounded.induction (measure (fun t : Tr => SizeOf.sizeOf t)).wf with
  | _ t ih =>
  intro A p all hy hnt hnd
  obtain ⟨k, st, tag, val, an, h, l, f, row, col, al, kids, rfl⟩ := t.ex
  have ihk : ∀ x ∈ kids, ∀ (A : View) (p : Nat) (all : Value), IsYn A x p → NT x → nds x ≤ 1000000 → VCalls Try.prog 76 #[ptr0 p, all] A fun r A' => ∃ c, r = .agg c ∧ IsTr A' x c ∧ A ≤ A' := fun x hx => ih x (by
    have := List.sizeOf_lt_of_mem hx
    show SizeOf.sizeOf x < SizeOf.sizeOf (Tr.mk k st tag val an h l f row col al kids)
    simp
    omega)
  clear ih
  obtain ⟨hk, hst, rfl, hkn⟩ := hnt.open
  obtain ⟨cv, ps, hp, hrow, hpl, hyk⟩ := hy.open
  obtain ⟨cb, cc, rfl⟩ := hrow.form
  rw [nds_mk] at hnd
  have hkl := nds_len kids
  have hst6 : st % 64 = st := by omega
  have c0 := cell_of (i := 0) hp rfl
  have c1 := cell_of (i := 1) hp rfl
  have c2 := cell_of (i := 2) hp rfl
  have c3 := cell_of (i := 3) hp rfl
  have c4 := cell_of (i := 4) hp rfl
  have c5 := cell_of (i := 5) hp rfl
  have c6 := cell_of (i := 6) hp rfl
  have c7 := cell_of (i := 7) hp rfl
  have c8 := cell_of (i := 8) hp rfl
  have c9 := cell_of (i := 9) hp rfl
  have c10 := cell_of (i := 10) hp rfl
  have c11 := cell_of (i := 11) hp rfl
  have wk : IntKind.i64.wrap k = k := wrap_in (by omega) (by omega)
  have ws : IntKind.i64.wrap st = st := wrap_in (by omega) (by omega)
  refine xcalls Try.func76 rfl (by simp [Try.ntmps76]) ?_
  simp only [Try.f76]
  have hP : Priv A (addrs []) := Priv.nil A
  show xc _ _ _ _ _ _ (ov A [])
  refine xc_two fun N1 hN1 => ?_
  refine xc_reg2 fun K hK => ?_
  simp only [rall, rsl, gres]
  refine seqX_hide2 fun R hR => ?_
  simp [go_sem, bc hP c0, bc hP c1, bc hP c2, bc hP c3, bc hP c4, bc hP c5, bc hP c6, bc hP c7, bc hP c8, bc hP c9, bc hP c10, bc hP c11, wk, ws, hst6, conv_k, conv_s]
  intro q4 hq4
  replace hP := hP.cons hq4
  clear hq4
  refine hR _ _ _ ?_; clear hR R
  rw [seqX_nil]
  refine hK _ _ _ ?_; clear hK K
  refine hN1 _ _ _ ?_
  refine xc_two fun N2 hN2 => ?_
  rw [xc_draws]
  refine vdrawK [(0, true), (1, true), (2, true), (3, true), (4, true), (5, true), (6, true), (7, true), (8, true), (9, true), (10, true), (11, true), (12, true), (13, true), (14, true), (15, true), (16, true), (17, true), (18, true), (19, true), (20, true), (21, true), (22, true), (23, true), (24, true), (25, true), (26, true), (27, true), (28, true), (29, true), (30, true), (31, true), (32, true), (33, true), (34, true), (35, true), (36, true), (37, true), (38, true), (39, true), (40, true), (41, true), (42, true), (43, true), (44, false)] (ov A [(q4, .cells (trc 0 0 ⟨#[]⟩ ⟨#[]⟩ ⟨#[]⟩ ⟨#[]⟩ ⟨#[]⟩ ⟨#[]⟩ 0 0 0 (.slice none 0 0)) 24 (0, 0))]) mixed (by kernel_rfl) (View.le_refl _) fun K hK => ?_
  simp only [rsl, gres]
  iterate 4 (refine seqR_hide fun R hR => ?_; simp [go_sem, bc hP c0, bc hP c1, bc hP c2, bc hP c3, bc hP c4, bc hP c5, bc hP c6, bc hP c7, bc hP c8, bc hP c9, bc hP c10, bc hP c11, wk, ws, hst6, conv_k, conv_s]; refine hR _ _ _ ?_; clear hR R)
  refine seqR_hide fun R hR => ?_
  simp [go_sem, bc hP c0, bc hP c1, bc hP c2, bc hP c3, bc hP c4, bc hP c5, bc hP c6, bc hP c7, bc hP c8, bc hP c9, bc hP c10, bc hP c11, wk, ws, hst6, conv_k, conv_s]
  refine hR _ _ _ ?_; clear hR R
  iterate 4 (refine seqR_hide fun R hR => ?_; simp [go_sem, bc hP c0, bc hP c1, bc hP c2, bc hP c3, bc hP c4, bc hP c5, bc hP c6, bc hP c7, bc hP c8, bc hP c9, bc hP c10, bc hP c11, wk, ws, hst6, conv_k, conv_s]; refine hR _ _ _ ?_; clear hR R)
  refine seqR_hide fun R hR => ?_
  simp [go_sem, bc hP c0, bc hP c1, bc hP c2, bc hP c3, bc hP c4, bc hP c5, bc hP c6, bc hP c7, bc hP c8, bc hP c9, bc hP c10, bc hP c11, wk, ws, hst6, conv_k, conv_s]
  refine hR _ _ _ ?_; clear hR R
  iterate 33 (refine seqR_hide fun R hR => ?_; simp [go_sem, bc hP c0, bc hP c1, bc hP c2, bc hP c3, bc hP c4, bc hP c5, bc hP c6, bc hP c7, bc hP c8, bc hP c9, bc hP c10, bc hP c11, wk, ws, hst6, conv_k, conv_s]; refine hR _ _ _ ?_; clear hR R)
  refine seqR_hide fun R hR => ?_
  simp [go_sem, bc hP c0, bc hP c1, bc hP c2, bc hP c3, bc hP c4, bc hP c5, bc hP c6, bc hP c7, bc hP c8, bc hP c9, bc hP c10, bc hP c11, wk, ws, hst6, conv_k, conv_s]
  intro q5 hq5
  replace hP := hP.cons hq5
  clear hq5
  have d54 : q5 ≠ q4 := (hP.ne q4 (by simp [addrs])).1
  have d45 : q4 ≠ q5 := (hP.ne q4 (by simp [addrs])).2
  refine hR _ _ _ ?_; clear hR R
  refine seqR_hide fun R hR => ?_
  simp [go_sem, bc hP c0, bc hP c1, bc hP c2, bc hP c3, bc hP c4, bc hP c5, bc hP c6, bc hP c7, bc hP c8, bc hP c9, bc hP c10, bc hP c11, wk, ws, hst6, conv_k, conv_s, d54, d45]
  refine hR _ _ _ ?_; clear hR R
  rw [seqR_nil]
  refine hK _ _ _ ?_; clear hK K
  refine hN2 _ _ _ ?_
  refine xc_two fun N3 hN3 => ?_
  refine xc_two fun N4 hN4 => ?_
  refine xc_reg2 fun K hK => ?_
  simp only [rall, rsl, gres]
  iterate 5 (refine seqX_hide2 fun R hR => ?_; simp [go_sem, bc hP c0, bc hP c1, bc hP c2, bc hP c3, bc hP c4, bc hP c5, bc hP c6, bc hP c7, bc hP c8, bc hP c9, bc hP c10, bc hP c11, wk, ws, hst6, conv_k, conv_s, d54, d45]; refine hR _ _ _ ?_; clear hR R)
  rw [seqX_nil]
  refine hK _ _ _ ?_; clear hK K
  refine hN4 _ _ _ ?_
  refine xc_iffalse (by simp [go_sem, bc hP c0, bc hP c1, bc hP c2, bc hP c3, bc hP c4, bc hP c5, bc hP c6, bc hP c7, bc hP c8, bc hP c9, bc hP c10, bc hP c11, wk, ws, hst6, conv_k, conv_s, d54, d45]) ?_
  refine hN3 _ _ _ ?_
  refine xc_two fun N5 hN5 => ?_
  refine xc_two fun N6 hN6 => ?_
  refine xc_reg2 fun K hK => ?_
  simp only [rall, rsl, gres]
  iterate 6 (refine seqX_hide2 fun R hR => ?_; simp [go_sem, bc hP c0, bc hP c1, bc hP c2, bc hP c3, bc hP c4, bc hP c5, bc hP c6, bc hP c7, bc hP c8, bc hP c9, bc hP c10, bc hP c11, wk, ws, hst6, conv_k, conv_s, d54, d45]; refine hR _ _ _ ?_; clear hR R)
  rw [seqX_nil]
  refine hK _ _ _ ?_; clear hK K
  refine hN6 _ _ _ ?_
  rw [xc_block]
  rw [xc_loop]
  refine vloopK (fun k' e ds A' => ∃ (i : Nat) (D : View) (kv : Value) (cs : List Value), k' = kids.length - i ∧ ds = [] ∧ A' = ov D [(q5, .cells (trc k st tag val an h l f row col (-1) kv) 24 (0, 0)), (q4, .cells (trc 0 0 ⟨#[]⟩ ⟨#[]⟩ ⟨#[]⟩ ⟨#[]⟩ ⟨#[]⟩ ⟨#[]⟩ 0 0 0 (.slice none 0 0)) 24 (0, 0))] ∧ Priv D [q5, q4] ∧ e 1 = all ∧ e 4 = .pointer (some ⟨q4, 0, none⟩) ∧ e 5 = .pointer (some ⟨q5, 0, none⟩) ∧ e 78 = .slice cb kids.length cc ∧ e 79 = .int .i64 kids.length ∧ e 80 = .int .i64 i ∧ (i ≤ kids.length) ∧ (A ≤ eraseB D kv) ∧ (Own (eraseB D kv) D 24 12 kv i cs) ∧ (Parts 12 cs (kids.take i) (IsTr (eraseB D kv)))) _ ⟨0, A, .slice none 0 0, [], rfl, rfl, rfl, hP, by simp [go_sem, wk, ws, hst6, conv_k, conv_s, d54, d45], by simp [go_sem, wk, ws, hst6, conv_k, conv_s, d54, d45], by simp [go_sem, wk, ws, hst6, conv_k, conv_s, d54, d45], by simp [go_sem, wk, ws, hst6, conv_k, conv_s, d54, d45], by simp [go_sem, wk, ws, hst6, conv_k, conv_s, d54, d45], by simp [go_sem, wk, ws, hst6, conv_k, conv_s, d54, d45], by omega, View.le_refl _, Own.nil _ _ _ _, Parts.nil _ _⟩ ?_
  clear hP
  rintro k' e ds _ ⟨i, D, kv, cs, rfl, rfl, rfl, hP, g1, g4, g5, g78, g79, g80, hil, hAD, hO, hpp⟩ J1 X1 hJ1 hX1
  refine xc_sound _ ?_
  have hw1 : IntKind.i64.wrap ((i : Int) + 1) = ((i + 1 : Nat) : Int) := by rw [wrap_in (by omega) (by omega)]; omega
  obtain ⟨vb, vc, rfl⟩ := hO.shape
  by_cases hi : i < kids.length
  rotate_left
  · obtain rfl : i = kids.length := by omega
    rw [List.take_length] at hpp
    have hii : ¬ (kids.length : Int) < kids.length := by omega
    refine xc_two fun N7 hN7 => ?_
    refine xc_reg2 fun K hK => ?_
    simp only [rall, rsl, gres]
    (refine seqX_hide2 fun R hR => ?_; simp [go_sem, wk, ws, hst6, conv_k, conv_s, d54, d45, g1, g4, g5, g78, g79, g80, hi, hii]; refine hR _ _ _ ?_; clear hR R)
    rw [seqX_nil]
    refine hK _ _ _ ?_; clear hK K
    refine hN7 _ _ _ ?_
    refine xc_two fun N8 hN8 => ?_
    refine xc_iffalse (by simp [go_sem, wk, ws, hst6, conv_k, conv_s, d54, d45, g1, g4, g5, g78, g79, g80, hi, hii]) ?_
    refine hX1 _ _ _ _ ?_
    refine hN5 _ _ _ ?_
    refine xc_two fun N9 hN9 => ?_
    refine xc_reg2 fun K hK => ?_
    simp only [rall, rsl, gres]
    (refine seqX_hide2 fun R hR => ?_; simp [go_sem, wk, ws, hst6, conv_k, conv_s, d54, d45, g1, g4, g5, g78, g79, g80, hi, hii]; refine hR _ _ _ ?_; clear hR R)
    refine seqX_hide2 fun R hR => ?_
    simp [go_sem, wk, ws, hst6, conv_k, conv_s, d54, d45, g1, g4, g5, g78, g79, g80, hi, hii]
    refine hR _ _ _ ?_; clear hR R
    rw [seqX_nil]
    refine hK _ _ _ ?_; clear hK K
    refine hN9 _ _ _ ?_
    simp [go_sem, wk, ws, hst6, conv_k, conv_s, d54, d45, g1, g4, g5, g78, g79, g80, hi, hii]
    refine ⟨IsTr.of (Elems.le (fun _ _ g => IsTr.le ?_ _ _ g) ?_ (hO.elems (hpp.le fun _ _ g => IsTr.le (eraseB_le _ _) _ _ g))), View.le_trans hAD (View.le_trans (eraseB_le _ _) ?_)⟩
    · exact le_ov hP
    · exact le_ov hP
    · exact le_ov hP
  have hii : (i : Int) < kids.length := by omega
  obtain ⟨q, hq1, hq2⟩ := hyk i hi
  obtain ⟨a1, cap1, f1, -, u1⟩ := Row.at1 (i := i) (u := ptr0 q) hrow (by rw [List.getElem?_map, hq1]; rfl)
  simp only [Value.slice.injEq] at f1
  obtain ⟨rfl, -, rfl⟩ := f1
  have u1e := le_cell hAD u1
  have u1 := le_cell (eraseB_le D _) u1e
  have hnk : nds kids[i] ≤ 1000000 := by
    have := nds_mem (List.getElem_mem hi)
    omega
  have hntk := hkn _ (List.getElem_mem hi)
  refine xc_two fun N7 hN7 => ?_
  refine xc_reg2 fun K hK => ?_
  simp only [rall, rsl, gres]
  (refine seqX_hide2 fun R hR => ?_; simp [go_sem, wk, ws, hst6, conv_k, conv_s, d54, d45, g1, g4, g5, g78, g79, g80, hi, hii, hw1, bc hP u1, xindexAt, vload]; refine hR _ _ _ ?_; clear hR R)
  rw [seqX_nil]
  refine hK _ _ _ ?_; clear hK K
  refine hN7 _ _ _ ?_
  refine xc_two fun N8 hN8 => ?_
  refine xc_iftrue (by simp [go_sem, wk, ws, hst6, conv_k, conv_s, d54, d45, g1, g4, g5, g78, g79, g80, hi, hii, hw1, bc hP u1, xindexAt, vload]) ?_
  refine hN8 _ _ _ ?_
  refine xc_two fun N9 hN9 => ?_
  rw [xc_block]
  refine xc_two fun N10 hN10 => ?_
  refine xc_reg2 fun K hK => ?_
  simp only [rall, rsl, gres]
  iterate 3 (refine seqX_hide2 fun R hR => ?_; simp [go_sem, wk, ws, hst6, conv_k, conv_s, d54, d45, g1, g4, g5, g78, g79, g80, hi, hii, hw1, bc hP u1, xindexAt, vload]; refine hR _ _ _ ?_; clear hR R)
  rw [seqX_nil]
  refine hK _ _ _ ?_; clear hK K
  refine hN10 _ _ _ ?_
  rw [xc_draws]
  refine vdrawK [(0, true), (1, true), (2, true), (3, true), (4, true), (5, true), (6, false), (7, true), (8, false)] (ov (eraseB D (.slice vb i vc)) [(q5, .cells (trc k st tag val an h l f row col (-1) (.slice vb i vc)) 24 (0, 0)), (q4, .cells (trc 0 0 ⟨#[]⟩ ⟨#[]⟩ ⟨#[]⟩ ⟨#[]⟩ ⟨#[]⟩ ⟨#[]⟩ 0 0 0 (.slice none 0 0)) 24 (0, 0))]) mixed (by kernel_rfl) (ov_mono (eraseB_le _ _)) fun K hK => ?_
  simp only [rsl, gres]
  iterate 4 (refine seqR_hide fun R hR => ?_; simp [go_sem, wk, ws, hst6, conv_k, conv_s, d54, d45, g1, g4, g5, g78, g79, g80, hi, hii, hw1, bc hP u1, xindexAt, vload]; refine hR _ _ _ ?_; clear hR R)
  refine seqR_hide fun R hR => ?_
  simp [go_sem, wk, ws, hst6, conv_k, conv_s, d54, d45, g1, g4, g5, g78, g79, g80, hi, hii, hw1, bc hP u1, xindexAt, vload]
  refine call_sub hP (eraseB_le D (.slice vb i vc)) (ihk _ (List.getElem_mem hi) _ q all (hq2.le hAD) hntk hnk) ?_
  clear hP
  rintro _ E D3 ⟨ci, rfl, hci, hAE⟩ hED hKp hmono hP
  have hDD := hmono hAE
  have hE3 := keep_erase hO hED hKp
  have hO3 := own_rebase (hO.le hDD)
  obtain ⟨k', st', tag', val', an', h', ln', f', row', col', al', kk', hkk⟩ := (kids[i]).ex
  obtain ⟨bb, bc0, hci1, -⟩ := (hkk ▸ hci).open
  subst hci1
  refine ⟨ov_mono (View.le_trans hAE hED), hR _ _ _ ?_⟩; clear hR R
  refine seqR_hide fun R hR => ?_
  simp [go_sem, wk, ws, hst6, conv_k, conv_s, d54, d45, g1, g4, g5, g78, g79, g80, hi, hii, hw1, xindexAt, vload, trc]
  intro q89 hq89
  replace hP := hP.cons hq89
  clear hq89
  have d895 : q89 ≠ q5 := (hP.ne q5 (by simp [addrs])).1
  have d589 : q5 ≠ q89 := (hP.ne q5 (by simp [addrs])).2
  have d894 : q89 ≠ q4 := (hP.ne q4 (by simp [addrs])).1
  have d489 : q4 ≠ q89 := (hP.ne q4 (by simp [addrs])).2
  refine hR _ _ _ ?_; clear hR R
  refine seqR_hide fun R hR => ?_
  simp [go_sem, wk, ws, hst6, conv_k, conv_s, d54, d45, g1, g4, g5, g78, g79, g80, hi, hii, hw1, xindexAt, vload, trc, d895, d589, d894, d489]
  refine append_ov (m := 1) hP ti22 ti22 (fun k => by simp) ti24 rfl (by decide) hO3 (eraseB_le _ _) (appended_block (ov_at_here _ _ _ _) rfl) (by simp [isStr]) (fun v hv => List.all_eq_true.1 (show List.all _ one = true from rfl) v hv) (by omega) ?_
  clear hP
  rintro v4 D4 h4 hO4 h4e hP
  obtain ⟨xb, xcp, rfl⟩ := hO4.shape
  refine hR _ _ _ ?_; clear hR R
  (refine seqR_hide fun R hR => ?_; simp [go_sem, wk, ws, hst6, conv_k, conv_s, d54, d45, g1, g4, g5, g78, g79, g80, hi, hii, hw1, xindexAt, vload, trc, d895, d589, d894, d489]; refine hR _ _ _ ?_; clear hR R)
  refine seqR_hide fun R hR => ?_
  simp [go_sem, wk, ws, hst6, conv_k, conv_s, d54, d45, g1, g4, g5, g78, g79, g80, hi, hii, hw1, xindexAt, vload, trc, d895, d589, d894, d489]
  refine hR _ _ _ ?_; clear hR R
  rw [seqR_nil]
  refine hK _ _ _ ?_; clear hK K
  refine hN9 _ _ _ ?_
  refine xc_reg2 fun K hK => ?_
  simp only [rall, rsl, gres]
  iterate 2 (refine seqX_hide2 fun R hR => ?_; simp [go_sem, wk, ws, hst6, conv_k, conv_s, d54, d45, g1, g4, g5, g78, g79, g80, hi, hii, hw1, xindexAt, vload, trc, d895, d589, d894, d489]; refine hR _ _ _ ?_; clear hR R)
  rw [seqX_nil]
  refine hK _ _ _ ?_; clear hK K
  refine sink_goal 0 hP rfl fun hPn lq89 nq89 => ?_
  clear hP; have hP := hPn; clear hPn
  simp only [List.eraseIdx_cons_zero, List.eraseIdx_cons_succ, addrs_cons, addrs_nil] at hP ⊢
  have hE5 := View.le_trans h4e (eraseB_mono lq89 (.slice xb (i + 1) xcp))
  have hE6 := View.le_trans hAE (View.le_trans hE3 hE5)
  have hcm : IsTr E kids[i] (trc k' st' tag' val' an' h' ln' f' row' col' al' (.slice bb kk'.length bc0)) := hci
  refine hJ1 (kids.length - (i + 1)) _ _ _ (by omega) ⟨i + 1, _, .slice xb (i + 1) xcp, _, rfl, rfl, rfl, hP, by simp [go_sem, wk, ws, hst6, conv_k, conv_s, d54, d45, g1, g4, g5, g78, g79, g80, hi, hii, hw1, xindexAt, vload, trc, d895, d589, d894, d489], by simp [go_sem, wk, ws, hst6, conv_k, conv_s, d54, d45, g1, g4, g5, g78, g79, g80, hi, hii, hw1, xindexAt, vload, trc, d895, d589, d894, d489], by simp [go_sem, wk, ws, hst6, conv_k, conv_s, d54, d45, g1, g4, g5, g78, g79, g80, hi, hii, hw1, xindexAt, vload, trc, d895, d589, d894, d489], by simp [go_sem, wk, ws, hst6, conv_k, conv_s, d54, d45, g1, g4, g5, g78, g79, g80, hi, hii, hw1, xindexAt, vload, trc, d895, d589, d894, d489], by simp [go_sem, wk, ws, hst6, conv_k, conv_s, d54, d45, g1, g4, g5, g78, g79, g80, hi, hii, hw1, xindexAt, vload, trc, d895, d589, d894, d489], by simp [go_sem, wk, ws, hst6, conv_k, conv_s, d54, d45, g1, g4, g5, g78, g79, g80, hi, hii, hw1, xindexAt, vload, trc, d895, d589, d894, d489], by omega, View.le_trans hAD hE6, own_rebase (hO4.le lq89), by rw [List.take_succ_eq_append_getElem hi]; exact (hpp.le fun _ _ g => IsTr.le hE6 _ _ g).push (by rw [List.length_take, Nat.min_eq_left (by omega)]; exact hO.clen) rfl (IsTr.le (View.le_trans hE3 hE5) _ _ hcm)⟩
set_option maxRecDepth 20000 in
theorem doc49 (A : View) (q p : Nat) (hq : A q = some (.cells #[.slice none 0 0, ptr0 p, .bool false, .slice none 0 0] 111 (0, 0))) : VCalls Try.prog 62 #[ptr0 q] A fun r A' => r = ptr0 p ∧ A' = A := by
  have c1 := cell_of (i := 1) hq rfl
  refine xcalls Try.func62 rfl (by simp [Try.ntmps62]) ?_
  simp only [Try.f62]
  have hP : Priv A (addrs []) := Priv.nil A
  show xc _ _ _ _ _ _ (ov A [])
  refine xc_two fun N1 hN1 => ?_
  refine xc_reg2 fun K hK => ?_
  simp only [rall, rsl, gres]
  (refine seqX_hide2 fun R hR => ?_; simp [go_sem, bc hP c1]; refine hR _ _ _ ?_; clear hR R)
  rw [seqX_nil]
  refine hK _ _ _ ?_; clear hK K
  refine hN1 _ _ _ ?_
  refine xc_two fun N2 hN2 => ?_
  refine xc_reg2 fun K hK => ?_
  simp only [rall, rsl, gres]
  iterate 5 (refine seqX_hide2 fun R hR => ?_; simp [go_sem, bc hP c1]; refine hR _ _ _ ?_; clear hR R)
  rw [seqX_nil]
  refine hK _ _ _ ?_; clear hK K
  refine hN2 _ _ _ ?_
  simp [go_sem, bc hP c1]
  rfl
set_option maxRecDepth 20000 in
theorem treeOf28 (A : View) (t : Tr) (q : Nat) (hq : IsRn A t q) (hnt : NT t) (hnd : nds t ≤ 1000000) : VCalls Try.prog 50 #[ptr0 q] A fun r A' => ∃ c, r = .agg c ∧ IsTr A' t c ∧ A ≤ A' := by
  obtain ⟨p, hq, hy⟩ := hq
  refine xcalls Try.func50 rfl (by simp [Try.ntmps50]) ?_
  simp only [Try.f50]
  have hP : Priv A (addrs []) := Priv.nil A
  show xc _ _ _ _ _ _ (ov A [])
  refine xc_two fun N1 hN1 => ?_
  refine xc_reg2 fun K hK => ?_
  simp only [rall, rsl, gres]
  refine seqX_hide2 fun R hR => ?_
  simp [go_sem]
  intro q2 hq2
  replace hP := hP.cons hq2
  clear hq2
  refine hR _ _ _ ?_; clear hR R
  rw [seqX_nil]
  refine hK _ _ _ ?_; clear hK K
  refine hN1 _ _ _ ?_
  refine xc_two fun N2 hN2 => ?_
  refine xc_reg2 fun K hK => ?_
  simp only [rall, rsl, gres]
  (refine seqX_hide2 fun R hR => ?_; simp [go_sem]; refine hR _ _ _ ?_; clear hR R)
  refine seqX_hide2 fun R hR => ?_
  simp [go_sem]
  refine call_same hP (doc49 A q p hq) ?_
  rintro _ rfl
  refine hR _ _ _ ?_; clear hR R
  (refine seqX_hide2 fun R hR => ?_; simp [go_sem]; refine hR _ _ _ ?_; clear hR R)
  rw [seqX_nil]
  refine hK _ _ _ ?_; clear hK K
  refine hN2 _ _ _ ?_
  refine xc_two fun N3 hN3 => ?_
  refine xc_reg2 fun K hK => ?_
  simp only [rall, rsl, gres]
  iterate 2 (refine seqX_hide2 fun R hR => ?_; simp [go_sem]; refine hR _ _ _ ?_; clear hR R)
  refine seqX_hide2 fun R hR => ?_
  simp [go_sem]
  refine call_ov hP (listed46 t A A p (.slice none 0 0) 0 [] hy (View.le_refl _) (Own.nil _ _ _ _) (by omega)) ?_
  clear hP
  rintro r A2 ⟨n2, cs2, hO2, hA2, -⟩ hP
  have hA2 := View.le_trans hA2 (eraseB_le A2 r)
  refine hR _ _ _ ?_; clear hR R
  refine seqX_hide2 fun R hR => ?_
  simp [go_sem]
  refine call_ov hP (node50 t A2 p r (hy.le hA2) hnt hnd) ?_
  clear hP
  rintro _ A3 ⟨c, rfl, hc, hA3⟩ hP
  have hcz := hc.size
  have hco := hc.ones
  refine hR _ _ _ ?_; clear hR R
  refine seqX_hide2 fun R hR => ?_
  simp [go_sem, hcz, hco]
  refine hR _ _ _ ?_; clear hR R
  rw [seqX_nil]
  refine hK _ _ _ ?_; clear hK K
  refine hN3 _ _ _ ?_
  simp [go_sem, hcz, hco]
  refine ⟨hc.le ?_, View.le_trans hA2 (View.le_trans hA3 ?_)⟩
  · exact le_ov hP
  · exact le_ov hP
end Go.Proofs.YtpinamipjddobaaV

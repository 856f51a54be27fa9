/- Trees: spec.Field. -/
import Derived.Test.YtpinamipjddobaaKL
namespace Go.Proofs.YtpinamipjddobaaV
open Go.RowKit
set_option linter.unusedSimpArgs false
set_option linter.unusedVariables false
/-- The value behind a key in the first of some mappings that has it. -/
def ffl (ts : List Tr) (nm : ByteArray) : List Tr := match ts.findSome? (fun t => fldOf t nm) with
  | none => []
  | some x => [x]
theorem ffl_one (t : Tr) (nm : ByteArray) : ffl [t] nm = match fldOf t nm with | none => [] | some x => [x] := by
  rw [ffl, List.findSome?_cons]
  cases fldOf t nm <;> rfl
theorem find_drop {ts : List Tr} {i : Nat} (h : i < ts.length) (nm : ByteArray) : (ts.drop i).findSome? (fun t => fldOf t nm) = match fldOf ts[i] nm with | some x => some x | none => (ts.drop (i + 1)).findSome? (fun t => fldOf t nm) := by
  rw [List.drop_eq_getElem_cons h, List.findSome?_cons]
  cases fldOf ts[i] nm <;> rfl
theorem fld_short {l : List Tr} {i : Nat} (h : ¬ i + 1 < l.length) (s : ByteArray) : fld (l.drop i) s = none := by
  by_cases h1 : l.length ≤ i
  · exact fld_end h1 s
  · rw [List.drop_eq_getElem_cons (by omega), List.drop_eq_nil_of_le (by omega), fld]
    simp
set_option maxRecDepth 20000 in
set_option maxHeartbeats 2000000 in
theorem field10 (A : View) (ts : List Tr) (v : Value) (nm : ByteArray) (hv : Trs A v ts) (hb : ts.length ≤ 1125899906842624) (hbk : ∀ t ∈ ts, t.kids.length ≤ 1125899906842624) : VCalls Try.prog 31 #[v, .string nm] A fun r A' => Trs A' r (ffl ts nm) ∧ A ≤ A' := by
  obtain ⟨vb, vc, rfl⟩ := hv.slice
  refine xcalls Try.func31 rfl (by simp [Try.ntmps31]) ?_
  simp only [Try.f31]
  have hP : Priv A (addrs []) := Priv.nil A
  show xc _ _ _ _ _ _ (ov A [])
  refine xc_two fun N1 hN1 => ?_
  refine xc_reg2 fun K hK => ?_
  simp only [rall, rsl, gres]
  (refine seqX_hide2 fun R hR => ?_; simp [go_sem]; refine hR _ _ _ ?_; clear hR R)
  rw [seqX_nil]
  refine hK _ _ _ ?_; clear hK K
  refine hN1 _ _ _ ?_
  refine xc_two fun N2 hN2 => ?_
  refine xc_two fun N3 hN3 => ?_
  refine xc_reg2 fun K hK => ?_
  simp only [rall, rsl, gres]
  iterate 3 (refine seqX_hide2 fun R hR => ?_; simp [go_sem]; refine hR _ _ _ ?_; clear hR R)
  rw [seqX_nil]
  refine hK _ _ _ ?_; clear hK K
  refine hN3 _ _ _ ?_
  rw [xc_block]
  rw [xc_loop]
  refine vloopK (fun k' e ds A' => ∃ (i : Nat) (D : View), k' = ts.length - i ∧ ds = [] ∧ A' = ov D [] ∧ Priv D [] ∧ e 1 = .string nm ∧ e 8 = .slice vb ts.length vc ∧ e 9 = .int .i64 ts.length ∧ e 10 = .int .i64 i ∧ (i ≤ ts.length) ∧ (A ≤ D) ∧ (ts.findSome? (fun t => fldOf t nm) = (ts.drop i).findSome? (fun t => fldOf t nm))) _ ⟨0, A, rfl, rfl, rfl, hP, by simp [go_sem], by simp [go_sem], by simp [go_sem], by simp [go_sem], by omega, View.le_refl _, rfl⟩ ?_
  clear hP
  rintro k' e ds A' ⟨i, D, rfl, rfl, hV, hP, g1, g8, g9, g10, hil, hAD, hfs⟩ J1 X1 hJ1 hX1
  refine xc_sound _ ?_
  replace hV := Eq.symm hV; subst hV; replace hP : Priv D (addrs []) := hP
  have hw1 : IntKind.i64.wrap ((i : Int) + 1) = ((i + 1 : Nat) : Int) := by rw [wrap_in (by omega) (by omega)]; omega
  by_cases hi : i < ts.length
  rotate_left
  · rw [List.drop_eq_nil_of_le (by omega), List.findSome?_nil] at hfs
    refine xc_two fun N4 hN4 => ?_
    refine xc_reg2 fun K hK => ?_
    simp only [rall, rsl, gres]
    (refine seqX_hide2 fun R hR => ?_; simp [go_sem, g1, g8, g9, g10, hi]; refine hR _ _ _ ?_; clear hR R)
    rw [seqX_nil]
    refine hK _ _ _ ?_; clear hK K
    refine hN4 _ _ _ ?_
    refine xc_two fun N5 hN5 => ?_
    refine xc_iffalse (by simp [go_sem, g1, g8, g9, g10, hi]) ?_
    refine hX1 _ _ _ _ ?_
    refine hN2 _ _ _ ?_
    refine xc_two fun N6 hN6 => ?_
    refine xc_reg2 fun K hK => ?_
    simp only [rall, rsl, gres]
    (refine seqX_hide2 fun R hR => ?_; simp [go_sem, g1, g8, g9, g10, hi]; refine hR _ _ _ ?_; clear hR R)
    rw [seqX_nil]
    refine hK _ _ _ ?_; clear hK K
    refine hN6 _ _ _ ?_
    simp [go_sem, g1, g8, g9, g10, hi]
    refine ⟨?_, hAD⟩
    rw [ffl, hfs]
    exact Elems.nil _ _ _
  obtain ⟨bs', cap', f1, hel⟩ := hv
  simp only [Value.slice.injEq, true_and] at f1
  obtain ⟨rfl, rfl⟩ := f1
  obtain ⟨a1, ci, rfl, u1, hci0⟩ := hel i hi
  have hii : (i : Int) < ts.length := by omega
  have u1 := le_cells hAD _ _ _ u1
  have hci := hci0.le hAD
  have hkl := hbk _ (List.getElem_mem hi)
  obtain ⟨k, st, tag, val, an, h, ln, f, row, col, al, kk, hkk⟩ := (ts[i]).ex
  have hfd := find_drop hi nm
  rw [← hfs, hkk] at hfd
  rw [hkk] at hci hkl
  replace hkl : kk.length ≤ 1125899906842624 := hkl
  obtain ⟨bb, bc0, rfl, hT⟩ := hci.open
  refine xc_two fun N4 hN4 => ?_
  refine xc_reg2 fun K hK => ?_
  simp only [rall, rsl, gres]
  (refine seqX_hide2 fun R hR => ?_; simp [go_sem, g1, g8, g9, g10, hi, hii, hw1, bcs hP u1]; refine hR _ _ _ ?_; clear hR R)
  rw [seqX_nil]
  refine hK _ _ _ ?_; clear hK K
  refine hN4 _ _ _ ?_
  refine xc_two fun N5 hN5 => ?_
  refine xc_iftrue (by simp [go_sem, g1, g8, g9, g10, hi, hii, hw1, bcs hP u1]) ?_
  refine hN5 _ _ _ ?_
  refine xc_two fun N6 hN6 => ?_
  rw [xc_block]
  refine xc_two fun N7 hN7 => ?_
  refine xc_reg2 fun K hK => ?_
  simp only [rall, rsl, gres]
  iterate 2 (refine seqX_hide2 fun R hR => ?_; simp [go_sem, g1, g8, g9, g10, hi, hii, hw1, bcs hP u1]; refine hR _ _ _ ?_; clear hR R)
  refine seqX_hide2 fun R hR => ?_
  simp [go_sem, g1, g8, g9, g10, hi, hii, hw1, bcs hP u1]
  intro q6 hq6
  replace hP := hP.cons hq6
  clear hq6
  refine hR _ _ _ ?_; clear hR R
  refine seqX_hide2 fun R hR => ?_
  simp [go_sem, g1, g8, g9, g10, hi, hii, hw1, bcs hP u1]
  refine hR _ _ _ ?_; clear hR R
  rw [seqX_nil]
  refine hK _ _ _ ?_; clear hK K
  refine hN7 _ _ _ ?_
  refine xc_two fun N8 hN8 => ?_
  refine xc_reg2 fun K hK => ?_
  simp only [rall, rsl, gres]
  (refine seqX_hide2 fun R hR => ?_; simp [go_sem, g1, g8, g9, g10, hi, hii, hw1, bcs hP u1]; refine hR _ _ _ ?_; clear hR R)
  rw [seqX_nil]
  refine hK _ _ _ ?_; clear hK K
  refine hN8 _ _ _ ?_
  rw [xc_block]
  rw [xc_loop]
  refine vloopK (fun k' e ds A' => ∃ (j : Nat), k' = kk.length - j ∧ ds = [] ∧ A' = ov D [(q6, .cells (trc k st tag val an h ln f row col al (.slice bb kk.length bc0)) 24 (0, 0))] ∧ Priv D [q6] ∧ e 1 = .string nm ∧ e 8 = .slice (some a1) ts.length vc ∧ e 9 = .int .i64 ts.length ∧ e 10 = .int .i64 i ∧ e 6 = .pointer (some ⟨q6, 0, none⟩) ∧ e 7 = .int .i64 j ∧ (j ≤ kk.length + 1) ∧ (k = 4 → fld kk nm = fld (kk.drop j) nm)) _ ⟨0, rfl, rfl, rfl, hP, by simp [go_sem, g1, g8, g9, g10, hi, hii, hw1], by simp [go_sem, g1, g8, g9, g10, hi, hii, hw1], by simp [go_sem, g1, g8, g9, g10, hi, hii, hw1], by simp [go_sem, g1, g8, g9, g10, hi, hii, hw1], by simp [go_sem, g1, g8, g9, g10, hi, hii, hw1], by simp [go_sem, g1, g8, g9, g10, hi, hii, hw1], by omega, fun _ => rfl⟩ ?_
  clear g1 g8 g9 g10
  clear hP
  rintro k' e ds _ ⟨j, rfl, rfl, rfl, hP, g1, g8, g9, g10, g6, g7, hjl, hfj⟩ J2 X2 hJ2 hX2
  refine xc_sound _ ?_
  have hv1 : IntKind.i64.wrap ((j : Int) + 1) = ((j + 1 : Nat) : Int) := by rw [wrap_in (by omega) (by omega)]; omega
  have hv2 : IntKind.i64.wrap ((j : Int) + 2) = ((j + 2 : Nat) : Int) := by rw [wrap_in (by omega) (by omega)]; omega
  have out : fldOf (.mk k st tag val an h ln f row col al kk) nm = none → ts.findSome? (fun t => fldOf t nm) = (ts.drop (i + 1)).findSome? (fun t => fldOf t nm) := fun hn => by rw [hfd, hn]
  by_cases hk : k = 4
  rotate_left
  · have hn : fldOf (.mk k st tag val an h ln f row col al kk) nm = none := if_neg hk
    have hkb : (k == 4) = false := beq_eq_false_iff_ne.2 hk
    refine xc_two fun N9 hN9 => ?_
    refine xc_two fun N10 hN10 => ?_
    refine xc_reg2 fun K hK => ?_
    simp only [rall, rsl, gres]
    iterate 11 (refine seqX_hide2 fun R hR => ?_; simp [go_sem, hi, hii, hw1, g1, g8, g9, g10, g6, g7, hv1, hv2, hk, hkb]; refine hR _ _ _ ?_; clear hR R)
    rw [seqX_nil]
    refine hK _ _ _ ?_; clear hK K
    refine hN10 _ _ _ ?_
    refine xc_iffalse (by simp [go_sem, hi, hii, hw1, g1, g8, g9, g10, g6, g7, hv1, hv2, hk, hkb]) ?_
    refine hX2 _ _ _ _ ?_
    refine hN6 _ _ _ ?_
    refine xc_reg2 fun K hK => ?_
    simp only [rall, rsl, gres]
    iterate 2 (refine seqX_hide2 fun R hR => ?_; simp [go_sem, hi, hii, hw1, g1, g8, g9, g10, g6, g7, hv1, hv2, hk, hkb]; refine hR _ _ _ ?_; clear hR R)
    rw [seqX_nil]
    refine hK _ _ _ ?_; clear hK K
    refine sink_goal 0 hP rfl fun hPn lq6 nq6 => ?_
    clear hP; have hP := hPn; clear hPn
    simp only [List.eraseIdx_cons_zero, List.eraseIdx_cons_succ, addrs_cons, addrs_nil] at hP ⊢
    refine hJ1 (ts.length - (i + 1)) _ _ _ (by omega) ⟨i + 1, _, rfl, rfl, rfl, hP, by simp [go_sem, hi, hii, hw1, g1, g8, g9, g10, g6, g7, hv1, hv2, hk, hkb], by simp [go_sem, hi, hii, hw1, g1, g8, g9, g10, g6, g7, hv1, hv2, hk, hkb], by simp [go_sem, hi, hii, hw1, g1, g8, g9, g10, g6, g7, hv1, hv2, hk, hkb], by simp [go_sem, hi, hii, hw1, g1, g8, g9, g10, g6, g7, hv1, hv2, hk, hkb], by omega, View.le_trans hAD lq6, out hn⟩
  subst hk
  have hfo : fldOf (.mk 4 st tag val an h ln f row col al kk) nm = fld kk nm := if_pos rfl
  by_cases hj : j + 1 < kk.length
  rotate_left
  · have hn : fldOf (.mk 4 st tag val an h ln f row col al kk) nm = none := by rw [hfo, hfj rfl, fld_short hj]
    have hji : ¬ ((j : Int) + 1 < kk.length) := by omega
    have hji2 : ¬ (((j + 1 : Nat) : Int) < kk.length) := by omega
    refine xc_two fun N9 hN9 => ?_
    refine xc_two fun N10 hN10 => ?_
    refine xc_reg2 fun K hK => ?_
    simp only [rall, rsl, gres]
    iterate 11 (refine seqX_hide2 fun R hR => ?_; simp [go_sem, hi, hii, hw1, g1, g8, g9, g10, g6, g7, hv1, hv2, hj, hji, hji2]; refine hR _ _ _ ?_; clear hR R)
    rw [seqX_nil]
    refine hK _ _ _ ?_; clear hK K
    refine hN10 _ _ _ ?_
    refine xc_iffalse (by simp [go_sem, hi, hii, hw1, g1, g8, g9, g10, g6, g7, hv1, hv2, hj, hji, hji2]) ?_
    refine hX2 _ _ _ _ ?_
    refine hN6 _ _ _ ?_
    refine xc_reg2 fun K hK => ?_
    simp only [rall, rsl, gres]
    iterate 2 (refine seqX_hide2 fun R hR => ?_; simp [go_sem, hi, hii, hw1, g1, g8, g9, g10, g6, g7, hv1, hv2, hj, hji, hji2]; refine hR _ _ _ ?_; clear hR R)
    rw [seqX_nil]
    refine hK _ _ _ ?_; clear hK K
    refine sink_goal 0 hP rfl fun hPn lq6 nq6 => ?_
    clear hP; have hP := hPn; clear hPn
    simp only [List.eraseIdx_cons_zero, List.eraseIdx_cons_succ, addrs_cons, addrs_nil] at hP ⊢
    refine hJ1 (ts.length - (i + 1)) _ _ _ (by omega) ⟨i + 1, _, rfl, rfl, rfl, hP, by simp [go_sem, hi, hii, hw1, g1, g8, g9, g10, g6, g7, hv1, hv2, hj, hji, hji2], by simp [go_sem, hi, hii, hw1, g1, g8, g9, g10, g6, g7, hv1, hv2, hj, hji, hji2], by simp [go_sem, hi, hii, hw1, g1, g8, g9, g10, g6, g7, hv1, hv2, hj, hji, hji2], by simp [go_sem, hi, hii, hw1, g1, g8, g9, g10, g6, g7, hv1, hv2, hj, hji, hji2], by omega, View.le_trans hAD lq6, out hn⟩
  have hji : ((j : Int) + 1 < kk.length) := by omega
  have hji2 : (((j + 1 : Nat) : Int) < kk.length) := by omega
  have hj0 : j < kk.length := by omega
  have hj0i : (j : Int) < kk.length := by omega
  have hj1 : (0 : Int) ≤ (j : Int) + 1 := by omega
  have hfs2 := fld_step hj nm
  rw [← hfj rfl] at hfs2
  obtain ⟨bs', cap', f1, hel2⟩ := hT
  simp only [Value.slice.injEq, true_and] at f1
  obtain ⟨rfl, rfl⟩ := f1
  obtain ⟨a2, c2, rfl, w2, hc2⟩ := hel2 j hj0
  obtain ⟨_, c3, ea, w3, hc3⟩ := hel2 (j + 1) hj
  simp only [Option.some.injEq] at ea
  subst ea
  obtain ⟨-, -, z3⟩ := hc2.at2
  have vj := cell_in w2 (by decide) (by decide) z3
  have hz3 := hc3.size
  have ho3 := hc3.ones
  by_cases hv : nm = (kk[j]).value
  · have hv' : kk[j].value.toList = nm.toList := by rw [hv]
    rw [if_pos hv] at hfs2
    refine xc_two fun N9 hN9 => ?_
    refine xc_two fun N10 hN10 => ?_
    refine xc_reg2 fun K hK => ?_
    simp only [rall, rsl, gres]
    iterate 11 (refine seqX_hide2 fun R hR => ?_; simp [go_sem, hi, hii, hw1, g1, g8, g9, g10, g6, g7, hv1, hv2, hj, hji, hji2, hj0, hj0i, hj1, bc hP vj, hv', hz3, ho3, bcs hP w3]; refine hR _ _ _ ?_; clear hR R)
    rw [seqX_nil]
    refine hK _ _ _ ?_; clear hK K
    refine hN10 _ _ _ ?_
    refine xc_iftrue (by simp [go_sem, hi, hii, hw1, g1, g8, g9, g10, g6, g7, hv1, hv2, hj, hji, hji2, hj0, hj0i, hj1, bc hP vj, hv', hz3, ho3, bcs hP w3]) ?_
    refine hN9 _ _ _ ?_
    refine xc_two fun N11 hN11 => ?_
    rw [xc_block]
    refine xc_two fun N12 hN12 => ?_
    refine xc_reg2 fun K hK => ?_
    simp only [rall, rsl, gres]
    iterate 8 (refine seqX_hide2 fun R hR => ?_; simp [go_sem, hi, hii, hw1, g1, g8, g9, g10, g6, g7, hv1, hv2, hj, hji, hji2, hj0, hj0i, hj1, bc hP vj, hv', hz3, ho3, bcs hP w3]; refine hR _ _ _ ?_; clear hR R)
    rw [seqX_nil]
    refine hK _ _ _ ?_; clear hK K
    refine hN12 _ _ _ ?_
    refine xc_iftrue (by simp [go_sem, hi, hii, hw1, g1, g8, g9, g10, g6, g7, hv1, hv2, hj, hji, hji2, hj0, hj0i, hj1, bc hP vj, hv', hz3, ho3, bcs hP w3]) ?_
    refine xc_two fun N13 hN13 => ?_
    refine xc_reg2 fun K hK => ?_
    simp only [rall, rsl, gres]
    iterate 6 (refine seqX_hide2 fun R hR => ?_; simp [go_sem, hi, hii, hw1, g1, g8, g9, g10, g6, g7, hv1, hv2, hj, hji, hji2, hj0, hj0i, hj1, bc hP vj, hv', hz3, ho3, bcs hP w3]; refine hR _ _ _ ?_; clear hR R)
    refine seqX_hide2 fun R hR => ?_
    simp [go_sem, hi, hii, hw1, g1, g8, g9, g10, g6, g7, hv1, hv2, hj, hji, hji2, hj0, hj0i, hj1, bc hP vj, hv', hz3, ho3, bcs hP w3]
    intro q41 hq41
    replace hP := hP.cons hq41
    clear hq41
    have d416 : q41 ≠ q6 := (hP.ne q6 (by simp [addrs])).1
    have d641 : q6 ≠ q41 := (hP.ne q6 (by simp [addrs])).2
    refine hR _ _ _ ?_; clear hR R
    (refine seqX_hide2 fun R hR => ?_; simp [go_sem, hi, hii, hw1, g1, g8, g9, g10, g6, g7, hv1, hv2, hj, hji, hji2, hj0, hj0i, hj1, bc hP vj, hv', hz3, ho3, bcs hP w3, d416, d641]; refine hR _ _ _ ?_; clear hR R)
    rw [seqX_nil]
    refine hK _ _ _ ?_; clear hK K
    refine hN13 _ _ _ ?_
    refine hX2 _ _ _ _ ?_
    refine hX1 _ _ _ _ ?_
    refine sink_goal 0 hP rfl fun hPn lq41 nq41 => ?_
    clear hP; have hP := hPn; clear hPn
    simp only [List.eraseIdx_cons_zero, List.eraseIdx_cons_succ, addrs_cons, addrs_nil] at hP ⊢
    simp [go_sem, hi, hii, hw1, g1, g8, g9, g10, g6, g7, hv1, hv2, hj, hji, hji2, hj0, hj0i, hj1, hv', hz3, ho3, d416, d641]
    refine ⟨?_, View.le_trans hAD (View.le_trans lq41 ?_)⟩
    · rw [ffl, hfd, hfo, hfs2]
      refine Trs.le ?_ (Trs.one (set_at _ _ _) (IsTr.le lq41 _ _ hc3))
      exact le_ov hP
    · exact le_ov hP
  have hv' : ¬ kk[j].value.toList = nm.toList := fun e => bytes_ne hv e.symm
  rw [if_neg hv] at hfs2
  refine xc_two fun N9 hN9 => ?_
  refine xc_two fun N10 hN10 => ?_
  refine xc_reg2 fun K hK => ?_
  simp only [rall, rsl, gres]
  iterate 11 (refine seqX_hide2 fun R hR => ?_; simp [go_sem, hi, hii, hw1, g1, g8, g9, g10, g6, g7, hv1, hv2, hj, hji, hji2, hj0, hj0i, hj1, bc hP vj, hv']; refine hR _ _ _ ?_; clear hR R)
  rw [seqX_nil]
  refine hK _ _ _ ?_; clear hK K
  refine hN10 _ _ _ ?_
  refine xc_iftrue (by simp [go_sem, hi, hii, hw1, g1, g8, g9, g10, g6, g7, hv1, hv2, hj, hji, hji2, hj0, hj0i, hj1, bc hP vj, hv']) ?_
  refine hN9 _ _ _ ?_
  refine xc_two fun N11 hN11 => ?_
  rw [xc_block]
  refine xc_two fun N12 hN12 => ?_
  refine xc_reg2 fun K hK => ?_
  simp only [rall, rsl, gres]
  iterate 8 (refine seqX_hide2 fun R hR => ?_; simp [go_sem, hi, hii, hw1, g1, g8, g9, g10, g6, g7, hv1, hv2, hj, hji, hji2, hj0, hj0i, hj1, bc hP vj, hv']; refine hR _ _ _ ?_; clear hR R)
  rw [seqX_nil]
  refine hK _ _ _ ?_; clear hK K
  refine hN12 _ _ _ ?_
  refine xc_iffalse (by simp [go_sem, hi, hii, hw1, g1, g8, g9, g10, g6, g7, hv1, hv2, hj, hji, hji2, hj0, hj0i, hj1, bc hP vj, hv']) ?_
  refine hN11 _ _ _ ?_
  refine xc_reg2 fun K hK => ?_
  simp only [rall, rsl, gres]
  iterate 3 (refine seqX_hide2 fun R hR => ?_; simp [go_sem, hi, hii, hw1, g1, g8, g9, g10, g6, g7, hv1, hv2, hj, hji, hji2, hj0, hj0i, hj1, bc hP vj, hv']; refine hR _ _ _ ?_; clear hR R)
  rw [seqX_nil]
  refine hK _ _ _ ?_; clear hK K
  refine hJ2 (kk.length - (j + 2)) _ _ _ (by omega) ⟨j + 2, rfl, rfl, rfl, hP, by simp [go_sem, hi, hii, hw1, g1, g8, g9, g10, g6, g7, hv1, hv2, hj, hji, hji2, hj0, hj0i, hj1, bc hP vj, hv'], by simp [go_sem, hi, hii, hw1, g1, g8, g9, g10, g6, g7, hv1, hv2, hj, hji, hji2, hj0, hj0i, hj1, bc hP vj, hv'], by simp [go_sem, hi, hii, hw1, g1, g8, g9, g10, g6, g7, hv1, hv2, hj, hji, hji2, hj0, hj0i, hj1, bc hP vj, hv'], by simp [go_sem, hi, hii, hw1, g1, g8, g9, g10, g6, g7, hv1, hv2, hj, hji, hji2, hj0, hj0i, hj1, bc hP vj, hv'], by simp [go_sem, hi, hii, hw1, g1, g8, g9, g10, g6, g7, hv1, hv2, hj, hji, hji2, hj0, hj0i, hj1, bc hP vj, hv'], by simp [go_sem, hi, hii, hw1, g1, g8, g9, g10, g6, g7, hv1, hv2, hj, hji, hji2, hj0, hj0i, hj1, bc hP vj, hv'], by omega, fun _ => hfs2⟩
end Go.Proofs.YtpinamipjddobaaV

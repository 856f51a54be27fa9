/- Trees: impl.listed, aliased, build; NewRNode. -/
import Derived.Test.YtpinamipjddobaaKF
namespace Go.Proofs.YtpinamipjddobaaV
open Go.RowKit
set_option linter.unusedSimpArgs false
set_option linter.unusedVariables false
theorem IsYn.open {A : View} {k st : Int} {tag val an h l f : ByteArray} {row col al : Int} {kids : List Tr} {p : Nat} (e : IsYn A (.mk k st tag val an h l f row col al kids) p) :
    ∃ (cv : Value) (ps : List Nat), A p = some (.cells (ync k st tag val an cv h l f row col) 114 (0, 0)) ∧ Row A 1 cv kids.length (ps.map ptr0) ∧ ps.length = kids.length ∧ ∀ j (hj : j < kids.length), ∃ q, ps[j]? = some q ∧ IsYn A (kids[j]) q := by
  rw [IsYn] at e
  exact e
theorem Row.form {A : View} {v : Value} {n : Nat} {cs : List Value} (r : Row A 1 v n cs) : ∃ bs cap, v = .slice bs n cap := by
  rcases r with ⟨a, cap, rfl, -⟩ | ⟨rfl, hn, -⟩
  · exact ⟨some a, cap, rfl⟩
  · exact ⟨none, 0, by rw [hn]⟩
set_option maxRecDepth 20000 in
set_option maxHeartbeats 16000000 in
theorem listed46 (t : Tr) : ∀ (B A : View) (p : Nat) (lv : Value) (n : Nat) (cs : List Value), IsYn B t p → B ≤ eraseB A lv → Own (eraseB A lv) A 90 1 lv n cs → n + nds t ≤ 2000000 →
    VCalls Try.prog 77 #[ptr0 p, lv] A fun r D' => ∃ n' cs', Own (eraseB D' r) D' 90 1 r n' cs' ∧ eraseB A lv ≤ eraseB D' r ∧ n' = n + nds t := by
  induction hsz : SizeOf.sizeOf t using Nat.strongRecOn generalizing t with
  | _ N0 ih =>
  intro B A p lv n cs hy hBA hO hn
  subst hsz
  obtain ⟨k, st, tag, val, an, h, l, f, row, col, al, kids⟩ := t
  have ihk : ∀ x ∈ kids, ∀ (B A : View) (p : Nat) (lv : Value) (n : Nat) (cs : List Value), IsYn B x p → B ≤ eraseB A lv → Own (eraseB A lv) A 90 1 lv n cs → n + nds x ≤ 2000000 →
    VCalls Try.prog 77 #[ptr0 p, lv] A fun r D' => ∃ n' cs', Own (eraseB D' r) D' 90 1 r n' cs' ∧ eraseB A lv ≤ eraseB D' r ∧ n' = n + nds x := fun x hx => ih _ (by
      have := List.sizeOf_lt_of_mem hx
      simp
      omega) x rfl
  clear ih
  rw [nds_mk] at hn ⊢
  have hkl := nds_len kids
  obtain ⟨cv, ps, hA, hrow, hpl, hyk⟩ := hy.open
  obtain ⟨cb, cc, rfl⟩ := hrow.form
  obtain ⟨lb, lc, rfl⟩ := hO.shape
  refine xcalls Try.func77 rfl (by simp [Try.ntmps77]) ?_
  simp only [Try.f77]
  have hP : Priv A (addrs []) := Priv.nil A
  show xc _ _ _ _ _ _ (ov A [])
  refine xc_two fun N1 hN1 => ?_
  refine xc_reg2 fun K hK => ?_
  simp only [rall, rsl, gres]
  (refine seqX_hide2 fun R hR => ?_; simp [go_sem]; refine hR _ _ _ ?_; clear hR R)
  rw [seqX_nil]
  refine hK _ _ _ ?_; clear hK K
  refine hN1 _ _ _ ?_
  refine xc_two fun N2 hN2 => ?_
  refine xc_reg2 fun K hK => ?_
  simp only [rall, rsl, gres]
  iterate 2 (refine seqX_hide2 fun R hR => ?_; simp [go_sem]; refine hR _ _ _ ?_; clear hR R)
  refine seqX_hide2 fun R hR => ?_
  simp [go_sem]
  intro q9 hq9
  replace hP := hP.cons hq9
  clear hq9
  refine hR _ _ _ ?_; clear hR R
  refine seqX_hide2 fun R hR => ?_
  simp [go_sem]
  refine append_ov (cs := [ptr0 p]) (m := 1) hP ti100 ti100 (fun k => by simp) ti90 rfl (by decide) hO (eraseB_le _ _) (by simp [appended, View.cells?, go_sem]) (by simp [isStr]) (fun v hv => by rw [List.mem_singleton] at hv; subst hv; rfl) (by omega) ?_
  clear hP
  rintro v1 D1 h1 hO1 h1e hP
  obtain ⟨wb, wc, rfl⟩ := hO1.shape
  have hp1 := h1 _ _ (hBA _ _ hA)
  have c6 := cell_of (i := 6) hp1 rfl
  refine hR _ _ _ ?_; clear hR R
  (refine seqX_hide2 fun R hR => ?_; simp [go_sem, bc hP c6]; refine hR _ _ _ ?_; clear hR R)
  rw [seqX_nil]
  refine hK _ _ _ ?_; clear hK K
  refine hN2 _ _ _ ?_
  refine xc_two fun N3 hN3 => ?_
  refine xc_two fun N4 hN4 => ?_
  refine xc_reg2 fun K hK => ?_
  simp only [rall, rsl, gres]
  iterate 6 (refine seqX_hide2 fun R hR => ?_; simp [go_sem, bc hP c6]; refine hR _ _ _ ?_; clear hR R)
  rw [seqX_nil]
  refine hK _ _ _ ?_; clear hK K
  refine hN4 _ _ _ ?_
  rw [xc_block]
  refine sink_goal 0 hP rfl fun hPn lq9 nq9 => ?_
  clear hP; have hP := hPn; clear hPn
  simp only [List.eraseIdx_cons_zero, List.eraseIdx_cons_succ, addrs_cons, addrs_nil] at hP ⊢
  rw [xc_loop]
  refine vloopK (fun k' e ds A' => ∃ (i : Nat) (D : View) (u : Value) (m : Nat) (us : List Value), k' = kids.length - i ∧ ds = [] ∧ A' = ov D [] ∧ Priv D [] ∧ e 1 = u ∧ e 14 = .slice cb kids.length cc ∧ e 15 = .int .i64 kids.length ∧ e 16 = .int .i64 i ∧ (i ≤ kids.length) ∧ (eraseB A (.slice lb n lc) ≤ eraseB D u) ∧ (Own (eraseB D u) D 90 1 u m us) ∧ (m = n + 1 + ((kids.take i).map nds).sum)) _ ⟨0, D1.set q9 (.cells #[ptr0 p] 90 (0, 0)), .slice wb (n + 1) wc, n + 1, cs ++ [ptr0 p], rfl, rfl, rfl, hP, by simp [go_sem], by simp [go_sem], by simp [go_sem], by simp [go_sem], by omega, View.le_trans h1e (eraseB_mono lq9 _), own_rebase (hO1.le lq9), by simp⟩ ?_
  clear hP
  rintro k' e ds A' ⟨i, D, u, m, us, rfl, rfl, hV, hP, g1, g14, g15, g16, hil, hE, hOu, hm⟩ J1 X1 hJ1 hX1
  refine xc_sound _ ?_
  replace hV := Eq.symm hV; subst hV; replace hP : Priv D (addrs []) := hP
  have hw1 : IntKind.i64.wrap ((i : Int) + 1) = ((i + 1 : Nat) : Int) := by rw [wrap_in (by omega) (by omega)]; omega
  by_cases hi : i < kids.length
  rotate_left
  · rw [List.take_of_length_le (by omega)] at hm
    refine xc_two fun N5 hN5 => ?_
    refine xc_reg2 fun K hK => ?_
    simp only [rall, rsl, gres]
    (refine seqX_hide2 fun R hR => ?_; simp [go_sem, g1, g14, g15, g16, hi]; refine hR _ _ _ ?_; clear hR R)
    rw [seqX_nil]
    refine hK _ _ _ ?_; clear hK K
    refine hN5 _ _ _ ?_
    refine xc_two fun N6 hN6 => ?_
    refine xc_iffalse (by simp [go_sem, g1, g14, g15, g16, hi]) ?_
    refine hX1 _ _ _ _ ?_
    refine hN3 _ _ _ ?_
    refine xc_two fun N7 hN7 => ?_
    refine xc_reg2 fun K hK => ?_
    simp only [rall, rsl, gres]
    iterate 2 (refine seqX_hide2 fun R hR => ?_; simp [go_sem, g1, g14, g15, g16, hi]; refine hR _ _ _ ?_; clear hR R)
    rw [seqX_nil]
    refine hK _ _ _ ?_; clear hK K
    refine hN7 _ _ _ ?_
    simp [go_sem, g1, g14, g15, g16, hi]
    obtain rfl : m = n + (1 + (kids.map nds).sum) := by omega
    exact ⟨⟨us, hOu⟩, hE⟩
  obtain ⟨q, hq1, hq2⟩ := hyk i hi
  have hx := List.getElem_mem hi
  have htk : kids.take (i + 1) = kids.take i ++ [kids[i]] := List.take_succ_eq_append_getElem hi
  have hsm : ((kids.take (i + 1)).map nds).sum ≤ (kids.map nds).sum := by
    conv => rhs; rw [← List.take_append_drop (i + 1) kids]
    rw [List.map_append, List.sum_append]
    omega
  have hsm2 : ((kids.take (i + 1)).map nds).sum = ((kids.take i).map nds).sum + nds kids[i] := by
    rw [htk, List.map_append, List.sum_append]
    simp
  obtain ⟨a, cap', f1, -, u1⟩ := Row.at1 (i := i) (u := ptr0 q) hrow (by rw [List.getElem?_map, hq1]; rfl)
  simp only [Value.slice.injEq] at f1
  obtain ⟨rfl, -, rfl⟩ := f1
  have hBD := View.le_trans hBA hE
  have u1 := le_cell (View.le_trans hBD (eraseB_le D u)) u1
  have hii : (i : Int) < kids.length := by omega
  refine xc_two fun N5 hN5 => ?_
  refine xc_reg2 fun K hK => ?_
  simp only [rall, rsl, gres]
  (refine seqX_hide2 fun R hR => ?_; simp [go_sem, g1, g14, g15, g16, hi, hii, hw1, bc hP u1, xindexAt, vload]; refine hR _ _ _ ?_; clear hR R)
  rw [seqX_nil]
  refine hK _ _ _ ?_; clear hK K
  refine hN5 _ _ _ ?_
  refine xc_two fun N6 hN6 => ?_
  refine xc_iftrue (by simp [go_sem, g1, g14, g15, g16, hi, hii, hw1, bc hP u1, xindexAt, vload]) ?_
  refine hN6 _ _ _ ?_
  refine xc_two fun N7 hN7 => ?_
  rw [xc_block]
  refine xc_two fun N8 hN8 => ?_
  refine xc_reg2 fun K hK => ?_
  simp only [rall, rsl, gres]
  iterate 3 (refine seqX_hide2 fun R hR => ?_; simp [go_sem, g1, g14, g15, g16, hi, hii, hw1, bc hP u1, xindexAt, vload]; refine hR _ _ _ ?_; clear hR R)
  rw [seqX_nil]
  refine hK _ _ _ ?_; clear hK K
  refine hN8 _ _ _ ?_
  refine xc_reg2 fun K hK => ?_
  simp only [rall, rsl, gres]
  iterate 2 (refine seqX_hide2 fun R hR => ?_; simp [go_sem, g1, g14, g15, g16, hi, hii, hw1, bc hP u1, xindexAt, vload]; refine hR _ _ _ ?_; clear hR R)
  refine seqX_hide2 fun R hR => ?_
  simp [go_sem, g1, g14, g15, g16, hi, hii, hw1, bc hP u1, xindexAt, vload]
  refine call_ov hP (ihk _ hx B D q u m us hq2 hBD hOu (by omega)) ?_
  clear hP
  rintro r D2 ⟨n', cs', hO2, hE2, hn'⟩ hP
  refine hR _ _ _ ?_; clear hR R
  (refine seqX_hide2 fun R hR => ?_; simp [go_sem, g1, g14, g15, g16, hi, hii, hw1, xindexAt, vload]; refine hR _ _ _ ?_; clear hR R)
  rw [seqX_nil]
  refine hK _ _ _ ?_; clear hK K
  refine hN7 _ _ _ ?_
  refine xc_reg2 fun K hK => ?_
  simp only [rall, rsl, gres]
  iterate 2 (refine seqX_hide2 fun R hR => ?_; simp [go_sem, g1, g14, g15, g16, hi, hii, hw1, xindexAt, vload]; refine hR _ _ _ ?_; clear hR R)
  rw [seqX_nil]
  refine hK _ _ _ ?_; clear hK K
  refine hJ1 (kids.length - (i + 1)) _ _ _ (by omega) ⟨i + 1, D2, r, n', cs', rfl, rfl, rfl, hP, by simp [go_sem, g1, g14, g15, g16, hi, hii, hw1, xindexAt, vload], by simp [go_sem, g1, g14, g15, g16, hi, hii, hw1, xindexAt, vload], by simp [go_sem, g1, g14, g15, g16, hi, hii, hw1, xindexAt, vload], by simp [go_sem, g1, g14, g15, g16, hi, hii, hw1, xindexAt, vload], by omega, View.le_trans hE hE2, hO2, by omega⟩
set_option maxRecDepth 20000 in
set_option maxHeartbeats 16000000 in
theorem aliased45 (t : Tr) : ∀ (lv : Nat) (A : View) (c : Array Value) (p : Nat) (all : Value), IsTr A t c → IsYn A t p → PT lv t → nds t ≤ 1000000 →
    VCalls Try.prog 85 #[.agg c, ptr0 p, all] A fun r A' => A ≤ A' := by
  induction hsz : SizeOf.sizeOf t using Nat.strongRecOn generalizing t with
  | _ N0 ih =>
  intro lv A c p all hc hy hpl hnd
  subst hsz
  obtain ⟨k, st, tag, val, an, h, l, f, row, col, al, kids⟩ := t
  have ihk : ∀ x ∈ kids, ∀ (lv : Nat) (A : View) (c : Array Value) (p : Nat) (all : Value), IsTr A x c → IsYn A x p → PT lv x → nds x ≤ 1000000 →
    VCalls Try.prog 85 #[.agg c, ptr0 p, all] A fun r A' => A ≤ A' := fun x hx => ih _ (by
      have := List.sizeOf_lt_of_mem hx
      simp
      omega) x rfl
  clear ih
  rw [PT] at hpl
  obtain ⟨hlv, ⟨hst, hal⟩, hkk, hpk⟩ := hpl
  have hk16 : k ≠ 16 := by
    rcases hkk with h | h | h
    · rw [h]; decide
    · rw [h]; decide
    · rw [h]; decide
  have hkb : (k == 16) = false := beq_eq_false_iff_ne.2 hk16
  rw [nds_mk] at hnd
  have hkl := nds_len kids
  have hcz := hc.size
  have hco := hc.ones
  obtain ⟨bs, cap, rfl, hT⟩ := hc.open
  obtain ⟨cv, ps, hA, hrow, hpl, hyk⟩ := hy.open
  obtain ⟨cb, cc, rfl⟩ := hrow.form
  refine xcalls Try.func85 rfl (by simp [Try.ntmps85]) ?_
  simp only [Try.f85]
  have hP : Priv A (addrs []) := Priv.nil A
  show xc _ _ _ _ _ _ (ov A [])
  refine xc_two fun N1 hN1 => ?_
  refine xc_reg2 fun K hK => ?_
  simp only [rall, rsl, gres]
  refine seqX_hide2 fun R hR => ?_
  simp [go_sem, hcz, hco, hkb, hk16]
  intro q3 hq3
  replace hP := hP.cons hq3
  clear hq3
  refine hR _ _ _ ?_; clear hR R
  rw [seqX_nil]
  refine hK _ _ _ ?_; clear hK K
  refine hN1 _ _ _ ?_
  refine xc_two fun N2 hN2 => ?_
  refine xc_two fun N3 hN3 => ?_
  refine xc_reg2 fun K hK => ?_
  simp only [rall, rsl, gres]
  iterate 26 (refine seqX_hide2 fun R hR => ?_; simp [go_sem, hcz, hco, hkb, hk16]; refine hR _ _ _ ?_; clear hR R)
  rw [seqX_nil]
  refine hK _ _ _ ?_; clear hK K
  refine hN3 _ _ _ ?_
  refine xc_iffalse (by simp [go_sem, hcz, hco, hkb, hk16]) ?_
  refine hN2 _ _ _ ?_
  refine xc_two fun N4 hN4 => ?_
  refine xc_reg2 fun K hK => ?_
  simp only [rall, rsl, gres]
  iterate 4 (refine seqX_hide2 fun R hR => ?_; simp [go_sem, hcz, hco, hkb, hk16]; refine hR _ _ _ ?_; clear hR R)
  rw [seqX_nil]
  refine hK _ _ _ ?_; clear hK K
  refine hN4 _ _ _ ?_
  rw [xc_block]
  rw [xc_loop]
  refine vloopK (fun k' e ds A' => ∃ (i : Nat) (D : View), k' = kids.length - i ∧ ds = [] ∧ A' = ov D [(q3, .cells (trc k st tag val an h l f row col al (.slice bs kids.length cap)) 24 (0, 0))] ∧ Priv D [q3] ∧ e 1 = ptr0 p ∧ e 2 = all ∧ e 3 = .pointer (some ⟨q3, 0, none⟩) ∧ e 43 = .int .i64 kids.length ∧ e 44 = .int .i64 i ∧ (i ≤ kids.length) ∧ (A ≤ D)) _ ⟨0, A, rfl, rfl, rfl, hP, by simp [go_sem, hcz, hco, hkb, hk16], by simp [go_sem, hcz, hco, hkb, hk16], by simp [go_sem, hcz, hco, hkb, hk16], by simp [go_sem, hcz, hco, hkb, hk16], by simp [go_sem, hcz, hco, hkb, hk16], by omega, View.le_refl _⟩ ?_
  clear hP
  rintro k' e ds _ ⟨i, D, rfl, rfl, rfl, hP, g1, g2, g3, g43, g44, hil, hAD⟩ J1 X1 hJ1 hX1
  refine xc_sound _ ?_
  have hw1 : IntKind.i64.wrap ((i : Int) + 1) = ((i + 1 : Nat) : Int) := by rw [wrap_in (by omega) (by omega)]; omega
  by_cases hi : i < kids.length
  rotate_left
  · skip
    refine xc_two fun N5 hN5 => ?_
    refine xc_reg2 fun K hK => ?_
    simp only [rall, rsl, gres]
    (refine seqX_hide2 fun R hR => ?_; simp [go_sem, hcz, hco, hkb, hk16, g1, g2, g3, g43, g44, hi]; refine hR _ _ _ ?_; clear hR R)
    rw [seqX_nil]
    refine hK _ _ _ ?_; clear hK K
    refine hN5 _ _ _ ?_
    refine xc_two fun N6 hN6 => ?_
    refine xc_iffalse (by simp [go_sem, hcz, hco, hkb, hk16, g1, g2, g3, g43, g44, hi]) ?_
    refine hX1 _ _ _ _ ?_
    simp [go_sem, hcz, hco, hkb, hk16, g1, g2, g3, g43, g44, hi]
    refine View.le_trans hAD ?_
    exact le_ov hP
  obtain ⟨q, hq1, hq2⟩ := hyk i hi
  have hx := List.getElem_mem hi
  obtain ⟨bs', cap', f1, hel⟩ := hT
  simp only [Value.slice.injEq, true_and] at f1
  obtain ⟨rfl, rfl⟩ := f1
  obtain ⟨a, ci, rfl, u0, hci0⟩ := hel i hi
  obtain ⟨a2, cap2, f2, -, u2⟩ := Row.at1 (i := i) (u := ptr0 q) hrow (by rw [List.getElem?_map, hq1]; rfl)
  simp only [Value.slice.injEq] at f2
  obtain ⟨rfl, -, rfl⟩ := f2
  have u1 := le_cells hAD _ _ _ u0
  have u3 := le_cell hAD u2
  have c6 := cell_of (i := 6) (hAD _ _ hA) rfl
  have hci := hci0.le hAD
  have hcz := hci.size
  have hco := hci.ones
  have hii : (i : Int) < kids.length := by omega
  have hnk : nds kids[i] ≤ 1000000 := by
    have : nds kids[i] ≤ (kids.map nds).sum := nds_mem hx
    omega
  refine xc_two fun N5 hN5 => ?_
  refine xc_reg2 fun K hK => ?_
  simp only [rall, rsl, gres]
  (refine seqX_hide2 fun R hR => ?_; simp [go_sem, hcz, hco, hkb, hk16, g1, g2, g3, g43, g44, hi, hii, hw1, bcs hP u1, bc hP u3, bc hP c6, xindexAt, vload]; refine hR _ _ _ ?_; clear hR R)
  rw [seqX_nil]
  refine hK _ _ _ ?_; clear hK K
  refine hN5 _ _ _ ?_
  refine xc_two fun N6 hN6 => ?_
  refine xc_iftrue (by simp [go_sem, hcz, hco, hkb, hk16, g1, g2, g3, g43, g44, hi, hii, hw1, bcs hP u1, bc hP u3, bc hP c6, xindexAt, vload]) ?_
  refine hN6 _ _ _ ?_
  refine xc_two fun N7 hN7 => ?_
  rw [xc_block]
  refine xc_two fun N8 hN8 => ?_
  refine xc_reg2 fun K hK => ?_
  simp only [rall, rsl, gres]
  iterate 2 (refine seqX_hide2 fun R hR => ?_; simp [go_sem, hcz, hco, hkb, hk16, g1, g2, g3, g43, g44, hi, hii, hw1, bcs hP u1, bc hP u3, bc hP c6, xindexAt, vload]; refine hR _ _ _ ?_; clear hR R)
  rw [seqX_nil]
  refine hK _ _ _ ?_; clear hK K
  refine hN8 _ _ _ ?_
  rw [xc_draws]
  refine vdrawK [(0, true), (1, true), (2, true), (3, true), (4, true), (5, true), (6, true), (7, true), (8, true), (9, true), (10, true), (11, true), (12, true), (13, false)] (ov D [(q3, .cells (trc k st tag val an h l f row col al (.slice (some a) kids.length cap)) 24 (0, 0))]) mixed (by kernel_rfl) (View.le_refl _) fun K hK => ?_
  simp only [rsl, gres]
  iterate 13 (refine seqR_hide fun R hR => ?_; simp [go_sem, hcz, hco, hkb, hk16, g1, g2, g3, g43, g44, hi, hii, hw1, bcs hP u1, bc hP u3, bc hP c6, xindexAt, vload]; refine hR _ _ _ ?_; clear hR R)
  refine seqR_hide fun R hR => ?_
  simp [go_sem, hcz, hco, hkb, hk16, g1, g2, g3, g43, g44, hi, hii, hw1, bcs hP u1, bc hP u3, bc hP c6, xindexAt, vload]
  refine call_ov hP (ihk _ hx (lv - 1) D ci q all hci (IsYn.le hAD _ _ hq2) (hpk i hi) hnk) ?_
  clear hP
  rintro r D2 hD2 hP
  refine hR _ _ _ ?_; clear hR R
  rw [seqR_nil]
  refine hK _ _ _ ?_; clear hK K
  refine hN7 _ _ _ ?_
  refine xc_reg2 fun K hK => ?_
  simp only [rall, rsl, gres]
  iterate 2 (refine seqX_hide2 fun R hR => ?_; simp [go_sem, hcz, hco, hkb, hk16, g1, g2, g3, g43, g44, hi, hii, hw1, xindexAt, vload]; refine hR _ _ _ ?_; clear hR R)
  rw [seqX_nil]
  refine hK _ _ _ ?_; clear hK K
  refine hJ1 (kids.length - (i + 1)) _ _ _ (by omega) ⟨i + 1, D2, rfl, rfl, rfl, hP, by simp [go_sem, hcz, hco, hkb, hk16, g1, g2, g3, g43, g44, hi, hii, hw1, xindexAt, vload], by simp [go_sem, hcz, hco, hkb, hk16, g1, g2, g3, g43, g44, hi, hii, hw1, xindexAt, vload], by simp [go_sem, hcz, hco, hkb, hk16, g1, g2, g3, g43, g44, hi, hii, hw1, xindexAt, vload], by simp [go_sem, hcz, hco, hkb, hk16, g1, g2, g3, g43, g44, hi, hii, hw1, xindexAt, vload], by simp [go_sem, hcz, hco, hkb, hk16, g1, g2, g3, g43, g44, hi, hii, hw1, xindexAt, vload], by omega, View.le_trans hAD hD2⟩
set_option maxRecDepth 20000 in
set_option maxHeartbeats 4000000 in
theorem build34 (A : View) (t : Tr) (lv : Nat) (c : Array Value) (hc : IsTr A t c) (hpl : PT lv t) (hnd : nds t ≤ 1000000) : VCalls Try.prog 74 #[.agg c] A fun r A' => ∃ p, r = ptr0 p ∧ TopY A A' t p := by
  have hcz := hc.size
  have hco := hc.ones
  refine xcalls Try.func74 rfl (by simp [Try.ntmps74]) ?_
  simp only [Try.f74]
  have hP : Priv A (addrs []) := Priv.nil A
  show xc _ _ _ _ _ _ (ov A [])
  refine xc_two fun N1 hN1 => ?_
  refine xc_reg2 fun K hK => ?_
  simp only [rall, rsl, gres]
  refine seqX_hide2 fun R hR => ?_
  simp [go_sem, hcz, hco]
  intro q1 hq1
  replace hP := hP.cons hq1
  clear hq1
  refine hR _ _ _ ?_; clear hR R
  (refine seqX_hide2 fun R hR => ?_; simp [go_sem, hcz, hco]; refine hR _ _ _ ?_; clear hR R)
  rw [seqX_nil]
  refine hK _ _ _ ?_; clear hK K
  refine hN1 _ _ _ ?_
  refine xc_two fun N2 hN2 => ?_
  refine xc_reg2 fun K hK => ?_
  simp only [rall, rsl, gres]
  (refine seqX_hide2 fun R hR => ?_; simp [go_sem, hcz, hco]; refine hR _ _ _ ?_; clear hR R)
  refine seqX_hide2 fun R hR => ?_
  simp [go_sem, hcz, hco]
  refine call_ov hP (bare44 t lv A c hc hpl hnd) ?_
  clear hP
  rintro _ A1 ⟨p, rfl, hty⟩ hP
  have hy := hty.yn
  have hA1 := hty.le
  refine hR _ _ _ ?_; clear hR R
  (refine seqX_hide2 fun R hR => ?_; simp [go_sem, hcz, hco]; refine hR _ _ _ ?_; clear hR R)
  rw [seqX_nil]
  refine hK _ _ _ ?_; clear hK K
  refine hN2 _ _ _ ?_
  refine xc_two fun N3 hN3 => ?_
  rw [xc_draws]
  refine vdrawK [(0, true), (1, true), (2, true), (3, true), (4, false)] (ov A1 [(q1, .cells c 24 (0, 0))]) mixed (by kernel_rfl) (View.le_refl _) fun K hK => ?_
  simp only [rsl, gres]
  iterate 3 (refine seqR_hide fun R hR => ?_; simp [go_sem, hcz, hco]; refine hR _ _ _ ?_; clear hR R)
  refine seqR_hide fun R hR => ?_
  simp [go_sem, hcz, hco]
  refine call_ov hP (listed46 t A1 A1 p (.slice none 0 0) 0 [] hy (View.le_refl _) (Own.nil _ _ _ _) (by omega)) ?_
  clear hP
  rintro r A2 ⟨n', cs', hO2, hE2, -⟩ hP
  have hA2 : A1 ≤ A2 := View.le_trans hE2 (eraseB_le _ _)
  refine ⟨ov_mono hA2, hR _ _ _ ?_⟩; clear hR R
  refine seqR_hide fun R hR => ?_
  simp [go_sem, hcz, hco]
  refine call_ov hP (aliased45 t lv A2 c p r (hc.le (View.le_trans hA1 hA2)) (IsYn.le hA2 _ _ hy) hpl hnd) ?_
  clear hP
  rintro _ A3 hA3 hP
  refine hR _ _ _ ?_; clear hR R
  rw [seqR_nil]
  refine hK _ _ _ ?_; clear hK K
  refine hN3 _ _ _ ?_
  refine xc_two fun N4 hN4 => ?_
  refine xc_reg2 fun K hK => ?_
  simp only [rall, rsl, gres]
  iterate 2 (refine seqX_hide2 fun R hR => ?_; simp [go_sem, hcz, hco]; refine hR _ _ _ ?_; clear hR R)
  rw [seqX_nil]
  refine hK _ _ _ ?_; clear hK K
  refine hN4 _ _ _ ?_
  simp [go_sem, hcz, hco]
  refine hty.grow (View.le_refl _) (View.le_trans hA2 (View.le_trans hA3 ?_))
  exact le_ov hP
/-- A tree as the package hands it on. -/
def IsRn (A : View) (t : Tr) (q : Nat) : Prop := ∃ p, A q = some (.cells #[.slice none 0 0, ptr0 p, .bool false, .slice none 0 0] 111 (0, 0)) ∧ IsYn A t p
theorem IsRn.le {A B : View} (h : A ≤ B) {t : Tr} {q : Nat} (e : IsRn A t q) : IsRn B t q := let ⟨p, h1, h2⟩ := e; ⟨p, h _ _ h1, IsYn.le h _ _ h2⟩
theorem IsYn.ne {A : View} {t : Tr} {p : Nat} (h : IsYn A t p) : A p ≠ none := by
  obtain ⟨k, st, tag, val, an, hh, l, f, row, col, al, kids⟩ := t
  obtain ⟨cv, ps, hp, -, -, -⟩ := h.open
  rw [hp]
  intro e
  cases e
set_option maxRecDepth 20000 in
theorem newRNodeS (A : View) (p : Nat) : VCalls Try.prog 73 #[ptr0 p] A fun r A' => ∃ q, r = ptr0 q ∧ A' q = some (.cells #[.slice none 0 0, ptr0 p, .bool false, .slice none 0 0] 111 (0, 0)) ∧ A q = none ∧ A ≤ A' := by
  refine xcalls Try.func73 rfl (by simp [Try.ntmps73]) ?_
  simp only [Try.f73]
  have hP : Priv A (addrs []) := Priv.nil A
  show xc _ _ _ _ _ _ (ov A [])
  refine xc_two fun N1 hN1 => ?_
  refine xc_reg2 fun K hK => ?_
  simp only [rall, rsl, gres]
  (refine seqX_hide2 fun R hR => ?_; simp [go_sem]; refine hR _ _ _ ?_; clear hR R)
  rw [seqX_nil]
  refine hK _ _ _ ?_; clear hK K
  refine hN1 _ _ _ ?_
  refine xc_two fun N2 hN2 => ?_
  refine xc_reg2 fun K hK => ?_
  simp only [rall, rsl, gres]
  iterate 2 (refine seqX_hide2 fun R hR => ?_; simp [go_sem]; refine hR _ _ _ ?_; clear hR R)
  refine seqX_hide2 fun R hR => ?_
  simp [go_sem]
  intro q5 hq5
  replace hP := hP.cons hq5
  clear hq5
  refine hR _ _ _ ?_; clear hR R
  (refine seqX_hide2 fun R hR => ?_; simp [go_sem]; refine hR _ _ _ ?_; clear hR R)
  rw [seqX_nil]
  refine hK _ _ _ ?_; clear hK K
  refine hN2 _ _ _ ?_
  simp [go_sem]
  exact ⟨hP.1, le_ov hP⟩
set_option maxRecDepth 20000 in
theorem newRNode33 (A : View) (t : Tr) (p : Nat) (hy : IsYn A t p) : VCalls Try.prog 73 #[ptr0 p] A fun r A' => ∃ q, r = ptr0 q ∧ IsRn A' t q ∧ A ≤ A' := by
  refine xcalls Try.func73 rfl (by simp [Try.ntmps73]) ?_
  simp only [Try.f73]
  have hP : Priv A (addrs []) := Priv.nil A
  show xc _ _ _ _ _ _ (ov A [])
  refine xc_two fun N1 hN1 => ?_
  refine xc_reg2 fun K hK => ?_
  simp only [rall, rsl, gres]
  (refine seqX_hide2 fun R hR => ?_; simp [go_sem]; refine hR _ _ _ ?_; clear hR R)
  rw [seqX_nil]
  refine hK _ _ _ ?_; clear hK K
  refine hN1 _ _ _ ?_
  refine xc_two fun N2 hN2 => ?_
  refine xc_reg2 fun K hK => ?_
  simp only [rall, rsl, gres]
  iterate 2 (refine seqX_hide2 fun R hR => ?_; simp [go_sem]; refine hR _ _ _ ?_; clear hR R)
  refine seqX_hide2 fun R hR => ?_
  simp [go_sem]
  intro q5 hq5
  replace hP := hP.cons hq5
  clear hq5
  refine hR _ _ _ ?_; clear hR R
  (refine seqX_hide2 fun R hR => ?_; simp [go_sem]; refine hR _ _ _ ?_; clear hR R)
  rw [seqX_nil]
  refine hK _ _ _ ?_; clear hK K
  refine hN2 _ _ _ ?_
  simp [go_sem]
  refine ⟨⟨p, ?_, IsYn.le ?_ _ _ hy⟩, ?_⟩
  · exact ov_at_here _ _ _ _
  · exact le_ov hP
  · exact le_ov hP
end Go.Proofs.YtpinamipjddobaaV

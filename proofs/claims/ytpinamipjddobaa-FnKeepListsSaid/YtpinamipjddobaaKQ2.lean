/- Trees: visitMappingNodeFields, for one name, with any closure (KQ with more captured values). -/
import Derived.Test.YtpinamipjddobaaKI0
namespace Go.Proofs.YtpinamipjddobaaV
open Go.RowKit
set_option linter.unusedSimpArgs false
set_option linter.unusedVariables false
/-- A closure that writes into the variable b6, which holds O0 before: of the value x it leaves Q. -/
def CB (F b6 : Nat) (O0 : Obj) (cp : Array Value) (Bs : View) (OK : Tr → Prop) (Q : Tr → View → Prop) : Prop := goodFn Try.prog F = true ∧
  ∀ (A0 A : View) (x : Tr) (kp vp : Nat), Bs ≤ A0 → A0 ≤ A → A0 b6 = none → A b6 = some O0 → IsYn A0 x vp → OK x → VCalls Try.prog F (#[ptr0 kp, ptr0 vp] ++ cp) A fun r A' => A0 ≤ A' ∧ Q x A'
set_option maxRecDepth 20000 in
theorem closG (F : Nat) (O0 : Obj) (cp : Array Value) (Bs : View) (OK : Tr → Prop) (Q : Tr → View → Prop) (A0 A : View) (x : Tr) (kp vp b6 q4 q5 : Nat) (i : Int) (a : Addr) (cap : Nat) (nm : ByteArray) (k st : Int) (tag val an : ByteArray) (cv : Value) (h l f : ByteArray) (row col : Int) (hcb : CB F b6 O0 cp Bs OK Q) (hbs : Bs ≤ A0) (hle : A0 ≤ A) (h0 : A0 b6 = none) (h6 : A b6 = some O0) (h4 : A0 q4 = some (.cells #[.func (.func F) #[] cp] 125 (0, 0))) (h5 : A0 q5 = some (.cells #[.slice (some a) 1 cap] 47 (0, 0))) (hs : A0.cell? a = some (.string nm)) (hk : A0 kp = some (.cells (ync k st tag val an cv h l f row col) 114 (0, 0))) (hx : IsYn A0 x vp) (hok : nm = val → OK x) :
    VCalls Try.prog 91 #[ptr0 kp, ptr0 vp, .int .i64 i, ptr0 q5, ptr0 q4] A fun r A' => A0 ≤ A' ∧ if nm = val then r = .bool false ∧ Q x A' else r = .bool true ∧ A' b6 = some O0 := by
  have c4 := le_cell hle (cell_of (i := 0) h4 rfl)
  have c5 := le_cell hle (cell_of (i := 0) h5 rfl)
  have cs := le_cell hle hs
  have c3 := le_cell hle (cell_of (i := 3) hk rfl)
  refine xcalls Try.func91 rfl (by simp [Try.ntmps91]) ?_
  simp only [Try.f91]
  have hP : Priv A (addrs []) := Priv.nil A
  show xc _ _ _ _ _ _ (ov A [])
  refine xc_two fun N1 hN1 => ?_
  refine xc_reg2 fun K hK => ?_
  simp only [rall, rsl, gres]
  (refine seqX_hide2 fun R hR => ?_; simp [go_sem, bc hP c4, bc hP c5, bc hP cs, bc hP c3, xindexAt, vload]; refine hR _ _ _ ?_; clear hR R)
  rw [seqX_nil]
  refine hK _ _ _ ?_; clear hK K
  refine hN1 _ _ _ ?_
  refine xc_two fun N2 hN2 => ?_
  refine xc_two fun N3 hN3 => ?_
  refine xc_reg2 fun K hK => ?_
  simp only [rall, rsl, gres]
  iterate 2 (refine seqX_hide2 fun R hR => ?_; simp [go_sem, bc hP c4, bc hP c5, bc hP cs, bc hP c3, xindexAt, vload]; refine hR _ _ _ ?_; clear hR R)
  rw [seqX_nil]
  refine hK _ _ _ ?_; clear hK K
  refine hN3 _ _ _ ?_
  refine xc_iffalse (by simp [go_sem, bc hP c4, bc hP c5, bc hP cs, bc hP c3, xindexAt, vload]) ?_
  refine hN2 _ _ _ ?_
  refine xc_two fun N4 hN4 => ?_
  refine xc_two fun N5 hN5 => ?_
  rw [xc_draws]
  refine vdrawK [(0, true), (1, true), (2, true), (3, true), (4, true), (5, true), (6, true), (7, true)] (ov A []) mixed (by kernel_rfl) (View.le_refl _) fun K hK => ?_
  simp only [rsl, gres]
  iterate 8 (refine seqR_hide fun R hR => ?_; simp [go_sem, bc hP c4, bc hP c5, bc hP cs, bc hP c3, xindexAt, vload]; refine hR _ _ _ ?_; clear hR R)
  rw [seqR_nil]
  refine hK _ _ _ ?_; clear hK K
  refine hN5 _ _ _ ?_
  by_cases hv : nm = val
  · have hok2 := hok hv
    subst hv
    have hgf := hcb.1
    refine xc_iftrue (by simp [go_sem, xindexAt, vload, bc hP c4, hgf]) ?_
    refine xc_two fun N6 hN6 => ?_
    refine xc_reg2 fun K hK => ?_
    simp only [rall, rsl, gres]
    iterate 3 (refine seqX_hide2 fun R hR => ?_; simp [go_sem, xindexAt, vload, bc hP c4, hgf]; refine hR _ _ _ ?_; clear hR R)
    refine seqX_hide2 fun R hR => ?_
    simp [go_sem, xindexAt, vload, bc hP c4, hgf]
    refine call_ov hP (hcb.2 A0 A x kp vp hbs hle h0 h6 hx hok2) ?_
    clear hP
    rintro _ A2 ⟨hA2, h62⟩ hP
    refine hR _ _ _ ?_; clear hR R
    rw [seqX_nil]
    refine hK _ _ _ ?_; clear hK K
    refine hN6 _ _ _ ?_
    refine xc_two fun N7 hN7 => ?_
    refine xc_reg2 fun K hK => ?_
    simp only [rall, rsl, gres]
    (refine seqX_hide2 fun R hR => ?_; simp [go_sem, xindexAt, vload, hgf]; refine hR _ _ _ ?_; clear hR R)
    rw [seqX_nil]
    refine hK _ _ _ ?_; clear hK K
    refine hN7 _ _ _ ?_
    simp [go_sem, xindexAt, vload, hgf]
    exact ⟨hA2, h62⟩
  · have hvb := bytes_ne hv
    refine xc_iffalse (by simp [go_sem, xindexAt, vload, hv, hvb]) ?_
    refine hN4 _ _ _ ?_
    refine xc_two fun N6 hN6 => ?_
    refine xc_reg2 fun K hK => ?_
    simp only [rall, rsl, gres]
    (refine seqX_hide2 fun R hR => ?_; simp [go_sem, xindexAt, vload, hv, hvb]; refine hR _ _ _ ?_; clear hR R)
    rw [seqX_nil]
    refine hK _ _ _ ?_; clear hK K
    refine hN6 _ _ _ ?_
    simp [go_sem, xindexAt, vload, hv, hvb]
    exact ⟨hle, h6⟩
/-- What a visit leaves. -/
def Vis (b6 : Nat) (O0 : Obj) (Q : Tr → View → Prop) (o : Option Tr) (A : View) : Prop :=
  match o with
  | none => A b6 = some O0
  | some x => Q x A
set_option maxRecDepth 20000 in
set_option maxHeartbeats 4000000 in
theorem whileG (F : Nat) (O0 : Obj) (cp : Array Value) (Bs : View) (OK : Tr → Prop) (Q : Tr → View → Prop) (A0 A : View) (b6 q4 q5 : Nat) (a : Addr) (cap : Nat) (nm : ByteArray) (kids : List Tr) (ps : List Nat) (cv : Value) (hcb : CB F b6 O0 cp Bs OK Q) (hbs : Bs ≤ A0) (hle : A0 ≤ A) (h0 : A0 b6 = none) (h6 : A b6 = some O0) (h4 : A0 q4 = some (.cells #[.func (.func F) #[] cp] 125 (0, 0))) (h5 : A0 q5 = some (.cells #[.slice (some a) 1 cap] 47 (0, 0))) (hs : A0.cell? a = some (.string nm)) (hrow : Row A0 1 cv kids.length (ps.map ptr0)) (hpl : ps.length = kids.length) (hyk : ∀ j (hj : j < kids.length), ∃ q, ps[j]? = some q ∧ IsYn A0 (kids[j]) q) (hev : kids.length % 2 = 0) (hkl : kids.length ≤ 1000000) (hok : ∀ x, fld kids nm = some x → OK x) :
    VCalls Try.prog 89 #[cv, .func (.func 91) #[] #[ptr0 q5, ptr0 q4]] A fun r A' => A0 ≤ A' ∧ Vis b6 O0 Q (fld kids nm) A' := by
  obtain ⟨cb, cc, rfl⟩ := hrow.form
  refine xcalls Try.func89 rfl (by simp [Try.ntmps89]) ?_
  simp only [Try.f89]
  have hP : Priv A (addrs []) := Priv.nil A
  show xc _ _ _ _ _ _ (ov A [])
  refine xc_two fun N1 hN1 => ?_
  refine xc_reg2 fun K hK => ?_
  simp only [rall, rsl, gres]
  (refine seqX_hide2 fun R hR => ?_; simp [go_sem]; refine hR _ _ _ ?_; clear hR R)
  rw [seqX_nil]
  refine hK _ _ _ ?_; clear hK K
  refine hN1 _ _ _ ?_
  rw [xc_block]
  rw [xc_loop]
  refine vloopK (fun k' e ds A' => ∃ (i : Nat) (D : View), k' = kids.length - i ∧ ds = [] ∧ A' = ov D [] ∧ Priv D [] ∧ e 0 = .slice cb kids.length cc ∧ e 1 = .func (.func 91) #[] #[ptr0 q5, ptr0 q4] ∧ e 4 = .int .i64 i ∧ (i ≤ kids.length) ∧ (i % 2 = 0) ∧ (A0 ≤ D) ∧ (D b6 = some O0) ∧ (fld kids nm = fld (kids.drop i) nm)) _ ⟨0, A, rfl, rfl, rfl, hP, by simp [go_sem], by simp [go_sem], by simp [go_sem], by omega, rfl, hle, h6, rfl⟩ ?_
  clear hP
  rintro k' e ds A' ⟨i, D, rfl, rfl, hV, hP, g0, g1, g4, hil, hi2, hAD, h6D, hfd⟩ J1 X1 hJ1 hX1
  refine xc_sound _ ?_
  replace hV := Eq.symm hV; subst hV; replace hP : Priv D (addrs []) := hP
  have hw1 : IntKind.i64.wrap ((i : Int) + 1) = ((i + 1 : Nat) : Int) := by rw [wrap_in (by omega) (by omega)]; omega
  have hw2 : IntKind.i64.wrap ((i : Int) + 2) = ((i + 2 : Nat) : Int) := by rw [wrap_in (by omega) (by omega)]; omega
  by_cases hi : i < kids.length
  rotate_left
  · rw [fld_end (by omega)] at hfd
    have hii : ¬ (i : Int) < kids.length := by omega
    refine xc_two fun N2 hN2 => ?_
    refine xc_two fun N3 hN3 => ?_
    refine xc_reg2 fun K hK => ?_
    simp only [rall, rsl, gres]
    iterate 4 (refine seqX_hide2 fun R hR => ?_; simp [go_sem, g0, g1, g4, hi, hii]; refine hR _ _ _ ?_; clear hR R)
    rw [seqX_nil]
    refine hK _ _ _ ?_; clear hK K
    refine hN3 _ _ _ ?_
    refine xc_iffalse (by simp [go_sem, g0, g1, g4, hi, hii]) ?_
    refine hX1 _ _ _ _ ?_
    simp [go_sem, g0, g1, g4, hi, hii]
    rw [hfd]
    exact ⟨hAD, h6D⟩
  have hi1 : i + 1 < kids.length := by omega
  rw [fld_step hi1] at hfd
  have hii : (i : Int) < kids.length := by omega
  have hii1 : ((i + 1 : Nat) : Int) < kids.length := by omega
  obtain ⟨q, hq1, hq2⟩ := hyk i hi
  obtain ⟨p, hp1, hp2⟩ := hyk (i + 1) hi1
  obtain ⟨a1, cap1, f1, -, u1⟩ := Row.at1 (i := i) (u := ptr0 q) hrow (by rw [List.getElem?_map, hq1]; rfl)
  simp only [Value.slice.injEq] at f1
  obtain ⟨rfl, -, rfl⟩ := f1
  obtain ⟨a2, cap2, f2, -, u2⟩ := Row.at1 (i := i + 1) (u := ptr0 p) hrow (by rw [List.getElem?_map, hp1]; rfl)
  simp only [Value.slice.injEq, Option.some.injEq] at f2
  obtain ⟨rfl, -, rfl⟩ := f2
  rw [show a1.add (i + 1) = ⟨a1.block, a1.off + (i + 1), none⟩ from if_neg (Nat.succ_ne_zero i)] at u2
  have hii2 : (i : Int) + 1 < kids.length := by omega
  have hii3 : (0 : Int) ≤ (i : Int) + 1 := by omega
  have u1z := u1
  have u2z := u2
  have u1 := le_cell hAD u1
  have u2 := le_cell hAD u2
  have hPz : Priv A0 (addrs []) := Priv.nil A0
  obtain ⟨k, st, tag, val, an, h, l, f, row, col, al, kk, hkk⟩ := kids[i].ex
  rw [hkk] at hq2 hfd
  replace hfd : fld kids nm = if nm = val then some kids[i + 1] else fld (kids.drop (i + 2)) nm := hfd
  obtain ⟨cv2, ps2, hq3, -, -, -⟩ := hq2.open
  refine xc_two fun N2 hN2 => ?_
  refine xc_two fun N3 hN3 => ?_
  refine xc_reg2 fun K hK => ?_
  simp only [rall, rsl, gres]
  iterate 4 (refine seqX_hide2 fun R hR => ?_; simp [go_sem, g0, g1, g4, hi, hii, hi1, hii1, hii2, hii3, hw1, hw2, bc hP u1, bc hP u2, bc hPz u1z, bc hPz u2z, xindexAt, vload]; refine hR _ _ _ ?_; clear hR R)
  rw [seqX_nil]
  refine hK _ _ _ ?_; clear hK K
  refine hN3 _ _ _ ?_
  refine xc_iftrue (by simp [go_sem, g0, g1, g4, hi, hii, hi1, hii1, hii2, hii3, hw1, hw2, bc hP u1, bc hP u2, bc hPz u1z, bc hPz u2z, xindexAt, vload]) ?_
  refine hN2 _ _ _ ?_
  refine xc_two fun N4 hN4 => ?_
  rw [xc_block]
  refine xc_two fun N5 hN5 => ?_
  rw [xc_draws]
  refine vdrawK [(0, true), (1, true), (2, true), (3, true), (4, true), (5, true), (6, true), (7, true), (8, true), (9, true), (10, true), (11, false), (12, true)] (ov A0 []) mixed (by kernel_rfl) (ov_mono hAD) fun K hK => ?_
  simp only [rsl, gres]
  iterate 11 (refine seqR_hide fun R hR => ?_; simp [go_sem, g0, g1, g4, hi, hii, hi1, hii1, hii2, hii3, hw1, hw2, bc hP u1, bc hP u2, bc hPz u1z, bc hPz u2z, xindexAt, vload]; refine hR _ _ _ ?_; clear hR R)
  refine seqR_hide fun R hR => ?_
  simp [go_sem, g0, g1, g4, hi, hii, hi1, hii1, hii2, hii3, hw1, hw2, bc hP u1, bc hP u2, bc hPz u1z, bc hPz u2z, xindexAt, vload]
  refine call_ov hP (closG F O0 cp Bs OK Q A0 D kids[i + 1] q p b6 q4 q5 i a cap nm k st tag val an cv2 h l f row col hcb hbs hAD h0 h6D h4 h5 hs hq3 hp2 (fun hv => hok _ (by rw [hfd, if_pos hv]))) ?_
  clear hP
  rintro r D2 ⟨hA2, hr⟩ hP
  by_cases hv : nm = val
  · rw [if_pos hv] at hr hfd
    obtain ⟨rfl, hM⟩ := hr
    refine hR _ _ _ ?_; clear hR R
    (refine seqR_hide fun R hR => ?_; simp [go_sem, g0, g1, g4, hi, hii, hi1, hii1, hii2, hii3, hw1, hw2, bc hPz u1z, bc hPz u2z, xindexAt, vload]; refine hR _ _ _ ?_; clear hR R)
    rw [seqR_nil]
    refine hK _ _ _ ?_; clear hK K
    refine hN5 _ _ _ ?_
    refine xc_two fun N6 hN6 => ?_
    refine xc_reg2 fun K hK => ?_
    simp only [rall, rsl, gres]
    iterate 2 (refine seqX_hide2 fun R hR => ?_; simp [go_sem, g0, g1, g4, hi, hii, hi1, hii1, hii2, hii3, hw1, hw2, bc hPz u1z, bc hPz u2z, xindexAt, vload]; refine hR _ _ _ ?_; clear hR R)
    rw [seqX_nil]
    refine hK _ _ _ ?_; clear hK K
    refine hN6 _ _ _ ?_
    refine xc_iftrue (by simp [go_sem, g0, g1, g4, hi, hii, hi1, hii1, hii2, hii3, hw1, hw2, bc hPz u1z, bc hPz u2z, xindexAt, vload]) ?_
    refine hX1 _ _ _ _ ?_
    simp [go_sem, g0, g1, g4, hi, hii, hi1, hii1, hii2, hii3, hw1, hw2, bc hPz u1z, bc hPz u2z, xindexAt, vload]
    rw [hfd]
    exact ⟨hA2, hM⟩
  · rw [if_neg hv] at hr hfd
    obtain ⟨rfl, h62⟩ := hr
    refine hR _ _ _ ?_; clear hR R
    (refine seqR_hide fun R hR => ?_; simp [go_sem, g0, g1, g4, hi, hii, hi1, hii1, hii2, hii3, hw1, hw2, bc hPz u1z, bc hPz u2z, xindexAt, vload]; refine hR _ _ _ ?_; clear hR R)
    rw [seqR_nil]
    refine hK _ _ _ ?_; clear hK K
    refine hN5 _ _ _ ?_
    refine xc_two fun N6 hN6 => ?_
    refine xc_reg2 fun K hK => ?_
    simp only [rall, rsl, gres]
    iterate 2 (refine seqX_hide2 fun R hR => ?_; simp [go_sem, g0, g1, g4, hi, hii, hi1, hii1, hii2, hii3, hw1, hw2, bc hPz u1z, bc hPz u2z, xindexAt, vload]; refine hR _ _ _ ?_; clear hR R)
    rw [seqX_nil]
    refine hK _ _ _ ?_; clear hK K
    refine hN6 _ _ _ ?_
    refine xc_iffalse (by simp [go_sem, g0, g1, g4, hi, hii, hi1, hii1, hii2, hii3, hw1, hw2, bc hPz u1z, bc hPz u2z, xindexAt, vload]) ?_
    refine hN4 _ _ _ ?_
    refine xc_reg2 fun K hK => ?_
    simp only [rall, rsl, gres]
    iterate 3 (refine seqX_hide2 fun R hR => ?_; simp [go_sem, g0, g1, g4, hi, hii, hi1, hii1, hii2, hii3, hw1, hw2, bc hPz u1z, bc hPz u2z, xindexAt, vload]; refine hR _ _ _ ?_; clear hR R)
    rw [seqX_nil]
    refine hK _ _ _ ?_; clear hK K
    refine hJ1 (kids.length - (i + 2)) _ _ _ (by omega) ⟨i + 2, D2, rfl, rfl, rfl, hP, by simp [go_sem, g0, g1, g4, hi, hii, hi1, hii1, hii2, hii3, hw1, hw2, bc hPz u1z, bc hPz u2z, xindexAt, vload], by simp [go_sem, g0, g1, g4, hi, hii, hi1, hii1, hii2, hii3, hw1, hw2, bc hPz u1z, bc hPz u2z, xindexAt, vload], by simp [go_sem, g0, g1, g4, hi, hii, hi1, hii1, hii2, hii3, hw1, hw2, bc hPz u1z, bc hPz u2z, xindexAt, vload], by omega, by omega, hA2, h62, hfd⟩
set_option maxRecDepth 20000 in
theorem visitG (F : Nat) (O0 : Obj) (cp : Array Value) (Bs : View) (OK : Tr → Prop) (Q : Tr → View → Prop) (A0 A : View) (b6 : Nat) (a : Addr) (cap : Nat) (nm : ByteArray) (kids : List Tr) (ps : List Nat) (cv : Value) (hcb : CB F b6 O0 cp Bs OK Q) (hbs : Bs ≤ A0) (hle : A0 ≤ A) (h0 : A0 b6 = none) (h6 : A b6 = some O0) (hs : A0.cell? a = some (.string nm)) (hrow : Row A0 1 cv kids.length (ps.map ptr0)) (hpl : ps.length = kids.length) (hyk : ∀ j (hj : j < kids.length), ∃ q, ps[j]? = some q ∧ IsYn A0 (kids[j]) q) (hev : kids.length % 2 = 0) (hkl : kids.length ≤ 1000000) (hok : ∀ x, fld kids nm = some x → OK x) :
    VCalls Try.prog 80 #[cv, .func (.func F) #[] cp, .slice (some a) 1 cap] A fun r A' => A0 ≤ A' ∧ Vis b6 O0 Q (fld kids nm) A' := by
  refine xcalls Try.func80 rfl (by simp [Try.ntmps80]) ?_
  simp only [Try.f80]
  have hP : Priv A (addrs []) := Priv.nil A
  show xc _ _ _ _ _ _ (ov A [])
  refine xc_two fun N1 hN1 => ?_
  refine xc_reg2 fun K hK => ?_
  simp only [rall, rsl, gres]
  refine seqX_hide2 fun R hR => ?_
  simp [go_sem]
  intro q4 hq4
  replace hP := hP.cons hq4
  clear hq4
  refine hR _ _ _ ?_; clear hR R
  refine seqX_hide2 fun R hR => ?_
  simp [go_sem]
  intro q5 hq5
  replace hP := hP.cons hq5
  clear hq5
  have d54 : q5 ≠ q4 := (hP.ne q4 (by simp [addrs])).1
  have d45 : q4 ≠ q5 := (hP.ne q4 (by simp [addrs])).2
  refine hR _ _ _ ?_; clear hR R
  rw [seqX_nil]
  refine hK _ _ _ ?_; clear hK K
  refine hN1 _ _ _ ?_
  refine xc_two fun N2 hN2 => ?_
  refine xc_reg2 fun K hK => ?_
  simp only [rall, rsl, gres]
  iterate 2 (refine seqX_hide2 fun R hR => ?_; simp [go_sem, d54, d45]; refine hR _ _ _ ?_; clear hR R)
  rw [seqX_nil]
  refine hK _ _ _ ?_; clear hK K
  refine hN2 _ _ _ ?_
  rw [xc_block]
  refine xc_two fun N3 hN3 => ?_
  refine xc_reg2 fun K hK => ?_
  simp only [rall, rsl, gres]
  iterate 2 (refine seqX_hide2 fun R hR => ?_; simp [go_sem, d54, d45]; refine hR _ _ _ ?_; clear hR R)
  rw [seqX_nil]
  refine hK _ _ _ ?_; clear hK K
  refine hN3 _ _ _ ?_
  refine xc_iffalse (by simp [go_sem, d54, d45]) ?_
  refine xc_two fun N4 hN4 => ?_
  refine xc_reg2 fun K hK => ?_
  simp only [rall, rsl, gres]
  iterate 2 (refine seqX_hide2 fun R hR => ?_; simp [go_sem, d54, d45]; refine hR _ _ _ ?_; clear hR R)
  rw [seqX_nil]
  refine hK _ _ _ ?_; clear hK K
  refine hN4 _ _ _ ?_
  refine xc_iftrue (by simp [go_sem, d54, d45]) ?_
  refine xc_reg2 fun K hK => ?_
  simp only [rall, rsl, gres]
  iterate 2 (refine seqX_hide2 fun R hR => ?_; simp [go_sem, d54, d45]; refine hR _ _ _ ?_; clear hR R)
  refine seqX_hide2 fun R hR => ?_
  simp [go_sem, d54, d45]
  have n45 : q4 ≠ q5 := d45
  obtain ⟨eq5, hPn, nq5⟩ := sinkI (A := A) (L := [(q5, .cells #[.slice (some a) 1 cap] 47 (0, 0)), (q4, .cells #[.func (.func F) #[] cp] 125 (0, 0))]) 0 hP rfl
  rw [eq5]
  clear eq5 hP; have hP := hPn; clear hPn
  simp only [List.eraseIdx_cons_zero, List.eraseIdx_cons_succ, addrs_cons, addrs_nil] at hP ⊢
  obtain ⟨eq4, hPn, nq4⟩ := sinkI (A := A.set q5 (.cells #[.slice (some a) 1 cap] 47 (0, 0))) (L := [(q4, .cells #[.func (.func F) #[] cp] 125 (0, 0))]) 0 hP rfl
  rw [eq4]
  clear eq4 hP; have hP := hPn; clear hPn
  simp only [List.eraseIdx_cons_zero, List.eraseIdx_cons_succ, addrs_cons, addrs_nil] at hP ⊢
  have z5 : A0 q5 = none := none_le hle nq5
  have z4 : (A0.set q5 (.cells #[.slice (some a) 1 cap] 47 (0, 0))) q4 = none := none_le (set_mono hle _ _) nq4
  have l0 : A0 ≤ (A0.set q5 (.cells #[.slice (some a) 1 cap] 47 (0, 0))).set q4 (.cells #[.func (.func F) #[] cp] 125 (0, 0)) := View.le_trans (le_set z5) (le_set z4)
  have l1 : (A0.set q5 (.cells #[.slice (some a) 1 cap] 47 (0, 0))).set q4 (.cells #[.func (.func F) #[] cp] 125 (0, 0)) ≤ (A.set q5 (.cells #[.slice (some a) 1 cap] 47 (0, 0))).set q4 (.cells #[.func (.func F) #[] cp] 125 (0, 0)) := set_mono (set_mono hle _ _) _ _
  have x5 : q5 ≠ b6 := fun hx => by rw [hx, h6] at nq5; cases nq5
  have x4 : q4 ≠ b6 := fun hx => by rw [hx, set_other (fun hy => x5 hy.symm), h6] at nq4; cases nq4
  refine call_ov hP (whileG F O0 cp Bs OK Q ((A0.set q5 (.cells #[.slice (some a) 1 cap] 47 (0, 0))).set q4 (.cells #[.func (.func F) #[] cp] 125 (0, 0))) _ b6 q4 q5 a cap nm kids ps cv hcb (View.le_trans hbs l0) l1 ?_ ?_ ?_ ?_ (le_cell l0 hs) (hrow.le l0) hpl (fun j hj => let ⟨q, h1, h2⟩ := hyk j hj; ⟨q, h1, h2.le l0⟩) hev hkl hok) ?_
  · rw [set_other (fun hx => x4 hx.symm), set_other (fun hx => x5 hx.symm)]; exact h0
  · rw [set_other (fun hx => x4 hx.symm), set_other (fun hx => x5 hx.symm)]; exact h6
  · exact set_at _ _ _
  · rw [set_other (fun hx => n45 hx.symm)]; exact set_at _ _ _
  clear hP
  rintro _ A2 ⟨hA2, hF⟩ hP
  refine hR _ _ _ ?_; clear hR R
  rw [seqX_nil]
  refine hK _ _ _ ?_; clear hK K
  simp [go_sem, d54, d45]
  have hx5 : q5 ≠ b6 := x5
  exact ⟨View.le_trans l0 hA2, hF⟩
end Go.Proofs.YtpinamipjddobaaV

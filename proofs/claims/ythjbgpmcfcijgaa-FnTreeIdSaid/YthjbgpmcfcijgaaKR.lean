/- Trees: what is empty; closures that keep what a visit finds. -/
import Derived.Test.YthjbgpmcfcijgaaKQ
namespace Go.Proofs.YthjbgpmcfcijgaaV
open Go.RowKit
set_option linter.unusedSimpArgs false
set_option linter.unusedVariables false
/-- A node that is not empty. -/
def NE (x : Tr) : Prop := x.kind ≠ 0 ∧ x.kind ≠ 2 ∧ x.tag ≠ tNull ∧ (x.kind = 4 → x.kids.length ≠ 0)
set_option maxRecDepth 20000 in
theorem tnull82 (A : View) (x : Tr) (p : Nat) (hx : IsYn A x p) (hn : NE x) : VCalls Try.prog 82 #[ptr0 p] A fun r A' => r = .bool false ∧ A' = A := by
  obtain ⟨k, st, tag, val, an, h, l, f, row, col, al, kids, rfl⟩ := x.ex
  obtain ⟨cv, ps, hp, hrow, hpl, hyk⟩ := hx.open
  have c2 := cell_of (i := 2) hp rfl
  have ht : ¬ tag.toList = [33, 33, 110, 117, 108, 108] := fun e => bytes_ne hn.2.2.1 (e.trans (by kernel_rfl))
  refine xcalls Try.func82 rfl (by simp [Try.ntmps82]) ?_
  simp only [Try.f82]
  have hP : Priv A (addrs []) := Priv.nil A
  show xc _ _ _ _ _ _ (ov A [])
  refine xc_two fun N1 hN1 => ?_
  refine xc_reg1 1 rfl fun K hK => ?_
  simp only [show (List.range 1).map (·, true) = [(0, true)] from rfl, rslv_cons, rslv_nil, List.getElem?_toArray, List.getElem?_cons_zero, List.getElem?_cons_succ, gres]
  (refine seqX_hide2 fun R hR => ?_; simp [go_sem, bc hP c2, ht]; refine hR _ _ _ ?_; clear hR R)
  rw [seqX_nil]
  refine hK _ _ _ ?_; clear hK K
  refine hN1 _ _ _ ?_
  refine xc_two fun N2 hN2 => ?_
  refine xc_reg1 10 rfl fun K hK => ?_
  simp only [show (List.range 10).map (·, true) = [(0, true), (1, true), (2, true), (3, true), (4, true), (5, true), (6, true), (7, true), (8, true), (9, true)] from rfl, rslv_cons, rslv_nil, List.getElem?_toArray, List.getElem?_cons_zero, List.getElem?_cons_succ, gres]
  iterate 10 (refine seqX_hide2 fun R hR => ?_; simp [go_sem, bc hP c2, ht]; refine hR _ _ _ ?_; clear hR R)
  rw [seqX_nil]
  refine hK _ _ _ ?_; clear hK K
  refine hN2 _ _ _ ?_
  simp [go_sem, bc hP c2, ht]
  rfl
set_option maxRecDepth 20000 in
theorem emap83 (A : View) (x : Tr) (p : Nat) (hx : IsYn A x p) (hn : NE x) : VCalls Try.prog 83 #[ptr0 p] A fun r A' => r = .bool false ∧ A' = A := by
  obtain ⟨k, st, tag, val, an, h, l, f, row, col, al, kids, rfl⟩ := x.ex
  obtain ⟨cv, ps, hp, hrow, hpl, hyk⟩ := hx.open
  obtain ⟨cb, cc, rfl⟩ := hrow.form
  have c0 := cell_of (i := 0) hp rfl
  have c6 := cell_of (i := 6) hp rfl
  obtain ⟨-, -, -, h4⟩ := hn
  replace h4 : k = 4 → kids.length ≠ 0 := h4
  refine xcalls Try.func83 rfl (by simp [Try.ntmps83]) ?_
  simp only [Try.f83]
  have hP : Priv A (addrs []) := Priv.nil A
  show xc _ _ _ _ _ _ (ov A [])
  by_cases hk : k = 4
  · have h4z := h4 hk
    subst hk
    have h4n : ¬ kids = [] := fun e => h4z (by rw [e]; rfl)
    have h4i : ¬ (kids.length : Int) = 0 := by omega
    refine xc_two fun N1 hN1 => ?_
    refine xc_reg1 1 rfl fun K hK => ?_
    simp only [show (List.range 1).map (·, true) = [(0, true)] from rfl, rslv_cons, rslv_nil, List.getElem?_toArray, List.getElem?_cons_zero, List.getElem?_cons_succ, gres]
    (refine seqX_hide2 fun R hR => ?_; simp [go_sem, bc hP c0, bc hP c6, h4z, h4n, h4i]; refine hR _ _ _ ?_; clear hR R)
    rw [seqX_nil]
    refine hK _ _ _ ?_; clear hK K
    refine hN1 _ _ _ ?_
    refine xc_two fun N2 hN2 => ?_
    refine xc_reg1 18 rfl fun K hK => ?_
    simp only [show (List.range 18).map (·, true) = [(0, true), (1, true), (2, true), (3, true), (4, true), (5, true), (6, true), (7, true), (8, true), (9, true), (10, true), (11, true), (12, true), (13, true), (14, true), (15, true), (16, true), (17, true)] from rfl, rslv_cons, rslv_nil, List.getElem?_toArray, List.getElem?_cons_zero, List.getElem?_cons_succ, gres]
    iterate 18 (refine seqX_hide2 fun R hR => ?_; simp [go_sem, bc hP c0, bc hP c6, h4z, h4n, h4i]; refine hR _ _ _ ?_; clear hR R)
    rw [seqX_nil]
    refine hK _ _ _ ?_; clear hK K
    refine hN2 _ _ _ ?_
    simp [go_sem, bc hP c0, bc hP c6, h4z, h4n, h4i]
    rfl
  have hkb : (k == 4) = false := beq_eq_false_iff_ne.2 hk
  refine xc_two fun N1 hN1 => ?_
  refine xc_reg1 1 rfl fun K hK => ?_
  simp only [show (List.range 1).map (·, true) = [(0, true)] from rfl, rslv_cons, rslv_nil, List.getElem?_toArray, List.getElem?_cons_zero, List.getElem?_cons_succ, gres]
  (refine seqX_hide2 fun R hR => ?_; simp [go_sem, bc hP c0, bc hP c6, hk, hkb]; refine hR _ _ _ ?_; clear hR R)
  rw [seqX_nil]
  refine hK _ _ _ ?_; clear hK K
  refine hN1 _ _ _ ?_
  refine xc_two fun N2 hN2 => ?_
  refine xc_reg1 18 rfl fun K hK => ?_
  simp only [show (List.range 18).map (·, true) = [(0, true), (1, true), (2, true), (3, true), (4, true), (5, true), (6, true), (7, true), (8, true), (9, true), (10, true), (11, true), (12, true), (13, true), (14, true), (15, true), (16, true), (17, true)] from rfl, rslv_cons, rslv_nil, List.getElem?_toArray, List.getElem?_cons_zero, List.getElem?_cons_succ, gres]
  iterate 18 (refine seqX_hide2 fun R hR => ?_; simp [go_sem, bc hP c0, bc hP c6, hk, hkb]; refine hR _ _ _ ?_; clear hR R)
  rw [seqX_nil]
  refine hK _ _ _ ?_; clear hK K
  refine hN2 _ _ _ ?_
  simp [go_sem, bc hP c0, bc hP c6, hk, hkb]
  rfl
set_option maxRecDepth 20000 in
theorem eseq84 (A : View) (x : Tr) (p : Nat) (hx : IsYn A x p) (hn : NE x) : VCalls Try.prog 84 #[ptr0 p] A fun r A' => r = .bool false ∧ A' = A := by
  obtain ⟨k, st, tag, val, an, h, l, f, row, col, al, kids, rfl⟩ := x.ex
  obtain ⟨cv, ps, hp, hrow, hpl, hyk⟩ := hx.open
  have c0 := cell_of (i := 0) hp rfl
  have hk : k ≠ 2 := hn.2.1
  have hkb : (k == 2) = false := beq_eq_false_iff_ne.2 hk
  refine xcalls Try.func84 rfl (by simp [Try.ntmps84]) ?_
  simp only [Try.f84]
  have hP : Priv A (addrs []) := Priv.nil A
  show xc _ _ _ _ _ _ (ov A [])
  refine xc_two fun N1 hN1 => ?_
  refine xc_reg1 1 rfl fun K hK => ?_
  simp only [show (List.range 1).map (·, true) = [(0, true)] from rfl, rslv_cons, rslv_nil, List.getElem?_toArray, List.getElem?_cons_zero, List.getElem?_cons_succ, gres]
  (refine seqX_hide2 fun R hR => ?_; simp [go_sem, bc hP c0, hk, hkb]; refine hR _ _ _ ?_; clear hR R)
  rw [seqX_nil]
  refine hK _ _ _ ?_; clear hK K
  refine hN1 _ _ _ ?_
  refine xc_two fun N2 hN2 => ?_
  refine xc_reg1 18 rfl fun K hK => ?_
  simp only [show (List.range 18).map (·, true) = [(0, true), (1, true), (2, true), (3, true), (4, true), (5, true), (6, true), (7, true), (8, true), (9, true), (10, true), (11, true), (12, true), (13, true), (14, true), (15, true), (16, true), (17, true)] from rfl, rslv_cons, rslv_nil, List.getElem?_toArray, List.getElem?_cons_zero, List.getElem?_cons_succ, gres]
  iterate 18 (refine seqX_hide2 fun R hR => ?_; simp [go_sem, bc hP c0, hk, hkb]; refine hR _ _ _ ?_; clear hR R)
  rw [seqX_nil]
  refine hK _ _ _ ?_; clear hK K
  refine hN2 _ _ _ ?_
  simp [go_sem, bc hP c0, hk, hkb]
  rfl
set_option maxRecDepth 20000 in
theorem zero85 (A : View) (x : Tr) (p : Nat) (hx : IsYn A x p) (hn : NE x) : VCalls Try.prog 85 #[ptr0 p] A fun r A' => r = .bool false ∧ A' = A := by
  obtain ⟨k, st, tag, val, an, h, l, f, row, col, al, kids, rfl⟩ := x.ex
  obtain ⟨cv, ps, hp, hrow, hpl, hyk⟩ := hx.open
  have c0 := cell_of (i := 0) hp rfl
  have hk : k ≠ 0 := hn.1
  have hkb : (k == 0) = false := beq_eq_false_iff_ne.2 hk
  refine xcalls Try.func85 rfl (by simp [Try.ntmps85]) ?_
  simp only [Try.f85]
  have hP : Priv A (addrs []) := Priv.nil A
  show xc _ _ _ _ _ _ (ov A [])
  refine xc_two fun N1 hN1 => ?_
  refine xc_reg1 1 rfl fun K hK => ?_
  simp only [show (List.range 1).map (·, true) = [(0, true)] from rfl, rslv_cons, rslv_nil, List.getElem?_toArray, List.getElem?_cons_zero, List.getElem?_cons_succ, gres]
  (refine seqX_hide2 fun R hR => ?_; simp [go_sem, bc hP c0, hk, hkb]; refine hR _ _ _ ?_; clear hR R)
  rw [seqX_nil]
  refine hK _ _ _ ?_; clear hK K
  refine hN1 _ _ _ ?_
  refine xc_two fun N2 hN2 => ?_
  refine xc_reg1 87 rfl fun K hK => ?_
  simp only [show (List.range 87).map (·, true) = [(0, true), (1, true), (2, true), (3, true), (4, true), (5, true), (6, true), (7, true), (8, true), (9, true), (10, true), (11, true), (12, true), (13, true), (14, true), (15, true), (16, true), (17, true), (18, true), (19, true), (20, true), (21, true), (22, true), (23, true), (24, true), (25, true), (26, true), (27, true), (28, true), (29, true), (30, true), (31, true), (32, true), (33, true), (34, true), (35, true), (36, true), (37, true), (38, true), (39, true), (40, true), (41, true), (42, true), (43, true), (44, true), (45, true), (46, true), (47, true), (48, true), (49, true), (50, true), (51, true), (52, true), (53, true), (54, true), (55, true), (56, true), (57, true), (58, true), (59, true), (60, true), (61, true), (62, true), (63, true), (64, true), (65, true), (66, true), (67, true), (68, true), (69, true), (70, true), (71, true), (72, true), (73, true), (74, true), (75, true), (76, true), (77, true), (78, true), (79, true), (80, true), (81, true), (82, true), (83, true), (84, true), (85, true), (86, true)] from rfl, rslv_cons, rslv_nil, List.getElem?_toArray, List.getElem?_cons_zero, List.getElem?_cons_succ, gres]
  iterate 87 (refine seqX_hide2 fun R hR => ?_; simp [go_sem, bc hP c0, hk, hkb]; refine hR _ _ _ ?_; clear hR R)
  rw [seqX_nil]
  refine hK _ _ _ ?_; clear hK K
  refine hN2 _ _ _ ?_
  simp [go_sem, bc hP c0, hk, hkb]
  rfl
set_option maxRecDepth 20000 in
theorem empty69 (A : View) (x : Tr) (p : Nat) (hx : IsYn A x p) (hn : NE x) : VCalls Try.prog 69 #[ptr0 p] A fun r A' => r = .bool false ∧ A' = A := by
  refine xcalls Try.func69 rfl (by simp [Try.ntmps69]) ?_
  simp only [Try.f69]
  have hP : Priv A (addrs []) := Priv.nil A
  show xc _ _ _ _ _ _ (ov A [])
  refine xc_two fun N1 hN1 => ?_
  refine xc_reg1 1 rfl fun K hK => ?_
  simp only [show (List.range 1).map (·, true) = [(0, true)] from rfl, rslv_cons, rslv_nil, List.getElem?_toArray, List.getElem?_cons_zero, List.getElem?_cons_succ, gres]
  (refine seqX_hide2 fun R hR => ?_; simp [go_sem]; refine hR _ _ _ ?_; clear hR R)
  rw [seqX_nil]
  refine hK _ _ _ ?_; clear hK K
  refine hN1 _ _ _ ?_
  refine xc_two fun N2 hN2 => ?_
  refine xc_reg1 19 rfl fun K hK => ?_
  simp only [show (List.range 19).map (·, true) = [(0, true), (1, true), (2, true), (3, true), (4, true), (5, true), (6, true), (7, true), (8, true), (9, true), (10, true), (11, true), (12, true), (13, true), (14, true), (15, true), (16, true), (17, true), (18, true)] from rfl, rslv_cons, rslv_nil, List.getElem?_toArray, List.getElem?_cons_zero, List.getElem?_cons_succ, gres]
  iterate 4 (refine seqX_hide2 fun R hR => ?_; simp [go_sem]; refine hR _ _ _ ?_; clear hR R)
  refine seqX_hide2 fun R hR => ?_
  simp [go_sem]
  refine call_same hP (tnull82 A x p hx hn) ?_
  rintro _ rfl
  refine hR _ _ _ ?_; clear hR R
  iterate 3 (refine seqX_hide2 fun R hR => ?_; simp [go_sem]; refine hR _ _ _ ?_; clear hR R)
  refine seqX_hide2 fun R hR => ?_
  simp [go_sem]
  refine call_same hP (emap83 A x p hx hn) ?_
  rintro _ rfl
  refine hR _ _ _ ?_; clear hR R
  iterate 3 (refine seqX_hide2 fun R hR => ?_; simp [go_sem]; refine hR _ _ _ ?_; clear hR R)
  refine seqX_hide2 fun R hR => ?_
  simp [go_sem]
  refine call_same hP (eseq84 A x p hx hn) ?_
  rintro _ rfl
  refine hR _ _ _ ?_; clear hR R
  iterate 3 (refine seqX_hide2 fun R hR => ?_; simp [go_sem]; refine hR _ _ _ ?_; clear hR R)
  refine seqX_hide2 fun R hR => ?_
  simp [go_sem]
  refine call_same hP (zero85 A x p hx hn) ?_
  rintro _ rfl
  refine hR _ _ _ ?_; clear hR R
  iterate 2 (refine seqX_hide2 fun R hR => ?_; simp [go_sem]; refine hR _ _ _ ?_; clear hR R)
  rw [seqX_nil]
  refine hK _ _ _ ?_; clear hK K
  refine hN2 _ _ _ ?_
  simp [go_sem]
  rfl
/-- The variable holds the value's node. -/
def KeptN (b6 : Nat) (x : Tr) (A : View) : Prop := ∃ vp, A b6 = some (.cells #[ptr0 vp] 67 (0, 0)) ∧ IsYn A x vp
set_option maxRecDepth 20000 in
theorem keep66 (b6 : Nat) : CB 66 b6 (.cells #[.pointer none] 67 (0, 0)) (fun _ => True) (KeptN b6) := by
  refine ⟨by kernel_rfl, ?_⟩
  intro A0 A x kp vp hle h0 h6 hx _
  refine xcalls Try.func66 rfl (by simp [Try.ntmps66]) ?_
  simp only [Try.f66]
  have hP : Priv A (addrs []) := Priv.nil A
  show xc _ _ _ _ _ _ (ov A [])
  have hs := cstore (L := []) hP ti67 h6 (u := ptr0 vp) rfl
  have hsa := hs.1
  refine xc_reg1 2 rfl fun K hK => ?_
  simp only [show (List.range 2).map (·, true) = [(0, true), (1, true)] from rfl, rslv_cons, rslv_nil, List.getElem?_toArray, List.getElem?_cons_zero, List.getElem?_cons_succ, gres]
  (refine seqX_hide2 fun R hR => ?_; simp [go_sem, hsa]; refine hR _ _ _ ?_; clear hR R)
  refine seqX_hide2 fun R hR => ?_
  simp [go_sem, hsa]
  refine hR _ _ _ ?_; clear hR R
  rw [seqX_nil]
  refine hK _ _ _ ?_; clear hK K
  simp [go_sem, hsa]
  have l2 : A0 ≤ A.set b6 (.cells #[ptr0 vp] 67 (0, 0)) := le_set0 hle h0
  exact ⟨l2, vp, set_at _ _ _, hx.le l2⟩
set_option maxRecDepth 20000 in
theorem keep81 (b6 : Nat) : CB 81 b6 (.cells #[.pointer none] 67 (0, 0)) NE (KeptN b6) := by
  refine ⟨by kernel_rfl, ?_⟩
  intro A0 A x kp vp hle h0 h6 hx hok
  refine xcalls Try.func81 rfl (by simp [Try.ntmps81]) ?_
  simp only [Try.f81]
  have hP : Priv A (addrs []) := Priv.nil A
  show xc _ _ _ _ _ _ (ov A [])
  refine xc_two fun N1 hN1 => ?_
  refine xc_reg1 3 rfl fun K hK => ?_
  simp only [show (List.range 3).map (·, true) = [(0, true), (1, true), (2, true)] from rfl, rslv_cons, rslv_nil, List.getElem?_toArray, List.getElem?_cons_zero, List.getElem?_cons_succ, gres]
  (refine seqX_hide2 fun R hR => ?_; simp [go_sem]; refine hR _ _ _ ?_; clear hR R)
  refine seqX_hide2 fun R hR => ?_
  simp [go_sem]
  refine call_same hP (empty69 A x vp (hx.le hle) hok) ?_
  rintro _ rfl
  have hs := cstore (L := []) hP ti67 h6 (u := ptr0 vp) rfl
  have hsa := hs.1
  refine hR _ _ _ ?_; clear hR R
  (refine seqX_hide2 fun R hR => ?_; simp [go_sem, hsa]; refine hR _ _ _ ?_; clear hR R)
  rw [seqX_nil]
  refine hK _ _ _ ?_; clear hK K
  refine hN1 _ _ _ ?_
  refine xc_iftrue (by simp [go_sem, hsa]) ?_
  refine xc_reg1 2 rfl fun K hK => ?_
  simp only [show (List.range 2).map (·, true) = [(0, true), (1, true)] from rfl, rslv_cons, rslv_nil, List.getElem?_toArray, List.getElem?_cons_zero, List.getElem?_cons_succ, gres]
  (refine seqX_hide2 fun R hR => ?_; simp [go_sem, hsa]; refine hR _ _ _ ?_; clear hR R)
  refine seqX_hide2 fun R hR => ?_
  simp [go_sem, hsa]
  refine hR _ _ _ ?_; clear hR R
  rw [seqX_nil]
  refine hK _ _ _ ?_; clear hK K
  simp [go_sem, hsa]
  have l2 : A0 ≤ A.set b6 (.cells #[ptr0 vp] 67 (0, 0)) := le_set0 hle h0
  exact ⟨l2, vp, set_at _ _ _, hx.le l2⟩
set_option maxRecDepth 20000 in
theorem keep68 (b6 : Nat) : CB 68 b6 (.cells #[.string e0] 9 (0, 0)) NE (fun x A => A b6 = some (.cells #[.string x.value] 9 (0, 0))) := by
  refine ⟨by kernel_rfl, ?_⟩
  intro A0 A x kp vp hle h0 h6 hx hok
  have hx' := hx.le hle
  obtain ⟨k, st, tag, val, an, h, l, f, row, col, al, kids, rfl⟩ := x.ex
  obtain ⟨cv, ps, hp, hrow, hpl, hyk⟩ := hx'.open
  have c3 := cell_of (i := 3) hp rfl
  refine xcalls Try.func68 rfl (by simp [Try.ntmps68]) ?_
  simp only [Try.f68]
  have hP : Priv A (addrs []) := Priv.nil A
  show xc _ _ _ _ _ _ (ov A [])
  refine xc_two fun N1 hN1 => ?_
  refine xc_reg1 3 rfl fun K hK => ?_
  simp only [show (List.range 3).map (·, true) = [(0, true), (1, true), (2, true)] from rfl, rslv_cons, rslv_nil, List.getElem?_toArray, List.getElem?_cons_zero, List.getElem?_cons_succ, gres]
  (refine seqX_hide2 fun R hR => ?_; simp [go_sem]; refine hR _ _ _ ?_; clear hR R)
  refine seqX_hide2 fun R hR => ?_
  simp [go_sem]
  refine call_same hP (empty69 A _ vp (hx.le hle) hok) ?_
  rintro _ rfl
  have hs := cstore (L := []) hP ti9 h6 (u := .string val) rfl
  have hsa := hs.1
  refine hR _ _ _ ?_; clear hR R
  (refine seqX_hide2 fun R hR => ?_; simp [go_sem, hsa, bc hP c3]; refine hR _ _ _ ?_; clear hR R)
  rw [seqX_nil]
  refine hK _ _ _ ?_; clear hK K
  refine hN1 _ _ _ ?_
  refine xc_iftrue (by simp [go_sem, hsa, bc hP c3]) ?_
  refine xc_reg1 5 rfl fun K hK => ?_
  simp only [show (List.range 5).map (·, true) = [(0, true), (1, true), (2, true), (3, true), (4, true)] from rfl, rslv_cons, rslv_nil, List.getElem?_toArray, List.getElem?_cons_zero, List.getElem?_cons_succ, gres]
  iterate 4 (refine seqX_hide2 fun R hR => ?_; simp [go_sem, hsa, bc hP c3]; refine hR _ _ _ ?_; clear hR R)
  refine seqX_hide2 fun R hR => ?_
  simp [go_sem, hsa, bc hP c3]
  refine hR _ _ _ ?_; clear hR R
  rw [seqX_nil]
  refine hK _ _ _ ?_; clear hK K
  simp [go_sem, hsa, bc hP c3]
  have l2 : A0 ≤ A.set b6 (.cells #[.string val] 9 (0, 0)) := le_set0 hle h0
  exact ⟨l2, set_at _ _ _⟩
end Go.Proofs.YthjbgpmcfcijgaaV

/- Trees: the package's nodes; impl.bare. -/
import Derived.Test.YtpinamipjddobaaKE
namespace Go.Proofs.YtpinamipjddobaaV
open Go.RowKit
set_option linter.unusedSimpArgs false
set_option linter.unusedVariables false
abbrev ptr0 (p : Nat) : Value := .pointer (some ⟨p, 0, none⟩)
abbrev ync (k st : Int) (tag val an : ByteArray) (cv : Value) (h l f : ByteArray) (row col : Int) : Array Value := #[.int .u32 k, .int .u32 (st % 64), .string tag, .string val, .string an, .pointer none, cv, .string h, .string l, .string f, .int .i64 row, .int .i64 col]
/-- A node of the package's, and what lies in it. -/
def IsYn (A : View) : Tr → Nat → Prop
  | .mk k st tag val an h l f row col _ kids, p => ∃ (cv : Value) (ps : List Nat), A p = some (.cells (ync k st tag val an cv h l f row col) 114 (0, 0)) ∧ Row A 1 cv kids.length (ps.map ptr0) ∧ ps.length = kids.length ∧
      ∀ j (hj : j < kids.length), ∃ q, ps[j]? = some q ∧ IsYn A (kids[j]) q
termination_by v => SizeOf.sizeOf v
decreasing_by
  have := List.sizeOf_lt_of_mem (List.getElem_mem hj)
  simp
  omega
theorem IsYn.le {A B : View} (hle : A ≤ B) : ∀ (v : Tr) (p : Nat), IsYn A v p → IsYn B v p
  | .mk k st tag val an h l f row col al kids, p, hh => by
    rw [IsYn] at hh ⊢
    obtain ⟨cv, ps, h1, h2, h3, h4⟩ := hh
    refine ⟨cv, ps, hle _ _ h1, h2.le hle, h3, fun j hj => ?_⟩
    obtain ⟨q, h5, h6⟩ := h4 j hj
    exact ⟨q, h5, IsYn.le hle _ _ h6⟩
termination_by v => SizeOf.sizeOf v
decreasing_by
  have := List.sizeOf_lt_of_mem (List.getElem_mem hj)
  simp
  omega
theorem nds_mem : ∀ {l : List Tr} {t : Tr}, t ∈ l → nds t ≤ (l.map nds).sum
  | a :: l, t, h => by
    simp only [List.map_cons, List.sum_cons]
    rcases List.mem_cons.1 h with h | h
    · subst h; omega
    · have := nds_mem h; omega
/-- A tree of kyaml nodes whose topmost node, with its content's list, is new: what lies beneath stands in B. -/
def TopY (A A' : View) : Tr → Nat → Prop
  | .mk k st tag val an h l f row col al kids, p => ∃ (B : View) (cv : Value) (ps : List Nat), A ≤ B ∧ B ≤ A' ∧ B p = none ∧ A' p = some (.cells (ync k st tag val an cv h l f row col) 114 (0, 0)) ∧
      Own B A' 90 1 cv kids.length (ps.map ptr0) ∧ blockOf cv ≠ some p ∧ ps.length = kids.length ∧ ∀ j (hj : j < kids.length), ∃ q, ps[j]? = some q ∧ IsYn B (kids[j]) q
theorem TopY.le {A A' : View} {t : Tr} {p : Nat} (h : TopY A A' t p) : A ≤ A' := by
  obtain ⟨k, st, tag, val, an, hh, l, f, row, col, al, kids⟩ := t
  obtain ⟨B, cv, ps, h1, h2, -⟩ := h
  exact View.le_trans h1 h2
theorem TopY.yn {A A' : View} {t : Tr} {p : Nat} (h : TopY A A' t p) : IsYn A' t p := by
  obtain ⟨k, st, tag, val, an, hh, l, f, row, col, al, kids⟩ := t
  obtain ⟨B, cv, ps, h1, h2, h3, h4, h5, h6, h7, h8⟩ := h
  rw [IsYn]
  exact ⟨cv, ps, h4, h5.row, h7, fun j hj => let ⟨q, e1, e2⟩ := h8 j hj; ⟨q, e1, IsYn.le h2 _ _ e2⟩⟩
theorem TopY.grow {A0 A A' A'' : View} {t : Tr} {p : Nat} (h : TopY A A' t p) (h0 : A0 ≤ A) (h1 : A' ≤ A'') : TopY A0 A'' t p := by
  obtain ⟨k, st, tag, val, an, hh, l, f, row, col, al, kids⟩ := t
  obtain ⟨B, cv, ps, e1, e2, e3, e4, e5, e6, e7, e8⟩ := h
  exact ⟨B, cv, ps, View.le_trans h0 e1, View.le_trans e2 h1, e3, h1 _ _ e4, e5.le h1, e6, e7, e8⟩
theorem and63 {st : Int} (h : st % 64 = st) : IntKind.i64.wrap (((BitVec.ofInt IntKind.i64.bits st &&& BitVec.ofInt IntKind.i64.bits 63).toNat : Nat) : Int) = st % 64 := by
  have key : ∀ n : Fin 64, IntKind.i64.wrap (((BitVec.ofInt IntKind.i64.bits (n.val : Int) &&& BitVec.ofInt IntKind.i64.bits 63).toNat : Nat) : Int) = (n.val : Int) % 64 := by decide
  have h0 : 0 ≤ st := by omega
  have h1 : st < 64 := by omega
  obtain ⟨n, rfl⟩ := Int.eq_ofNat_of_zero_le h0
  exact key ⟨n, by omega⟩
theorem conv63 (k : Int) : xconv Try.prog 3 71 (.int .i64 k) = some (.int .u32 (IntKind.u32.wrap k)) := by
  kernel_rfl
theorem wrap63 {st : Int} (h : st % 64 = st) : IntKind.u32.wrap (st % 64) = st % 64 := by
  have key : ∀ n : Fin 64, IntKind.u32.wrap ((n.val : Int) % 64) = (n.val : Int) % 64 := by decide
  have h0 : 0 ≤ st := by omega
  have h1 : st < 64 := by omega
  obtain ⟨n, rfl⟩ := Int.eq_ofNat_of_zero_le h0
  exact key ⟨n, by omega⟩
set_option maxRecDepth 20000 in
set_option maxHeartbeats 16000000 in
theorem bare44 (t : Tr) : ∀ (lv : Nat) (A : View) (c : Array Value), IsTr A t c → PT lv t → nds t ≤ 1000000 →
    VCalls Try.prog 84 #[.agg c] A fun r A' => ∃ p, r = ptr0 p ∧ TopY A A' t p := by
  induction hsz : SizeOf.sizeOf t using Nat.strongRecOn generalizing t with
  | _ N0 ih =>
  intro lv A c hc hpl hnd
  subst hsz
  obtain ⟨k, st, tag, val, an, h, l, f, row, col, al, kids⟩ := t
  have ihk : ∀ x ∈ kids, ∀ (lv : Nat) (A : View) (c : Array Value), IsTr A x c → PT lv x → nds x ≤ 1000000 →
    VCalls Try.prog 84 #[.agg c] A fun r A' => ∃ p, r = ptr0 p ∧ IsYn A' x p ∧ A ≤ A' := fun x hx lv A c h1 h2 h3 => (ih _ (by
      have := List.sizeOf_lt_of_mem hx
      simp
      omega) x rfl lv A c h1 h2 h3).mono fun _ _ ⟨p, e, ht⟩ => ⟨p, e, ht.yn, ht.le⟩
  clear ih
  rw [PT] at hpl
  obtain ⟨hlv, ⟨hst, hal⟩, hkk, hpk⟩ := hpl
  have hk : k = 2 ∨ k = 4 ∨ k = 8 := by
    rcases hkk with h | h | h
    · exact .inr (.inr h)
    · exact .inl h
    · exact .inr (.inl h)
  subst hal
  rw [nds_mk] at hnd
  have hkl := nds_len kids
  have hcz := hc.size
  have hco := hc.ones
  obtain ⟨bs, cap, rfl, hT⟩ := hc.open
  have hand := and63 hst
  have hcs := conv63 (st % 64)
  have hwu := wrap63 hst
  refine xcalls Try.func84 rfl (by simp [Try.ntmps84]) ?_
  simp only [Try.f84]
  have hP : Priv A (addrs []) := Priv.nil A
  show xc _ _ _ _ _ _ (ov A [])
  refine xc_two fun N1 hN1 => ?_
  refine xc_reg2 fun K hK => ?_
  simp only [rall, rsl, gres]
  refine seqX_hide2 fun R hR => ?_
  simp [go_sem, hcz, hco, ↓hand, hcs, hwu]
  intro q1 hq1
  replace hP := hP.cons hq1
  clear hq1
  refine hR _ _ _ ?_; clear hR R
  (refine seqX_hide2 fun R hR => ?_; simp [go_sem, hcz, hco, ↓hand, hcs, hwu]; refine hR _ _ _ ?_; clear hR R)
  rw [seqX_nil]
  refine hK _ _ _ ?_; clear hK K
  refine hN1 _ _ _ ?_
  refine xc_two fun N2 hN2 => ?_
  refine xc_reg2 fun K hK => ?_
  simp only [rall, rsl, gres]
  iterate 3 (refine seqX_hide2 fun R hR => ?_; simp [go_sem, hcz, hco, ↓hand, hcs, hwu]; refine hR _ _ _ ?_; clear hR R)
  refine seqX_hide2 fun R hR => ?_
  simp [go_sem, hcz, hco, ↓hand, hcs, hwu]
  refine hR _ _ _ ?_; clear hR R
  iterate 17 (refine seqX_hide2 fun R hR => ?_; simp [go_sem, hcz, hco, ↓hand, hcs, hwu]; refine hR _ _ _ ?_; clear hR R)
  refine seqX_hide2 fun R hR => ?_
  simp [go_sem, hcz, hco, ↓hand, hcs, hwu]
  intro q26 hq26
  replace hP := hP.cons hq26
  clear hq26
  have d261 : q26 ≠ q1 := (hP.ne q1 (by simp [addrs])).1
  have d126 : q1 ≠ q26 := (hP.ne q1 (by simp [addrs])).2
  refine hR _ _ _ ?_; clear hR R
  (refine seqX_hide2 fun R hR => ?_; simp [go_sem, hcz, hco, ↓hand, hcs, hwu, d261, d126]; refine hR _ _ _ ?_; clear hR R)
  rw [seqX_nil]
  refine hK _ _ _ ?_; clear hK K
  refine hN2 _ _ _ ?_
  refine xc_two fun N3 hN3 => ?_
  refine xc_two fun N4 hN4 => ?_
  refine xc_reg2 fun K hK => ?_
  simp only [rall, rsl, gres]
  iterate 2 (refine seqX_hide2 fun R hR => ?_; simp [go_sem, hcz, hco, ↓hand, hcs, hwu, d261, d126]; refine hR _ _ _ ?_; clear hR R)
  rw [seqX_nil]
  refine hK _ _ _ ?_; clear hK K
  refine hN4 _ _ _ ?_
  rw [xc_block]
  refine xc_two fun N5 hN5 => ?_
  refine xc_two fun N6 hN6 => ?_
  refine xc_reg2 fun K hK => ?_
  simp only [rall, rsl, gres]
  iterate 2 (refine seqX_hide2 fun R hR => ?_; simp [go_sem, hcz, hco, ↓hand, hcs, hwu, d261, d126]; refine hR _ _ _ ?_; clear hR R)
  rw [seqX_nil]
  refine hK _ _ _ ?_; clear hK K
  refine hN6 _ _ _ ?_
  have lp : ∀  (e : Env), Priv A [q26, q1] → e 1 = .pointer (some ⟨q1, 0, none⟩) → e 3 = .pointer (some ⟨q26, 0, none⟩) → N3 e [] (ov A [(q26, .cells (ync k st tag val an (.slice none 0 0) h l f row col) 114 (0, 0)), (q1, .cells (trc k st tag val an h l f row col (-1) (.slice bs kids.length cap)) 24 (0, 0))]) := by
    clear hP
    intro e hP g1 g3
    refine hN3 _ _ _ ?_
    refine xc_two fun N7 hN7 => ?_
    refine xc_two fun N8 hN8 => ?_
    refine xc_reg2 fun K hK => ?_
    simp only [rall, rsl, gres]
    iterate 4 (refine seqX_hide2 fun R hR => ?_; simp [go_sem, hcz, hco, ↓hand, hcs, hwu, d261, d126, g1, g3]; refine hR _ _ _ ?_; clear hR R)
    rw [seqX_nil]
    refine hK _ _ _ ?_; clear hK K
    refine hN8 _ _ _ ?_
    rw [xc_block]
    rw [xc_loop]
    refine vloopK (fun k' e ds A' => ∃ (i : Nat) (D : View) (cv : Value) (ps : List Nat), k' = kids.length - i ∧ ds = [] ∧ A' = ov D [(q26, .cells (ync k st tag val an cv h l f row col) 114 (0, 0)), (q1, .cells (trc k st tag val an h l f row col (-1) (.slice bs kids.length cap)) 24 (0, 0))] ∧ Priv D [q26, q1] ∧ e 1 = .pointer (some ⟨q1, 0, none⟩) ∧ e 3 = .pointer (some ⟨q26, 0, none⟩) ∧ e 46 = .slice bs kids.length cap ∧ e 47 = .int .i64 kids.length ∧ e 48 = .int .i64 i ∧ (i ≤ kids.length) ∧ (A ≤ eraseB D cv) ∧ (Own (eraseB D cv) D 90 1 cv i (ps.map ptr0)) ∧ (ps.length = i) ∧ (∀ j (hj : j < kids.length), j < i → ∃ q, ps[j]? = some q ∧ IsYn (eraseB D cv) kids[j] q)) _ ⟨0, A, .slice none 0 0, [], rfl, rfl, rfl, hP, by simp [go_sem, hcz, hco, ↓hand, hcs, hwu, d261, d126, g1, g3], by simp [go_sem, hcz, hco, ↓hand, hcs, hwu, d261, d126, g1, g3], by simp [go_sem, hcz, hco, ↓hand, hcs, hwu, d261, d126, g1, g3], by simp [go_sem, hcz, hco, ↓hand, hcs, hwu, d261, d126, g1, g3], by simp [go_sem, hcz, hco, ↓hand, hcs, hwu, d261, d126, g1, g3], by omega, View.le_refl _, Own.nil _ _ _ _, rfl, fun j hj h => by omega⟩ ?_
    clear g1 g3
    clear hP
    rintro k' e ds _ ⟨i, D, cv, ps, rfl, rfl, rfl, hP, g1, g3, g46, g47, g48, hil, hAD, hO, hpl, hyn⟩ J1 X1 hJ1 hX1
    refine xc_sound _ ?_
    have hw1 : IntKind.i64.wrap ((i : Int) + 1) = ((i + 1 : Nat) : Int) := by rw [wrap_in (by omega) (by omega)]; omega
    by_cases hi : i < kids.length
    rotate_left
    · have hie : i = kids.length := by omega
      refine xc_two fun N9 hN9 => ?_
      refine xc_reg2 fun K hK => ?_
      simp only [rall, rsl, gres]
      (refine seqX_hide2 fun R hR => ?_; simp [go_sem, hcz, hco, ↓hand, hcs, hwu, d261, d126, g1, g3, g46, g47, g48, hi]; refine hR _ _ _ ?_; clear hR R)
      rw [seqX_nil]
      refine hK _ _ _ ?_; clear hK K
      refine hN9 _ _ _ ?_
      refine xc_two fun N10 hN10 => ?_
      refine xc_iffalse (by simp [go_sem, hcz, hco, ↓hand, hcs, hwu, d261, d126, g1, g3, g46, g47, g48, hi]) ?_
      refine hX1 _ _ _ _ ?_
      refine hN7 _ _ _ ?_
      refine xc_two fun N11 hN11 => ?_
      refine xc_reg2 fun K hK => ?_
      simp only [rall, rsl, gres]
      iterate 2 (refine seqX_hide2 fun R hR => ?_; simp [go_sem, hcz, hco, ↓hand, hcs, hwu, d261, d126, g1, g3, g46, g47, g48, hi]; refine hR _ _ _ ?_; clear hR R)
      rw [seqX_nil]
      refine hK _ _ _ ?_; clear hK K
      refine hN11 _ _ _ ?_
      simp [go_sem, hcz, hco, ↓hand, hcs, hwu, d261, d126, g1, g3, g46, g47, g48, hi]
      refine ⟨eraseB D cv, cv, ps, hAD, View.le_trans (eraseB_le D cv) ?_, none_le (eraseB_le D cv) hP.1, ov_at_here _ _ _ _, ?_, ?_, by show ps.length = kids.length; omega, fun j hj => hyn j hj (by have : j < kids.length := hj; omega)⟩
      · exact le_ov hP
      · rw [← hie]; exact hO.le (le_ov hP)
      · exact own_block hO hP.1
    obtain ⟨bs', cap', f1, hel⟩ := hT
    simp only [Value.slice.injEq, true_and] at f1
    obtain ⟨rfl, rfl⟩ := f1
    obtain ⟨a, ci, rfl, u0, hci0⟩ := hel i hi
    have hx := List.getElem_mem hi
    have hpk1 := hpk i hi
    have hnk : nds kids[i] ≤ 1000000 := by
      have : nds kids[i] ≤ (kids.map nds).sum := nds_mem hx
      omega
    have hii : (i : Int) < kids.length := by omega
    have u1e := le_cells hAD _ _ _ u0
    have u1 := le_cells (eraseB_le D cv) _ _ _ u1e
    have hci := hci0.le hAD
    have hcz := hci.size
    have hco := hci.ones
    obtain ⟨vb, vc, rfl⟩ := hO.shape
    have hPe : Priv (eraseB D (.slice vb i vc)) [q26, q1] := hP.anti (fun b _ h => none_le (eraseB_le D (.slice vb i vc)) h)
    refine xc_two fun N9 hN9 => ?_
    refine xc_reg2 fun K hK => ?_
    simp only [rall, rsl, gres]
    (refine seqX_hide2 fun R hR => ?_; simp [go_sem, hcz, hco, ↓hand, hcs, hwu, d261, d126, g1, g3, g46, g47, g48, hi, hii, hw1, bcs hP u1, bcs hPe u1e]; refine hR _ _ _ ?_; clear hR R)
    rw [seqX_nil]
    refine hK _ _ _ ?_; clear hK K
    refine hN9 _ _ _ ?_
    refine xc_two fun N10 hN10 => ?_
    refine xc_iftrue (by simp [go_sem, hcz, hco, ↓hand, hcs, hwu, d261, d126, g1, g3, g46, g47, g48, hi, hii, hw1, bcs hP u1, bcs hPe u1e]) ?_
    refine hN10 _ _ _ ?_
    refine xc_two fun N11 hN11 => ?_
    rw [xc_block]
    refine xc_two fun N12 hN12 => ?_
    refine xc_reg2 fun K hK => ?_
    simp only [rall, rsl, gres]
    iterate 2 (refine seqX_hide2 fun R hR => ?_; simp [go_sem, hcz, hco, ↓hand, hcs, hwu, d261, d126, g1, g3, g46, g47, g48, hi, hii, hw1, bcs hP u1, bcs hPe u1e]; refine hR _ _ _ ?_; clear hR R)
    rw [seqX_nil]
    refine hK _ _ _ ?_; clear hK K
    refine hN12 _ _ _ ?_
    rw [xc_draws]
    refine vdrawK [(0, true), (1, true), (2, true), (3, true), (4, true), (5, true), (6, true), (7, true), (8, true), (9, true), (10, true), (11, true), (12, false), (13, true), (14, true), (15, false)] (ov (eraseB D (.slice vb i vc)) [(q26, .cells (ync k st tag val an (.slice vb i vc) h l f row col) 114 (0, 0)), (q1, .cells (trc k st tag val an h l f row col (-1) (.slice (some a) kids.length cap)) 24 (0, 0))]) mixed (by kernel_rfl) (ov_mono (eraseB_le _ _)) fun K hK => ?_
    simp only [rsl, gres]
    iterate 10 (refine seqR_hide fun R hR => ?_; simp [go_sem, hcz, hco, ↓hand, hcs, hwu, d261, d126, g1, g3, g46, g47, g48, hi, hii, hw1, bcs hP u1, bcs hPe u1e]; refine hR _ _ _ ?_; clear hR R)
    refine seqR_hide fun R hR => ?_
    simp [go_sem, hcz, hco, ↓hand, hcs, hwu, d261, d126, g1, g3, g46, g47, g48, hi, hii, hw1, bcs hP u1, bcs hPe u1e]
    refine call_sub hP (eraseB_le D (.slice vb i vc)) (ihk _ hx (lv - 1) (eraseB D (.slice vb i vc)) ci hci hpk1 hnk) ?_
    clear hP
    rintro _ E D3 ⟨p, rfl, hyp, hAE⟩ hED hKp hmono hP
    have hDD := hmono hAE
    have hE3 := keep_erase hO hED hKp
    have hO3 := own_rebase (hO.le hDD)
    refine ⟨ov_mono (View.le_trans hAE hED), hR _ _ _ ?_⟩; clear hR R
    refine seqR_hide fun R hR => ?_
    simp [go_sem, hcz, hco, ↓hand, hcs, hwu, d261, d126, g1, g3, g46, g47, g48, hi, hii, hw1]
    intro q62 hq62
    replace hP := hP.cons hq62
    clear hq62
    have d6226 : q62 ≠ q26 := (hP.ne q26 (by simp [addrs])).1
    have d2662 : q26 ≠ q62 := (hP.ne q26 (by simp [addrs])).2
    have d621 : q62 ≠ q1 := (hP.ne q1 (by simp [addrs])).1
    have d162 : q1 ≠ q62 := (hP.ne q1 (by simp [addrs])).2
    refine hR _ _ _ ?_; clear hR R
    refine seqR_hide fun R hR => ?_
    simp [go_sem, hcz, hco, ↓hand, hcs, hwu, d261, d126, g1, g3, g46, g47, g48, hi, hii, hw1, d6226, d2662, d621, d162]
    refine append_ov (cs := [ptr0 p]) (m := 1) hP ti100 ti100 (fun k => by simp) ti90 rfl (by decide) hO3 (eraseB_le _ _) (by simp [appended, View.cells?, go_sem]) (by simp [isStr]) (fun v hv => by rw [List.mem_singleton] at hv; subst hv; rfl) (by omega) ?_
    clear hP
    rintro v4 D4 h4 hO4 h4e hP
    obtain ⟨wb, wc, rfl⟩ := hO4.shape
    refine hR _ _ _ ?_; clear hR R
    iterate 2 (refine seqR_hide fun R hR => ?_; simp [go_sem, hcz, hco, ↓hand, hcs, hwu, d261, d126, g1, g3, g46, g47, g48, hi, hii, hw1, d6226, d2662, d621, d162]; refine hR _ _ _ ?_; clear hR R)
    refine seqR_hide fun R hR => ?_
    simp [go_sem, hcz, hco, ↓hand, hcs, hwu, d261, d126, g1, g3, g46, g47, g48, hi, hii, hw1, d6226, d2662, d621, d162]
    refine hR _ _ _ ?_; clear hR R
    rw [seqR_nil]
    refine hK _ _ _ ?_; clear hK K
    refine hN11 _ _ _ ?_
    refine xc_reg2 fun K hK => ?_
    simp only [rall, rsl, gres]
    iterate 2 (refine seqX_hide2 fun R hR => ?_; simp [go_sem, hcz, hco, ↓hand, hcs, hwu, d261, d126, g1, g3, g46, g47, g48, hi, hii, hw1, d6226, d2662, d621, d162]; refine hR _ _ _ ?_; clear hR R)
    rw [seqX_nil]
    refine hK _ _ _ ?_; clear hK K
    refine sink_goal 0 hP rfl fun hPn lq62 nq62 => ?_
    clear hP; have hP := hPn; clear hPn
    simp only [List.eraseIdx_cons_zero, List.eraseIdx_cons_succ, addrs_cons, addrs_nil] at hP ⊢
    have hE5 := View.le_trans h4e (eraseB_mono lq62 (.slice wb (i + 1) wc))
    have hE6 := View.le_trans hAE (View.le_trans hE3 hE5)
    have hyn2 : ∀ j (hj : j < kids.length), j < i + 1 → ∃ q, (ps ++ [p])[j]? = some q ∧ IsYn (eraseB (D4.set q62 (.cells #[ptr0 p] 90 (0, 0))) (.slice wb (i + 1) wc)) kids[j] q := fun j hj h => by
      rcases Nat.lt_or_eq_of_le (Nat.le_of_lt_succ h) with h2 | h2
      · obtain ⟨q, k1, k2⟩ := hyn j hj h2
        exact ⟨q, by rw [List.getElem?_append_left (by omega)]; exact k1, IsYn.le hE6 _ _ k2⟩
      · subst h2
        exact ⟨p, by rw [← hpl]; simp, IsYn.le (View.le_trans hE3 hE5) _ _ hyp⟩
    refine hJ1 (kids.length - (i + 1)) _ _ _ (by omega) ⟨i + 1, _, .slice wb (i + 1) wc, ps ++ [p], rfl, rfl, rfl, hP, by simp [go_sem, hcz, hco, ↓hand, hcs, hwu, d261, d126, g1, g3, g46, g47, g48, hi, hii, hw1, d6226, d2662, d621, d162], by simp [go_sem, hcz, hco, ↓hand, hcs, hwu, d261, d126, g1, g3, g46, g47, g48, hi, hii, hw1, d6226, d2662, d621, d162], by simp [go_sem, hcz, hco, ↓hand, hcs, hwu, d261, d126, g1, g3, g46, g47, g48, hi, hii, hw1, d6226, d2662, d621, d162], by simp [go_sem, hcz, hco, ↓hand, hcs, hwu, d261, d126, g1, g3, g46, g47, g48, hi, hii, hw1, d6226, d2662, d621, d162], by simp [go_sem, hcz, hco, ↓hand, hcs, hwu, d261, d126, g1, g3, g46, g47, g48, hi, hii, hw1, d6226, d2662, d621, d162], by omega, View.le_trans hAD hE6, by rw [List.map_append]; exact own_rebase (hO4.le lq62), by rw [List.length_append, hpl]; rfl, hyn2⟩
  rcases hk with rfl | rfl | rfl
  · skip
    refine xc_iffalse (by simp [go_sem, hcz, hco, ↓hand, hcs, hwu, d261, d126]) ?_
    refine xc_two fun N7 hN7 => ?_
    refine xc_reg2 fun K hK => ?_
    simp only [rall, rsl, gres]
    iterate 2 (refine seqX_hide2 fun R hR => ?_; simp [go_sem, hcz, hco, ↓hand, hcs, hwu, d261, d126]; refine hR _ _ _ ?_; clear hR R)
    rw [seqX_nil]
    refine hK _ _ _ ?_; clear hK K
    refine hN7 _ _ _ ?_
    refine xc_iffalse (by simp [go_sem, hcz, hco, ↓hand, hcs, hwu, d261, d126]) ?_
    refine xc_two fun N8 hN8 => ?_
    refine xc_reg2 fun K hK => ?_
    simp only [rall, rsl, gres]
    iterate 2 (refine seqX_hide2 fun R hR => ?_; simp [go_sem, hcz, hco, ↓hand, hcs, hwu, d261, d126]; refine hR _ _ _ ?_; clear hR R)
    rw [seqX_nil]
    refine hK _ _ _ ?_; clear hK K
    refine hN8 _ _ _ ?_
    refine xc_iftrue (by simp [go_sem, hcz, hco, ↓hand, hcs, hwu, d261, d126]) ?_
    refine hN5 _ _ _ ?_
    refine xc_iftrue (by simp [go_sem, hcz, hco, ↓hand, hcs, hwu, d261, d126]) ?_
    refine xc_reg2 fun K hK => ?_
    simp only [rall, rsl, gres]
    iterate 3 (refine seqX_hide2 fun R hR => ?_; simp [go_sem, hcz, hco, ↓hand, hcs, hwu, d261, d126]; refine hR _ _ _ ?_; clear hR R)
    refine seqX_hide2 fun R hR => ?_
    simp [go_sem, hcz, hco, ↓hand, hcs, hwu, d261, d126]
    refine hR _ _ _ ?_; clear hR R
    iterate 2 (refine seqX_hide2 fun R hR => ?_; simp [go_sem, hcz, hco, ↓hand, hcs, hwu, d261, d126]; refine hR _ _ _ ?_; clear hR R)
    refine seqX_hide2 fun R hR => ?_
    simp [go_sem, hcz, hco, ↓hand, hcs, hwu, d261, d126]
    refine hR _ _ _ ?_; clear hR R
    rw [seqX_nil]
    refine hK _ _ _ ?_; clear hK K
    exact lp  _ hP (by simp [go_sem, hcz, hco, ↓hand, hcs, hwu, d261, d126]) (by simp [go_sem, hcz, hco, ↓hand, hcs, hwu, d261, d126])
  · skip
    refine xc_iffalse (by simp [go_sem, hcz, hco, ↓hand, hcs, hwu, d261, d126]) ?_
    refine xc_two fun N7 hN7 => ?_
    refine xc_reg2 fun K hK => ?_
    simp only [rall, rsl, gres]
    iterate 2 (refine seqX_hide2 fun R hR => ?_; simp [go_sem, hcz, hco, ↓hand, hcs, hwu, d261, d126]; refine hR _ _ _ ?_; clear hR R)
    rw [seqX_nil]
    refine hK _ _ _ ?_; clear hK K
    refine hN7 _ _ _ ?_
    refine xc_iffalse (by simp [go_sem, hcz, hco, ↓hand, hcs, hwu, d261, d126]) ?_
    refine xc_two fun N8 hN8 => ?_
    refine xc_reg2 fun K hK => ?_
    simp only [rall, rsl, gres]
    iterate 2 (refine seqX_hide2 fun R hR => ?_; simp [go_sem, hcz, hco, ↓hand, hcs, hwu, d261, d126]; refine hR _ _ _ ?_; clear hR R)
    rw [seqX_nil]
    refine hK _ _ _ ?_; clear hK K
    refine hN8 _ _ _ ?_
    refine xc_iffalse (by simp [go_sem, hcz, hco, ↓hand, hcs, hwu, d261, d126]) ?_
    refine xc_two fun N9 hN9 => ?_
    refine xc_reg2 fun K hK => ?_
    simp only [rall, rsl, gres]
    iterate 2 (refine seqX_hide2 fun R hR => ?_; simp [go_sem, hcz, hco, ↓hand, hcs, hwu, d261, d126]; refine hR _ _ _ ?_; clear hR R)
    rw [seqX_nil]
    refine hK _ _ _ ?_; clear hK K
    refine hN9 _ _ _ ?_
    refine xc_iftrue (by simp [go_sem, hcz, hco, ↓hand, hcs, hwu, d261, d126]) ?_
    refine hN5 _ _ _ ?_
    refine xc_iftrue (by simp [go_sem, hcz, hco, ↓hand, hcs, hwu, d261, d126]) ?_
    refine xc_reg2 fun K hK => ?_
    simp only [rall, rsl, gres]
    iterate 3 (refine seqX_hide2 fun R hR => ?_; simp [go_sem, hcz, hco, ↓hand, hcs, hwu, d261, d126]; refine hR _ _ _ ?_; clear hR R)
    refine seqX_hide2 fun R hR => ?_
    simp [go_sem, hcz, hco, ↓hand, hcs, hwu, d261, d126]
    refine hR _ _ _ ?_; clear hR R
    iterate 2 (refine seqX_hide2 fun R hR => ?_; simp [go_sem, hcz, hco, ↓hand, hcs, hwu, d261, d126]; refine hR _ _ _ ?_; clear hR R)
    refine seqX_hide2 fun R hR => ?_
    simp [go_sem, hcz, hco, ↓hand, hcs, hwu, d261, d126]
    refine hR _ _ _ ?_; clear hR R
    rw [seqX_nil]
    refine hK _ _ _ ?_; clear hK K
    exact lp  _ hP (by simp [go_sem, hcz, hco, ↓hand, hcs, hwu, d261, d126]) (by simp [go_sem, hcz, hco, ↓hand, hcs, hwu, d261, d126])
  · skip
    refine xc_iffalse (by simp [go_sem, hcz, hco, ↓hand, hcs, hwu, d261, d126]) ?_
    refine xc_two fun N7 hN7 => ?_
    refine xc_reg2 fun K hK => ?_
    simp only [rall, rsl, gres]
    iterate 2 (refine seqX_hide2 fun R hR => ?_; simp [go_sem, hcz, hco, ↓hand, hcs, hwu, d261, d126]; refine hR _ _ _ ?_; clear hR R)
    rw [seqX_nil]
    refine hK _ _ _ ?_; clear hK K
    refine hN7 _ _ _ ?_
    refine xc_iffalse (by simp [go_sem, hcz, hco, ↓hand, hcs, hwu, d261, d126]) ?_
    refine xc_two fun N8 hN8 => ?_
    refine xc_reg2 fun K hK => ?_
    simp only [rall, rsl, gres]
    iterate 2 (refine seqX_hide2 fun R hR => ?_; simp [go_sem, hcz, hco, ↓hand, hcs, hwu, d261, d126]; refine hR _ _ _ ?_; clear hR R)
    rw [seqX_nil]
    refine hK _ _ _ ?_; clear hK K
    refine hN8 _ _ _ ?_
    refine xc_iffalse (by simp [go_sem, hcz, hco, ↓hand, hcs, hwu, d261, d126]) ?_
    refine xc_two fun N9 hN9 => ?_
    refine xc_reg2 fun K hK => ?_
    simp only [rall, rsl, gres]
    iterate 2 (refine seqX_hide2 fun R hR => ?_; simp [go_sem, hcz, hco, ↓hand, hcs, hwu, d261, d126]; refine hR _ _ _ ?_; clear hR R)
    rw [seqX_nil]
    refine hK _ _ _ ?_; clear hK K
    refine hN9 _ _ _ ?_
    refine xc_iffalse (by simp [go_sem, hcz, hco, ↓hand, hcs, hwu, d261, d126]) ?_
    refine xc_two fun N10 hN10 => ?_
    refine xc_reg2 fun K hK => ?_
    simp only [rall, rsl, gres]
    iterate 2 (refine seqX_hide2 fun R hR => ?_; simp [go_sem, hcz, hco, ↓hand, hcs, hwu, d261, d126]; refine hR _ _ _ ?_; clear hR R)
    rw [seqX_nil]
    refine hK _ _ _ ?_; clear hK K
    refine hN10 _ _ _ ?_
    refine xc_iftrue (by simp [go_sem, hcz, hco, ↓hand, hcs, hwu, d261, d126]) ?_
    refine hN5 _ _ _ ?_
    refine xc_iftrue (by simp [go_sem, hcz, hco, ↓hand, hcs, hwu, d261, d126]) ?_
    refine xc_reg2 fun K hK => ?_
    simp only [rall, rsl, gres]
    iterate 3 (refine seqX_hide2 fun R hR => ?_; simp [go_sem, hcz, hco, ↓hand, hcs, hwu, d261, d126]; refine hR _ _ _ ?_; clear hR R)
    refine seqX_hide2 fun R hR => ?_
    simp [go_sem, hcz, hco, ↓hand, hcs, hwu, d261, d126]
    refine hR _ _ _ ?_; clear hR R
    iterate 2 (refine seqX_hide2 fun R hR => ?_; simp [go_sem, hcz, hco, ↓hand, hcs, hwu, d261, d126]; refine hR _ _ _ ?_; clear hR R)
    refine seqX_hide2 fun R hR => ?_
    simp [go_sem, hcz, hco, ↓hand, hcs, hwu, d261, d126]
    refine hR _ _ _ ?_; clear hR R
    rw [seqX_nil]
    refine hK _ _ _ ?_; clear hK K
    exact lp  _ hP (by simp [go_sem, hcz, hco, ↓hand, hcs, hwu, d261, d126]) (by simp [go_sem, hcz, hco, ↓hand, hcs, hwu, d261, d126])
end Go.Proofs.YtpinamipjddobaaV

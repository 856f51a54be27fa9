/- Trees: TA TB TC. -/
import Derived.Test.YtpinamipjddobaaKX
import Derived.Test.YtpinamipjddobaaKU0
import Derived.Test.YtpinamipjddobaaRF
import Derived.Test.YtpinamipjddobaaSE1
namespace Go.Proofs.YtpinamipjddobaaV
open Go.RowKit
set_option linter.unusedSimpArgs false
set_option linter.unusedVariables false
/-- What heFew leaves. -/
def Few (A0 : View) (m : Nat) (n : Int) (t : Tr) (r : Value) (A' : View) : Prop :=
  ∃ b n', r = .bool b ∧ A0 ≤ A' ∧ A' m = some (.cells #[.int .i64 n'] 3 (0, 0)) ∧ (b = true → 0 ≤ n' ∧ n' + nds t = n)
set_option maxRecDepth 20000 in
set_option maxHeartbeats 4000000 in
theorem few66 (t : Tr) : ∀ (A0 A : View) (c : Array Value) (m : Nat) (n : Int), IsTr A0 t c → A0 ≤ A → A0 m = none → A m = some (.cells #[.int .i64 n] 3 (0, 0)) → SB t → 0 ≤ n → n ≤ 1000000 →
    VCalls Try.prog 66 #[.agg c, ptr0 m] A fun r A' => Few A0 m n t r A' := by
  induction t using WellFounded.induction (measure (fun t : Tr => SizeOf.sizeOf t)).wf with
  | _ t ih =>
  intro A0 A c m n hc hA hm0 hm hsb hn0 hn1
  have hkl := hsb.len
  have hskd := fun x (hx : x ∈ t.kids) => hsb.kid hx
  obtain ⟨k, st, tag, val, an, h, l, f, row, col, al, kids, rfl⟩ := t.ex
  replace hkl : kids.length ≤ 1125899906842624 := hkl
  replace hskd : ∀ x, x ∈ kids → SB x := hskd
  have ihk : ∀ x ∈ kids, ∀ (A0 A : View) (c : Array Value) (m : Nat) (n : Int), IsTr A0 x c → A0 ≤ A → A0 m = none → A m = some (.cells #[.int .i64 n] 3 (0, 0)) → SB x → 0 ≤ n → n ≤ 1000000 → VCalls Try.prog 66 #[.agg c, ptr0 m] A fun r A' => Few A0 m n x r A' := fun x hx => ih x (by
    have := List.sizeOf_lt_of_mem hx
    show SizeOf.sizeOf x < SizeOf.sizeOf (Tr.mk k st tag val an h l f row col al kids)
    simp
    omega)
  clear ih
  have hcz := hc.size
  have hco := hc.ones
  obtain ⟨bs, cap, rfl, hT⟩ := hc.open
  have cm := cell_of (i := 0) hm rfl
  have hwn : IntKind.i64.wrap (n - 1) = n - 1 := wrap_in (by omega) (by omega)
  refine xcalls Try.func66 rfl (by simp [Try.ntmps66]) ?_
  simp only [Try.f66]
  have hP : Priv A (addrs []) := Priv.nil A
  show xc _ _ _ _ _ _ (ov A [])
  refine xc_two fun N1 hN1 => ?_
  refine xc_reg2 fun K hK => ?_
  simp only [rall, rsl, gres]
  refine seqX_hide2 fun R hR => ?_
  simp [go_sem, hcz, hco, bc hP cm, hwn]
  intro q2 hq2
  replace hP := hP.cons hq2
  clear hq2
  refine hR _ _ _ ?_; clear hR R
  (refine seqX_hide2 fun R hR => ?_; simp [go_sem, hcz, hco, bc hP cm, hwn]; refine hR _ _ _ ?_; clear hR R)
  rw [seqX_nil]
  refine hK _ _ _ ?_; clear hK K
  refine hN1 _ _ _ ?_
  refine xc_two fun N2 hN2 => ?_
  refine xc_two fun N3 hN3 => ?_
  have hm2 : m ≠ q2 := fun hx => by have := hP.1; rw [← hx, hm] at this; cases this
  have hs := cstore (L := [(q2, .cells (trc k st tag val an h l f row col al (.slice bs kids.length cap)) 24 (0, 0))]) hP ti3 hm (u := .int .i64 (n - 1)) rfl
  have hsa := hs.1
  refine xc_reg2 fun K hK => ?_
  simp only [rall, rsl, gres]
  iterate 5 (refine seqX_hide2 fun R hR => ?_; simp [go_sem, hcz, hco, bc hP cm, hwn, hm2, hsa]; refine hR _ _ _ ?_; clear hR R)
  refine seqX_hide2 fun R hR => ?_
  simp [go_sem, hcz, hco, bc hP cm, hwn, hm2, hsa]
  refine hR _ _ _ ?_; clear hR R
  rw [seqX_nil]
  refine hK _ _ _ ?_; clear hK K
  refine hN3 _ _ _ ?_
  refine xc_two fun N4 hN4 => ?_
  have hm1 : (A.set m (.cells #[.int .i64 (n - 1)] 3 (0, 0))) m = some (.cells #[.int .i64 (n - 1)] 3 (0, 0)) := set_at _ _ _
  have hA1 : A0 ≤ A.set m (.cells #[.int .i64 (n - 1)] 3 (0, 0)) := le_set0 hA hm0
  clear hP
  have hP := hs.2
  clear hsa hs
  generalize A.set m (.cells #[.int .i64 (n - 1)] 3 (0, 0)) = A1 at hP hm1 hA1 ⊢
  have cm1 := cell_of (i := 0) hm1 rfl
  by_cases hz : n - 1 < 0
  · skip
    refine xc_reg2 fun K hK => ?_
    simp only [rall, rsl, gres]
    iterate 4 (refine seqX_hide2 fun R hR => ?_; simp [go_sem, hcz, hco, hwn, bc hP cm1, hz]; refine hR _ _ _ ?_; clear hR R)
    rw [seqX_nil]
    refine hK _ _ _ ?_; clear hK K
    refine hN4 _ _ _ ?_
    refine xc_iftrue (by simp [go_sem, hcz, hco, hwn, bc hP cm1, hz]) ?_
    refine xc_two fun N5 hN5 => ?_
    refine xc_reg2 fun K hK => ?_
    simp only [rall, rsl, gres]
    (refine seqX_hide2 fun R hR => ?_; simp [go_sem, hcz, hco, hwn, bc hP cm1, hz]; refine hR _ _ _ ?_; clear hR R)
    rw [seqX_nil]
    refine hK _ _ _ ?_; clear hK K
    refine hN5 _ _ _ ?_
    simp [go_sem, hcz, hco, hwn, hz]
    have hle := le_ov (L := [(q2, .cells (trc k st tag val an h l f row col al (.slice bs kids.length cap)) 24 (0, 0))]) hP
    exact ⟨false, n - 1, rfl, View.le_trans hA1 hle, hle _ _ hm1, fun e => by cases e⟩
  refine xc_reg2 fun K hK => ?_
  simp only [rall, rsl, gres]
  iterate 4 (refine seqX_hide2 fun R hR => ?_; simp [go_sem, hcz, hco, hwn, bc hP cm1, hz]; refine hR _ _ _ ?_; clear hR R)
  rw [seqX_nil]
  refine hK _ _ _ ?_; clear hK K
  refine hN4 _ _ _ ?_
  refine xc_iffalse (by simp [go_sem, hcz, hco, hwn, bc hP cm1, hz]) ?_
  refine hN2 _ _ _ ?_
  refine xc_two fun N5 hN5 => ?_
  refine xc_two fun N6 hN6 => ?_
  refine xc_reg2 fun K hK => ?_
  simp only [rall, rsl, gres]
  iterate 4 (refine seqX_hide2 fun R hR => ?_; simp [go_sem, hcz, hco, hwn, bc hP cm1, hz]; refine hR _ _ _ ?_; clear hR R)
  rw [seqX_nil]
  refine hK _ _ _ ?_; clear hK K
  refine hN6 _ _ _ ?_
  rw [xc_block]
  rw [xc_loop]
  refine vloopK (fun k' e ds A' => ∃ (i : Nat) (D : View) (nn : Int), k' = kids.length - i ∧ ds = [] ∧ A' = ov D [(q2, .cells (trc k st tag val an h l f row col al (.slice bs kids.length cap)) 24 (0, 0))] ∧ Priv D [q2] ∧ e 1 = ptr0 m ∧ e 2 = .pointer (some ⟨q2, 0, none⟩) ∧ e 17 = .slice bs kids.length cap ∧ e 18 = .int .i64 kids.length ∧ e 19 = .int .i64 i ∧ (i ≤ kids.length) ∧ (A0 ≤ D) ∧ (D m = some (.cells #[.int .i64 nn] 3 (0, 0))) ∧ (0 ≤ nn ∧ nn + ((kids.take i).map nds).sum + 1 = n)) _ ⟨0, A1, n - 1, rfl, rfl, rfl, hP, by simp [go_sem, hcz, hco, hwn, hz], by simp [go_sem, hcz, hco, hwn, hz], by simp [go_sem, hcz, hco, hwn, hz], by simp [go_sem, hcz, hco, hwn, hz], by simp [go_sem, hcz, hco, hwn, hz], by omega, hA1, hm1, ⟨by omega, by simp⟩⟩ ?_
  clear hP
  rintro k' e ds _ ⟨i, D, nn, rfl, rfl, rfl, hP, g1, g2, g17, g18, g19, hil, hAD, hDm, hnn⟩ J1 X1 hJ1 hX1
  refine xc_sound _ ?_
  have hw1 : IntKind.i64.wrap ((i : Int) + 1) = ((i + 1 : Nat) : Int) := by rw [wrap_in (by omega) (by omega)]; omega
  by_cases hi : i < kids.length
  rotate_left
  · rw [List.take_of_length_le (by omega)] at hnn
    have hii : ¬ (i : Int) < kids.length := by omega
    refine xc_two fun N7 hN7 => ?_
    refine xc_reg2 fun K hK => ?_
    simp only [rall, rsl, gres]
    (refine seqX_hide2 fun R hR => ?_; simp [go_sem, hcz, hco, hwn, hz, g1, g2, g17, g18, g19, hi, hii]; refine hR _ _ _ ?_; clear hR R)
    rw [seqX_nil]
    refine hK _ _ _ ?_; clear hK K
    refine hN7 _ _ _ ?_
    refine xc_two fun N8 hN8 => ?_
    refine xc_iffalse (by simp [go_sem, hcz, hco, hwn, hz, g1, g2, g17, g18, g19, hi, hii]) ?_
    refine hX1 _ _ _ _ ?_
    refine hN5 _ _ _ ?_
    refine xc_two fun N9 hN9 => ?_
    refine xc_reg2 fun K hK => ?_
    simp only [rall, rsl, gres]
    (refine seqX_hide2 fun R hR => ?_; simp [go_sem, hcz, hco, hwn, hz, g1, g2, g17, g18, g19, hi, hii]; refine hR _ _ _ ?_; clear hR R)
    rw [seqX_nil]
    refine hK _ _ _ ?_; clear hK K
    refine hN9 _ _ _ ?_
    simp [go_sem, hcz, hco, hwn, hz, g1, g2, g17, g18, g19, hi, hii]
    have hle := le_ov (L := [(q2, .cells (trc k st tag val an h l f row col al (.slice bs kids.length cap)) 24 (0, 0))]) hP
    refine ⟨true, nn, rfl, View.le_trans hAD hle, hle _ _ hDm, fun _ => ⟨hnn.1, ?_⟩⟩
    rw [nds_mk]
    have := hnn.2
    omega
  have hii : (i : Int) < kids.length := by omega
  obtain ⟨bs', cap', f1, hel⟩ := hT
  simp only [Value.slice.injEq, true_and] at f1
  obtain ⟨rfl, rfl⟩ := f1
  obtain ⟨a, ci, rfl, u0, hci0⟩ := hel i hi
  have hx := List.getElem_mem hi
  have u1 := le_cells hAD _ _ _ u0
  have hcz1 := hci0.size
  have hco1 := hci0.ones
  have hsm2 : ((kids.take (i + 1)).map nds).sum = ((kids.take i).map nds).sum + nds kids[i] := by
    rw [List.take_succ_eq_append_getElem hi, List.map_append, List.sum_append]
    simp
  refine xc_two fun N7 hN7 => ?_
  refine xc_reg2 fun K hK => ?_
  simp only [rall, rsl, gres]
  (refine seqX_hide2 fun R hR => ?_; simp [go_sem, hcz, hco, hwn, hz, g1, g2, g17, g18, g19, hi, hii, hw1, hcz1, hco1, bcs hP u1]; refine hR _ _ _ ?_; clear hR R)
  rw [seqX_nil]
  refine hK _ _ _ ?_; clear hK K
  refine hN7 _ _ _ ?_
  refine xc_two fun N8 hN8 => ?_
  refine xc_iftrue (by simp [go_sem, hcz, hco, hwn, hz, g1, g2, g17, g18, g19, hi, hii, hw1, hcz1, hco1, bcs hP u1]) ?_
  refine hN8 _ _ _ ?_
  refine xc_two fun N9 hN9 => ?_
  rw [xc_block]
  refine xc_two fun N10 hN10 => ?_
  refine xc_reg2 fun K hK => ?_
  simp only [rall, rsl, gres]
  iterate 2 (refine seqX_hide2 fun R hR => ?_; simp [go_sem, hcz, hco, hwn, hz, g1, g2, g17, g18, g19, hi, hii, hw1, hcz1, hco1, bcs hP u1]; refine hR _ _ _ ?_; clear hR R)
  refine seqX_hide2 fun R hR => ?_
  simp [go_sem, hcz, hco, hwn, hz, g1, g2, g17, g18, g19, hi, hii, hw1, hcz1, hco1, bcs hP u1]
  intro q6 hq6
  replace hP := hP.cons hq6
  clear hq6
  have d62 : q6 ≠ q2 := (hP.ne q2 (by simp [addrs])).1
  have d26 : q2 ≠ q6 := (hP.ne q2 (by simp [addrs])).2
  refine hR _ _ _ ?_; clear hR R
  refine seqX_hide2 fun R hR => ?_
  simp [go_sem, hcz, hco, hwn, hz, g1, g2, g17, g18, g19, hi, hii, hw1, hcz1, hco1, bcs hP u1, d62, d26]
  refine hR _ _ _ ?_; clear hR R
  rw [seqX_nil]
  refine hK _ _ _ ?_; clear hK K
  refine hN10 _ _ _ ?_
  refine xc_two fun N11 hN11 => ?_
  refine xc_reg2 fun K hK => ?_
  simp only [rall, rsl, gres]
  iterate 2 (refine seqX_hide2 fun R hR => ?_; simp [go_sem, hcz, hco, hwn, hz, g1, g2, g17, g18, g19, hi, hii, hw1, hcz1, hco1, bcs hP u1, d62, d26]; refine hR _ _ _ ?_; clear hR R)
  refine seqX_hide2 fun R hR => ?_
  simp [go_sem, hcz, hco, hwn, hz, g1, g2, g17, g18, g19, hi, hii, hw1, hcz1, hco1, bcs hP u1, d62, d26]
  refine call_ov hP (ihk _ hx A0 D ci m nn hci0 hAD hm0 hDm (hskd _ hx) hnn.1 (by have := hnn.2; omega)) ?_
  clear hP
  rintro _ D2 ⟨b, n', rfl, hD2, hDm2, hb⟩ hP
  cases b with
  | false =>
    refine hR _ _ _ ?_; clear hR R
    (refine seqX_hide2 fun R hR => ?_; simp [go_sem, hcz, hco, hwn, hz, g1, g2, g17, g18, g19, hi, hii, hw1, hcz1, hco1, d62, d26]; refine hR _ _ _ ?_; clear hR R)
    rw [seqX_nil]
    refine hK _ _ _ ?_; clear hK K
    refine hN11 _ _ _ ?_
    refine xc_iftrue (by simp [go_sem, hcz, hco, hwn, hz, g1, g2, g17, g18, g19, hi, hii, hw1, hcz1, hco1, d62, d26]) ?_
    refine xc_two fun N12 hN12 => ?_
    refine xc_reg2 fun K hK => ?_
    simp only [rall, rsl, gres]
    (refine seqX_hide2 fun R hR => ?_; simp [go_sem, hcz, hco, hwn, hz, g1, g2, g17, g18, g19, hi, hii, hw1, hcz1, hco1, d62, d26]; refine hR _ _ _ ?_; clear hR R)
    rw [seqX_nil]
    refine hK _ _ _ ?_; clear hK K
    refine hN12 _ _ _ ?_
    refine hX1 _ _ _ _ ?_
    simp [go_sem, hcz, hco, hwn, hz, g1, g2, g17, g18, g19, hi, hii, hw1, hcz1, hco1, d62, d26]
    refine ⟨false, n', rfl, View.le_trans hD2 ?_, ?_, fun e => by cases e⟩
    · exact le_ov hP
    · exact le_ov hP _ _ hDm2
  | true =>
  obtain ⟨y1, y2⟩ := hb rfl
  refine hR _ _ _ ?_; clear hR R
  (refine seqX_hide2 fun R hR => ?_; simp [go_sem, hcz, hco, hwn, hz, g1, g2, g17, g18, g19, hi, hii, hw1, hcz1, hco1, d62, d26]; refine hR _ _ _ ?_; clear hR R)
  rw [seqX_nil]
  refine hK _ _ _ ?_; clear hK K
  refine hN11 _ _ _ ?_
  refine xc_iffalse (by simp [go_sem, hcz, hco, hwn, hz, g1, g2, g17, g18, g19, hi, hii, hw1, hcz1, hco1, d62, d26]) ?_
  refine hN9 _ _ _ ?_
  refine xc_reg2 fun K hK => ?_
  simp only [rall, rsl, gres]
  iterate 2 (refine seqX_hide2 fun R hR => ?_; simp [go_sem, hcz, hco, hwn, hz, g1, g2, g17, g18, g19, hi, hii, hw1, hcz1, hco1, d62, d26]; refine hR _ _ _ ?_; clear hR R)
  rw [seqX_nil]
  refine hK _ _ _ ?_; clear hK K
  refine sink_goal 0 hP rfl fun hPn lq6 nq6 => ?_
  clear hP; have hP := hPn; clear hPn
  simp only [List.eraseIdx_cons_zero, List.eraseIdx_cons_succ, addrs_cons, addrs_nil] at hP ⊢
  refine hJ1 (kids.length - (i + 1)) _ _ _ (by omega) ⟨i + 1, _, n', rfl, rfl, rfl, hP, by simp [go_sem, hcz, hco, hwn, hz, g1, g2, g17, g18, g19, hi, hii, hw1, hcz1, hco1, d62, d26], by simp [go_sem, hcz, hco, hwn, hz, g1, g2, g17, g18, g19, hi, hii, hw1, hcz1, hco1, d62, d26], by simp [go_sem, hcz, hco, hwn, hz, g1, g2, g17, g18, g19, hi, hii, hw1, hcz1, hco1, d62, d26], by simp [go_sem, hcz, hco, hwn, hz, g1, g2, g17, g18, g19, hi, hii, hw1, hcz1, hco1, d62, d26], by simp [go_sem, hcz, hco, hwn, hz, g1, g2, g17, g18, g19, hi, hii, hw1, hcz1, hco1, d62, d26], by omega, View.le_trans hD2 lq6, lq6 _ _ hDm2, ⟨y1, by have := hnn.2; omega⟩⟩
/-- A tree without comments and styles. -/
def bareT : Tr → Tr
  | .mk k _ tag val an _ _ _ row col al kids => .mk k 0 tag val an e0 e0 e0 row col al (kids.attach.map fun x => bareT x.1)
termination_by v => SizeOf.sizeOf v
decreasing_by
  have := List.sizeOf_lt_of_mem x.2
  simp
  omega
theorem bareT_mk (k st : Int) (tag val an h l f : ByteArray) (row col al : Int) (kids : List Tr) : bareT (.mk k st tag val an h l f row col al kids) = .mk k 0 tag val an e0 e0 e0 row col al (kids.map bareT) := by
  rw [bareT]
  congr 1
  exact List.attach_map_val (l := kids) (f := bareT)
set_option maxRecDepth 20000 in
set_option maxHeartbeats 4000000 in
theorem bared67 (t : Tr) : ∀ (A : View) (c : Array Value), IsTr A t c → nds t ≤ 1000000 → VCalls Try.prog 67 #[.agg c] A fun r A' => ∃ c, r = .agg c ∧ IsTr A' (bareT t) c ∧ A ≤ A' := by
  induction t using WellFounded.induction (measure (fun t : Tr => SizeOf.sizeOf t)).wf with
  | _ t ih =>
  intro A c hc hnd
  obtain ⟨k, st, tag, val, an, h, l, f, row, col, al, kids, rfl⟩ := t.ex
  have ihk : ∀ x ∈ kids, ∀ (A : View) (c : Array Value), IsTr A x c → nds x ≤ 1000000 → VCalls Try.prog 67 #[.agg c] A fun r A' => ∃ c, r = .agg c ∧ IsTr A' (bareT x) c ∧ A ≤ A' := fun x hx => ih x (by
    have := List.sizeOf_lt_of_mem hx
    show SizeOf.sizeOf x < SizeOf.sizeOf (Tr.mk k st tag val an h l f row col al kids)
    simp
    omega)
  clear ih
  rw [nds_mk] at hnd
  have hkl := nds_len kids
  have hcz := hc.size
  have hco := hc.ones
  obtain ⟨bs, cap, rfl, hT⟩ := hc.open
  rw [bareT_mk]
  refine xcalls Try.func67 rfl (by simp [Try.ntmps67]) ?_
  simp only [Try.f67]
  have hP : Priv A (addrs []) := Priv.nil A
  show xc _ _ _ _ _ _ (ov A [])
  refine xc_two fun N1 hN1 => ?_
  refine xc_reg2 fun K hK => ?_
  simp only [rall, rsl, gres]
  refine seqX_hide2 fun R hR => ?_
  simp [go_sem, hcz, hco]
  intro q1 hq1
  replace hP := hP.cons hq1
  clear hq1
  refine hR _ _ _ ?_; clear hR R
  refine seqX_hide2 fun R hR => ?_
  simp [go_sem, hcz, hco]
  intro q2 hq2
  replace hP := hP.cons hq2
  clear hq2
  have d21 : q2 ≠ q1 := (hP.ne q1 (by simp [addrs])).1
  have d12 : q1 ≠ q2 := (hP.ne q1 (by simp [addrs])).2
  refine hR _ _ _ ?_; clear hR R
  rw [seqX_nil]
  refine hK _ _ _ ?_; clear hK K
  refine hN1 _ _ _ ?_
  refine xc_two fun N2 hN2 => ?_
  refine xc_reg2 fun K hK => ?_
  simp only [rall, rsl, gres]
  (refine seqX_hide2 fun R hR => ?_; simp [go_sem, hcz, hco, d21, d12]; refine hR _ _ _ ?_; clear hR R)
  refine seqX_hide2 fun R hR => ?_
  simp [go_sem, hcz, hco, d21, d12]
  intro q3 hq3
  replace hP := hP.cons hq3
  clear hq3
  have d32 : q3 ≠ q2 := (hP.ne q2 (by simp [addrs])).1
  have d23 : q2 ≠ q3 := (hP.ne q2 (by simp [addrs])).2
  have d31 : q3 ≠ q1 := (hP.ne q1 (by simp [addrs])).1
  have d13 : q1 ≠ q3 := (hP.ne q1 (by simp [addrs])).2
  refine hR _ _ _ ?_; clear hR R
  refine seqX_hide2 fun R hR => ?_
  simp [go_sem, hcz, hco, d21, d12, d32, d23, d31, d13]
  refine hR _ _ _ ?_; clear hR R
  rw [seqX_nil]
  refine hK _ _ _ ?_; clear hK K
  refine hN2 _ _ _ ?_
  refine xc_two fun N3 hN3 => ?_
  refine xc_reg2 fun K hK => ?_
  simp only [rall, rsl, gres]
  (refine seqX_hide2 fun R hR => ?_; simp [go_sem, hcz, hco, d21, d12, d32, d23, d31, d13]; refine hR _ _ _ ?_; clear hR R)
  refine seqX_hide2 fun R hR => ?_
  simp [go_sem, hcz, hco, d21, d12, d32, d23, d31, d13]
  refine hR _ _ _ ?_; clear hR R
  (refine seqX_hide2 fun R hR => ?_; simp [go_sem, hcz, hco, d21, d12, d32, d23, d31, d13]; refine hR _ _ _ ?_; clear hR R)
  refine seqX_hide2 fun R hR => ?_
  simp [go_sem, hcz, hco, d21, d12, d32, d23, d31, d13]
  refine hR _ _ _ ?_; clear hR R
  (refine seqX_hide2 fun R hR => ?_; simp [go_sem, hcz, hco, d21, d12, d32, d23, d31, d13]; refine hR _ _ _ ?_; clear hR R)
  refine seqX_hide2 fun R hR => ?_
  simp [go_sem, hcz, hco, d21, d12, d32, d23, d31, d13]
  refine hR _ _ _ ?_; clear hR R
  (refine seqX_hide2 fun R hR => ?_; simp [go_sem, hcz, hco, d21, d12, d32, d23, d31, d13]; refine hR _ _ _ ?_; clear hR R)
  refine seqX_hide2 fun R hR => ?_
  simp [go_sem, hcz, hco, d21, d12, d32, d23, d31, d13]
  refine hR _ _ _ ?_; clear hR R
  rw [seqX_nil]
  refine hK _ _ _ ?_; clear hK K
  refine hN3 _ _ _ ?_
  refine xc_two fun N4 hN4 => ?_
  refine xc_reg2 fun K hK => ?_
  simp only [rall, rsl, gres]
  (refine seqX_hide2 fun R hR => ?_; simp [go_sem, hcz, hco, d21, d12, d32, d23, d31, d13]; refine hR _ _ _ ?_; clear hR R)
  refine seqX_hide2 fun R hR => ?_
  simp [go_sem, hcz, hco, d21, d12, d32, d23, d31, d13]
  refine hR _ _ _ ?_; clear hR R
  rw [seqX_nil]
  refine hK _ _ _ ?_; clear hK K
  refine hN4 _ _ _ ?_
  refine xc_two fun N5 hN5 => ?_
  refine xc_two fun N6 hN6 => ?_
  refine xc_reg2 fun K hK => ?_
  simp only [rall, rsl, gres]
  iterate 4 (refine seqX_hide2 fun R hR => ?_; simp [go_sem, hcz, hco, d21, d12, d32, d23, d31, d13]; refine hR _ _ _ ?_; clear hR R)
  rw [seqX_nil]
  refine hK _ _ _ ?_; clear hK K
  refine hN6 _ _ _ ?_
  rw [xc_block]
  rw [xc_loop]
  refine vloopK (fun k' e ds A' => ∃ (i : Nat) (D : View) (kv : Value) (cs : List Value), k' = kids.length - i ∧ ds = [] ∧ A' = ov D [(q3, .cells (trc k 0 tag val an ⟨#[]⟩ ⟨#[]⟩ ⟨#[]⟩ row col al kv) 24 (0, 0)), (q2, .cells (trc 0 0 ⟨#[]⟩ ⟨#[]⟩ ⟨#[]⟩ ⟨#[]⟩ ⟨#[]⟩ ⟨#[]⟩ 0 0 0 (.slice none 0 0)) 24 (0, 0)), (q1, .cells (trc k st tag val an h l f row col al (.slice bs kids.length cap)) 24 (0, 0))] ∧ Priv D [q3, q2, q1] ∧ e 1 = .pointer (some ⟨q1, 0, none⟩) ∧ e 2 = .pointer (some ⟨q2, 0, none⟩) ∧ e 3 = .pointer (some ⟨q3, 0, none⟩) ∧ e 13 = .slice bs kids.length cap ∧ e 14 = .int .i64 kids.length ∧ e 15 = .int .i64 i ∧ (i ≤ kids.length) ∧ (A ≤ eraseB D kv) ∧ (Own (eraseB D kv) D 24 12 kv i cs) ∧ (Parts 12 cs ((kids.take i).map bareT) (IsTr (eraseB D kv)))) _ ⟨0, A, .slice none 0 0, [], rfl, rfl, rfl, hP, by simp [go_sem, hcz, hco, d21, d12, d32, d23, d31, d13], by simp [go_sem, hcz, hco, d21, d12, d32, d23, d31, d13], by simp [go_sem, hcz, hco, d21, d12, d32, d23, d31, d13], by simp [go_sem, hcz, hco, d21, d12, d32, d23, d31, d13], by simp [go_sem, hcz, hco, d21, d12, d32, d23, d31, d13], by simp [go_sem, hcz, hco, d21, d12, d32, d23, d31, d13], by omega, View.le_refl _, Own.nil _ _ _ _, Parts.nil _ _⟩ ?_
  clear hP
  rintro k' e ds _ ⟨i, D, kv, cs, rfl, rfl, rfl, hP, g1, g2, g3, g13, g14, g15, hil, hAD, hO, hpp⟩ J1 X1 hJ1 hX1
  refine xc_sound _ ?_
  have hw1 : IntKind.i64.wrap ((i : Int) + 1) = ((i + 1 : Nat) : Int) := by rw [wrap_in (by omega) (by omega)]; omega
  obtain ⟨vb, vc, rfl⟩ := hO.shape
  by_cases hi : i < kids.length
  rotate_left
  · obtain rfl : i = kids.length := by omega
    rw [List.take_length] at hpp
    have hii : ¬ (kids.length : Int) < kids.length := by omega
    refine xc_two fun N7 hN7 => ?_
    refine xc_reg2 fun K hK => ?_
    simp only [rall, rsl, gres]
    (refine seqX_hide2 fun R hR => ?_; simp [go_sem, hcz, hco, d21, d12, d32, d23, d31, d13, g1, g2, g3, g13, g14, g15, hi, hii]; refine hR _ _ _ ?_; clear hR R)
    rw [seqX_nil]
    refine hK _ _ _ ?_; clear hK K
    refine hN7 _ _ _ ?_
    refine xc_two fun N8 hN8 => ?_
    refine xc_iffalse (by simp [go_sem, hcz, hco, d21, d12, d32, d23, d31, d13, g1, g2, g3, g13, g14, g15, hi, hii]) ?_
    refine hX1 _ _ _ _ ?_
    refine hN5 _ _ _ ?_
    refine xc_two fun N9 hN9 => ?_
    refine xc_reg2 fun K hK => ?_
    simp only [rall, rsl, gres]
    (refine seqX_hide2 fun R hR => ?_; simp [go_sem, hcz, hco, d21, d12, d32, d23, d31, d13, g1, g2, g3, g13, g14, g15, hi, hii]; refine hR _ _ _ ?_; clear hR R)
    refine seqX_hide2 fun R hR => ?_
    simp [go_sem, hcz, hco, d21, d12, d32, d23, d31, d13, g1, g2, g3, g13, g14, g15, hi, hii]
    refine hR _ _ _ ?_; clear hR R
    rw [seqX_nil]
    refine hK _ _ _ ?_; clear hK K
    refine hN9 _ _ _ ?_
    simp [go_sem, hcz, hco, d21, d12, d32, d23, d31, d13, g1, g2, g3, g13, g14, g15, hi, hii]
    have hT2 : Trs D (.slice vb kids.length vc) (kids.map bareT) := by
      refine hO.elems2 (by rw [List.length_map]) (hpp.le fun _ _ g => IsTr.le (eraseB_le _ _) _ _ g)
    refine ⟨IsTr.of (Trs.le ?_ hT2), View.le_trans hAD (View.le_trans (eraseB_le _ _) ?_)⟩
    · exact le_ov hP
    · exact le_ov hP
  have hii : (i : Int) < kids.length := by omega
  obtain ⟨bs', cap', f1, hel⟩ := hT
  simp only [Value.slice.injEq, true_and] at f1
  obtain ⟨rfl, rfl⟩ := f1
  obtain ⟨a, c0, rfl, u0, hci0⟩ := hel i hi
  have u1e := le_cells hAD _ _ _ u0
  have u1 := le_cells (eraseB_le D _) _ _ _ u1e
  have hci0 := hci0.le hAD
  have hcz1 := hci0.size
  have hco1 := hci0.ones
  have hPe : Priv (eraseB D (.slice vb i vc)) [q3, q2, q1] := hP.anti (fun b _ h => none_le (eraseB_le D (.slice vb i vc)) h)
  have hnk : nds kids[i] ≤ 1000000 := by
    have := nds_mem (List.getElem_mem hi)
    omega
  refine xc_two fun N7 hN7 => ?_
  refine xc_reg2 fun K hK => ?_
  simp only [rall, rsl, gres]
  (refine seqX_hide2 fun R hR => ?_; simp [go_sem, hcz, hco, d21, d12, d32, d23, d31, d13, g1, g2, g3, g13, g14, g15, hi, hii, hw1, hcz1, hco1, bcs hP u1, bcs hPe u1e]; refine hR _ _ _ ?_; clear hR R)
  rw [seqX_nil]
  refine hK _ _ _ ?_; clear hK K
  refine hN7 _ _ _ ?_
  refine xc_two fun N8 hN8 => ?_
  refine xc_iftrue (by simp [go_sem, hcz, hco, d21, d12, d32, d23, d31, d13, g1, g2, g3, g13, g14, g15, hi, hii, hw1, hcz1, hco1, bcs hP u1, bcs hPe u1e]) ?_
  refine hN8 _ _ _ ?_
  refine xc_two fun N9 hN9 => ?_
  rw [xc_block]
  refine xc_two fun N10 hN10 => ?_
  refine xc_reg2 fun K hK => ?_
  simp only [rall, rsl, gres]
  iterate 2 (refine seqX_hide2 fun R hR => ?_; simp [go_sem, hcz, hco, d21, d12, d32, d23, d31, d13, g1, g2, g3, g13, g14, g15, hi, hii, hw1, hcz1, hco1, bcs hP u1, bcs hPe u1e]; refine hR _ _ _ ?_; clear hR R)
  refine seqX_hide2 fun R hR => ?_
  simp [go_sem, hcz, hco, d21, d12, d32, d23, d31, d13, g1, g2, g3, g13, g14, g15, hi, hii, hw1, hcz1, hco1, bcs hP u1, bcs hPe u1e]
  intro q5 hq5
  replace hP := hP.cons hq5
  clear hq5
  have d53 : q5 ≠ q3 := (hP.ne q3 (by simp [addrs])).1
  have d35 : q3 ≠ q5 := (hP.ne q3 (by simp [addrs])).2
  have d52 : q5 ≠ q2 := (hP.ne q2 (by simp [addrs])).1
  have d25 : q2 ≠ q5 := (hP.ne q2 (by simp [addrs])).2
  have d51 : q5 ≠ q1 := (hP.ne q1 (by simp [addrs])).1
  have d15 : q1 ≠ q5 := (hP.ne q1 (by simp [addrs])).2
  refine hR _ _ _ ?_; clear hR R
  refine seqX_hide2 fun R hR => ?_
  simp [go_sem, hcz, hco, d21, d12, d32, d23, d31, d13, g1, g2, g3, g13, g14, g15, hi, hii, hw1, hcz1, hco1, bcs hP u1, bcs hPe u1e, d53, d35, d52, d25, d51, d15]
  refine hR _ _ _ ?_; clear hR R
  rw [seqX_nil]
  refine hK _ _ _ ?_; clear hK K
  refine hN10 _ _ _ ?_
  rw [xc_draws]
  refine vdrawK [(0, true), (1, true), (2, true), (3, true), (4, true), (5, false), (6, true), (7, false)] (ov (eraseB D (.slice vb i vc)) [(q5, .cells c0 24 (0, 0)), (q3, .cells (trc k 0 tag val an ⟨#[]⟩ ⟨#[]⟩ ⟨#[]⟩ row col al (.slice vb i vc)) 24 (0, 0)), (q2, .cells (trc 0 0 ⟨#[]⟩ ⟨#[]⟩ ⟨#[]⟩ ⟨#[]⟩ ⟨#[]⟩ ⟨#[]⟩ 0 0 0 (.slice none 0 0)) 24 (0, 0)), (q1, .cells (trc k st tag val an h l f row col al (.slice (some a) kids.length cap)) 24 (0, 0))]) mixed (by kernel_rfl) (ov_mono (eraseB_le _ _)) fun K hK => ?_
  simp only [rsl, gres]
  iterate 3 (refine seqR_hide fun R hR => ?_; simp [go_sem, hcz, hco, d21, d12, d32, d23, d31, d13, g1, g2, g3, g13, g14, g15, hi, hii, hw1, hcz1, hco1, bcs hP u1, bcs hPe u1e, d53, d35, d52, d25, d51, d15]; refine hR _ _ _ ?_; clear hR R)
  refine seqR_hide fun R hR => ?_
  simp [go_sem, hcz, hco, d21, d12, d32, d23, d31, d13, g1, g2, g3, g13, g14, g15, hi, hii, hw1, hcz1, hco1, bcs hP u1, bcs hPe u1e, d53, d35, d52, d25, d51, d15]
  refine call_sub hP (eraseB_le D (.slice vb i vc)) (ihk _ (List.getElem_mem hi) _ c0 hci0 hnk) ?_
  clear hP
  rintro _ E D3 ⟨ci, rfl, hci, hAE⟩ hED hKp hmono hP
  have hDD := hmono hAE
  have hE3 := keep_erase hO hED hKp
  have hO3 := own_rebase (hO.le hDD)
  have hz3 := hci.size
  have ho3 := hci.ones
  refine ⟨ov_mono (View.le_trans hAE hED), hR _ _ _ ?_⟩; clear hR R
  refine seqR_hide fun R hR => ?_
  simp [go_sem, hcz, hco, d21, d12, d32, d23, d31, d13, g1, g2, g3, g13, g14, g15, hi, hii, hw1, hcz1, hco1, d53, d35, d52, d25, d51, d15, hz3, ho3]
  intro q23 hq23
  replace hP := hP.cons hq23
  clear hq23
  have d235 : q23 ≠ q5 := (hP.ne q5 (by simp [addrs])).1
  have d523 : q5 ≠ q23 := (hP.ne q5 (by simp [addrs])).2
  have d233 : q23 ≠ q3 := (hP.ne q3 (by simp [addrs])).1
  have d323 : q3 ≠ q23 := (hP.ne q3 (by simp [addrs])).2
  have d232 : q23 ≠ q2 := (hP.ne q2 (by simp [addrs])).1
  have d223 : q2 ≠ q23 := (hP.ne q2 (by simp [addrs])).2
  have d231 : q23 ≠ q1 := (hP.ne q1 (by simp [addrs])).1
  have d123 : q1 ≠ q23 := (hP.ne q1 (by simp [addrs])).2
  refine hR _ _ _ ?_; clear hR R
  refine seqR_hide fun R hR => ?_
  simp [go_sem, hcz, hco, d21, d12, d32, d23, d31, d13, g1, g2, g3, g13, g14, g15, hi, hii, hw1, hcz1, hco1, d53, d35, d52, d25, d51, d15, hz3, ho3, d235, d523, d233, d323, d232, d223, d231, d123]
  refine append_ov (cs := ci.toList) (m := 1) hP ti22 ti22 (fun k => by simp) ti24 rfl (by decide) hO3 (eraseB_le _ _) (appended_block (ov_at_here _ _ _ _) (by rw [hz3])) (by simp [isStr]) (List.all_eq_true.1 ho3) (by omega) ?_
  clear hP
  rintro v4 D4 h4 hO4 h4e hP
  obtain ⟨xb, xcp, rfl⟩ := hO4.shape
  refine hR _ _ _ ?_; clear hR R
  (refine seqR_hide fun R hR => ?_; simp [go_sem, hcz, hco, d21, d12, d32, d23, d31, d13, g1, g2, g3, g13, g14, g15, hi, hii, hw1, hcz1, hco1, d53, d35, d52, d25, d51, d15, hz3, ho3, d235, d523, d233, d323, d232, d223, d231, d123]; refine hR _ _ _ ?_; clear hR R)
  refine seqR_hide fun R hR => ?_
  simp [go_sem, hcz, hco, d21, d12, d32, d23, d31, d13, g1, g2, g3, g13, g14, g15, hi, hii, hw1, hcz1, hco1, d53, d35, d52, d25, d51, d15, hz3, ho3, d235, d523, d233, d323, d232, d223, d231, d123]
  refine hR _ _ _ ?_; clear hR R
  rw [seqR_nil]
  refine hK _ _ _ ?_; clear hK K
  refine hN9 _ _ _ ?_
  refine xc_reg2 fun K hK => ?_
  simp only [rall, rsl, gres]
  iterate 2 (refine seqX_hide2 fun R hR => ?_; simp [go_sem, hcz, hco, d21, d12, d32, d23, d31, d13, g1, g2, g3, g13, g14, g15, hi, hii, hw1, hcz1, hco1, d53, d35, d52, d25, d51, d15, hz3, ho3, d235, d523, d233, d323, d232, d223, d231, d123]; refine hR _ _ _ ?_; clear hR R)
  rw [seqX_nil]
  refine hK _ _ _ ?_; clear hK K
  refine sink_goal 0 hP rfl fun hPn lq23 nq23 => ?_
  clear hP; have hP := hPn; clear hPn
  simp only [List.eraseIdx_cons_zero, List.eraseIdx_cons_succ, addrs_cons, addrs_nil] at hP ⊢
  refine sink_goal 0 hP rfl fun hPn lq5 nq5 => ?_
  clear hP; have hP := hPn; clear hPn
  simp only [List.eraseIdx_cons_zero, List.eraseIdx_cons_succ, addrs_cons, addrs_nil] at hP ⊢
  have lqq := View.le_trans lq23 lq5
  have hE5 := View.le_trans h4e (eraseB_mono lqq (.slice xb (i + 1) xcp))
  have hE6 := View.le_trans hAE (View.le_trans hE3 hE5)
  refine hJ1 (kids.length - (i + 1)) _ _ _ (by omega) ⟨i + 1, _, .slice xb (i + 1) xcp, _, rfl, rfl, rfl, hP, by simp [go_sem, hcz, hco, d21, d12, d32, d23, d31, d13, g1, g2, g3, g13, g14, g15, hi, hii, hw1, hcz1, hco1, d53, d35, d52, d25, d51, d15, hz3, ho3, d235, d523, d233, d323, d232, d223, d231, d123], by simp [go_sem, hcz, hco, d21, d12, d32, d23, d31, d13, g1, g2, g3, g13, g14, g15, hi, hii, hw1, hcz1, hco1, d53, d35, d52, d25, d51, d15, hz3, ho3, d235, d523, d233, d323, d232, d223, d231, d123], by simp [go_sem, hcz, hco, d21, d12, d32, d23, d31, d13, g1, g2, g3, g13, g14, g15, hi, hii, hw1, hcz1, hco1, d53, d35, d52, d25, d51, d15, hz3, ho3, d235, d523, d233, d323, d232, d223, d231, d123], by simp [go_sem, hcz, hco, d21, d12, d32, d23, d31, d13, g1, g2, g3, g13, g14, g15, hi, hii, hw1, hcz1, hco1, d53, d35, d52, d25, d51, d15, hz3, ho3, d235, d523, d233, d323, d232, d223, d231, d123], by simp [go_sem, hcz, hco, d21, d12, d32, d23, d31, d13, g1, g2, g3, g13, g14, g15, hi, hii, hw1, hcz1, hco1, d53, d35, d52, d25, d51, d15, hz3, ho3, d235, d523, d233, d323, d232, d223, d231, d123], by simp [go_sem, hcz, hco, d21, d12, d32, d23, d31, d13, g1, g2, g3, g13, g14, g15, hi, hii, hw1, hcz1, hco1, d53, d35, d52, d25, d51, d15, hz3, ho3, d235, d523, d233, d323, d232, d223, d231, d123], by omega, View.le_trans hAD hE6, own_rebase (hO4.le lqq), by rw [List.take_succ_eq_append_getElem hi, List.map_append]; exact (hpp.le fun _ _ g => IsTr.le hE6 _ _ g).push (by rw [List.length_map, List.length_take, Nat.min_eq_left (by omega)]; exact hO.clen) hz3 (IsTr.le (View.le_trans hE3 hE5) _ _ hci)⟩
def IsBr (r : Value) : Prop := ∃ b, r = .bool b
set_option maxRecDepth 20000 in
set_option maxHeartbeats 400000 in
theorem exact44 (t : Tr) : ∀ (A : View) (c c' : Array Value), IsTr A t c → IsTr A t c' → nds t ≤ 1000000 → VCalls Try.prog 44 #[.agg c, .agg c'] A fun r A' => r = .bool true ∧ A ≤ A' := by
  induction t using WellFounded.induction (measure (fun t : Tr => SizeOf.sizeOf t)).wf with
  | _ t ih =>
  intro A c c' hc hc' hnd
  obtain ⟨k, st, tag, val, an, h, l, f, row, col, al, kids, rfl⟩ := t.ex
  have ihk : ∀ x ∈ kids, ∀ (A : View) (c c' : Array Value), IsTr A x c → IsTr A x c' → nds x ≤ 1000000 → VCalls Try.prog 44 #[.agg c, .agg c'] A fun r A' => r = .bool true ∧ A ≤ A' := fun x hx => ih x (by
    have := List.sizeOf_lt_of_mem hx
    show SizeOf.sizeOf x < SizeOf.sizeOf (Tr.mk k st tag val an h l f row col al kids)
    simp
    omega)
  clear ih
  obtain ⟨b1, bc1, rfl, hT⟩ := hc.open
  obtain ⟨b2, bc2, rfl, hT'⟩ := hc'.open
  rw [nds_mk] at hnd
  have hkl := nds_len kids
  refine xcalls Try.func44 rfl (by simp [Try.ntmps44]) ?_
  simp only [Try.f44]
  have hP : Priv A (addrs []) := Priv.nil A
  show xc _ _ _ _ _ _ (ov A [])
  refine xc_two fun N1 hN1 => ?_
  refine xc_reg2 fun K hK => ?_
  simp only [rall, rsl, gres]
  refine seqX_hide2 fun R hR => ?_
  simp [go_sem]
  intro q2 hq2
  replace hP := hP.cons hq2
  clear hq2
  refine hR _ _ _ ?_; clear hR R
  refine seqX_hide2 fun R hR => ?_
  simp [go_sem]
  intro q3 hq3
  replace hP := hP.cons hq3
  clear hq3
  have d32 : q3 ≠ q2 := (hP.ne q2 (by simp [addrs])).1
  have d23 : q2 ≠ q3 := (hP.ne q2 (by simp [addrs])).2
  refine hR _ _ _ ?_; clear hR R
  (refine seqX_hide2 fun R hR => ?_; simp [go_sem, d32, d23]; refine hR _ _ _ ?_; clear hR R)
  rw [seqX_nil]
  refine hK _ _ _ ?_; clear hK K
  refine hN1 _ _ _ ?_
  refine xc_two fun N2 hN2 => ?_
  refine xc_two fun N3 hN3 => ?_
  refine xc_reg2 fun K hK => ?_
  simp only [rall, rsl, gres]
  iterate 63 (refine seqX_hide2 fun R hR => ?_; simp [go_sem, d32, d23]; refine hR _ _ _ ?_; clear hR R)
  rw [seqX_nil]
  refine hK _ _ _ ?_; clear hK K
  refine hN3 _ _ _ ?_
  refine xc_iffalse (by simp [go_sem, d32, d23]) ?_
  refine hN2 _ _ _ ?_
  refine xc_two fun N4 hN4 => ?_
  refine xc_two fun N5 hN5 => ?_
  refine xc_reg2 fun K hK => ?_
  simp only [rall, rsl, gres]
  iterate 4 (refine seqX_hide2 fun R hR => ?_; simp [go_sem, d32, d23]; refine hR _ _ _ ?_; clear hR R)
  rw [seqX_nil]
  refine hK _ _ _ ?_; clear hK K
  refine hN5 _ _ _ ?_
  rw [xc_block]
  rw [xc_loop]
  refine vloopK (fun k' e ds A' => ∃ (i : Nat) (D : View), k' = kids.length - i ∧ ds = [] ∧ A' = ov D [(q3, .cells (trc k st tag val an h l f row col al (.slice b2 kids.length bc2)) 24 (0, 0)), (q2, .cells (trc k st tag val an h l f row col al (.slice b1 kids.length bc1)) 24 (0, 0))] ∧ Priv D [q3, q2] ∧ e 2 = .pointer (some ⟨q2, 0, none⟩) ∧ e 3 = .pointer (some ⟨q3, 0, none⟩) ∧ e 71 = .slice b1 kids.length bc1 ∧ e 72 = .int .i64 kids.length ∧ e 73 = .int .i64 i ∧ (i ≤ kids.length) ∧ (A ≤ D)) _ ⟨0, A, rfl, rfl, rfl, hP, by simp [go_sem, d32, d23], by simp [go_sem, d32, d23], by simp [go_sem, d32, d23], by simp [go_sem, d32, d23], by simp [go_sem, d32, d23], by omega, View.le_refl _⟩ ?_
  clear hP
  rintro k' e ds _ ⟨i, D, rfl, rfl, rfl, hP, g2, g3, g71, g72, g73, hil, hAD⟩ J1 X1 hJ1 hX1
  refine xc_sound _ ?_
  have hw1 : IntKind.i64.wrap ((i : Int) + 1) = ((i + 1 : Nat) : Int) := by rw [wrap_in (by omega) (by omega)]; omega
  by_cases hi : i < kids.length
  rotate_left
  · have hii : ¬ (i : Int) < kids.length := by omega
    refine xc_two fun N6 hN6 => ?_
    refine xc_reg2 fun K hK => ?_
    simp only [rall, rsl, gres]
    (refine seqX_hide2 fun R hR => ?_; simp [go_sem, d32, d23, g2, g3, g71, g72, g73, hi, hii]; refine hR _ _ _ ?_; clear hR R)
    rw [seqX_nil]
    refine hK _ _ _ ?_; clear hK K
    refine hN6 _ _ _ ?_
    refine xc_two fun N7 hN7 => ?_
    refine xc_iffalse (by simp [go_sem, d32, d23, g2, g3, g71, g72, g73, hi, hii]) ?_
    refine hX1 _ _ _ _ ?_
    refine hN4 _ _ _ ?_
    refine xc_two fun N8 hN8 => ?_
    refine xc_reg2 fun K hK => ?_
    simp only [rall, rsl, gres]
    (refine seqX_hide2 fun R hR => ?_; simp [go_sem, d32, d23, g2, g3, g71, g72, g73, hi, hii]; refine hR _ _ _ ?_; clear hR R)
    rw [seqX_nil]
    refine hK _ _ _ ?_; clear hK K
    refine hN8 _ _ _ ?_
    simp [go_sem, d32, d23, g2, g3, g71, g72, g73, hi, hii]
    exact View.le_trans hAD (le_ov hP)
  have hii : (i : Int) < kids.length := by omega
  obtain ⟨bs, cap, f1, hel⟩ := hT
  simp only [Value.slice.injEq, true_and] at f1
  obtain ⟨hb1, hbc1⟩ := f1
  obtain ⟨a1, ci, ha1, u1, hci⟩ := hel i hi
  rw [ha1] at hb1
  obtain ⟨bs', cap', f2, hel'⟩ := hT'
  simp only [Value.slice.injEq, true_and] at f2
  obtain ⟨hb2, hbc2⟩ := f2
  obtain ⟨a2, cj, ha2, u2, hcj⟩ := hel' i hi
  rw [ha2] at hb2
  have u1 := le_cells hAD _ _ _ u1
  have u2 := le_cells hAD _ _ _ u2
  have hci := hci.le hAD
  have hcj := hcj.le hAD
  have hz1 := hci.size
  have ho1 := hci.ones
  have hz2 := hcj.size
  have ho2 := hcj.ones
  have hnk : nds kids[i] ≤ 1000000 := by
    have := nds_mem (List.getElem_mem hi)
    omega
  subst hb1
  subst hb2
  refine xc_two fun N6 hN6 => ?_
  refine xc_reg2 fun K hK => ?_
  simp only [rall, rsl, gres]
  (refine seqX_hide2 fun R hR => ?_; simp [go_sem, d32, d23, g2, g3, g71, g72, g73, hi, hii, hw1, hz1, ho1, hz2, ho2, bcs hP u1, bcs hP u2]; refine hR _ _ _ ?_; clear hR R)
  rw [seqX_nil]
  refine hK _ _ _ ?_; clear hK K
  refine hN6 _ _ _ ?_
  refine xc_two fun N7 hN7 => ?_
  refine xc_iftrue (by simp [go_sem, d32, d23, g2, g3, g71, g72, g73, hi, hii, hw1, hz1, ho1, hz2, ho2, bcs hP u1, bcs hP u2]) ?_
  refine hN7 _ _ _ ?_
  refine xc_two fun N8 hN8 => ?_
  rw [xc_block]
  refine xc_two fun N9 hN9 => ?_
  refine xc_reg2 fun K hK => ?_
  simp only [rall, rsl, gres]
  iterate 3 (refine seqX_hide2 fun R hR => ?_; simp [go_sem, d32, d23, g2, g3, g71, g72, g73, hi, hii, hw1, hz1, ho1, hz2, ho2, bcs hP u1, bcs hP u2]; refine hR _ _ _ ?_; clear hR R)
  refine seqX_hide2 fun R hR => ?_
  simp [go_sem, d32, d23, g2, g3, g71, g72, g73, hi, hii, hw1, hz1, ho1, hz2, ho2, bcs hP u1, bcs hP u2]
  intro q6 hq6
  replace hP := hP.cons hq6
  clear hq6
  have d63 : q6 ≠ q3 := (hP.ne q3 (by simp [addrs])).1
  have d36 : q3 ≠ q6 := (hP.ne q3 (by simp [addrs])).2
  have d62 : q6 ≠ q2 := (hP.ne q2 (by simp [addrs])).1
  have d26 : q2 ≠ q6 := (hP.ne q2 (by simp [addrs])).2
  refine hR _ _ _ ?_; clear hR R
  (refine seqX_hide2 fun R hR => ?_; simp [go_sem, d32, d23, g2, g3, g71, g72, g73, hi, hii, hw1, hz1, ho1, hz2, ho2, bcs hP u1, bcs hP u2, d63, d36, d62, d26]; refine hR _ _ _ ?_; clear hR R)
  refine seqX_hide2 fun R hR => ?_
  simp [go_sem, d32, d23, g2, g3, g71, g72, g73, hi, hii, hw1, hz1, ho1, hz2, ho2, bcs hP u1, bcs hP u2, d63, d36, d62, d26]
  refine hR _ _ _ ?_; clear hR R
  rw [seqX_nil]
  refine hK _ _ _ ?_; clear hK K
  refine hN9 _ _ _ ?_
  refine xc_two fun N10 hN10 => ?_
  rw [xc_draws]
  refine vdrawK [(0, true), (1, true), (2, true), (3, true), (4, true), (5, true), (6, false), (7, true)] (ov D [(q6, .cells ci 24 (0, 0)), (q3, .cells (trc k st tag val an h l f row col al (.slice (some a2) kids.length bc2)) 24 (0, 0)), (q2, .cells (trc k st tag val an h l f row col al (.slice (some a1) kids.length bc1)) 24 (0, 0))]) mixed (by kernel_rfl) (View.le_refl _) fun K hK => ?_
  simp only [rsl, gres]
  iterate 6 (refine seqR_hide fun R hR => ?_; simp [go_sem, d32, d23, g2, g3, g71, g72, g73, hi, hii, hw1, hz1, ho1, hz2, ho2, bcs hP u1, bcs hP u2, d63, d36, d62, d26]; refine hR _ _ _ ?_; clear hR R)
  refine seqR_hide fun R hR => ?_
  simp [go_sem, d32, d23, g2, g3, g71, g72, g73, hi, hii, hw1, hz1, ho1, hz2, ho2, bcs hP u1, bcs hP u2, d63, d36, d62, d26]
  refine call_ov hP (ihk _ (List.getElem_mem hi) D ci cj hci hcj hnk) ?_
  clear hP
  rintro _ D2 ⟨rfl, hD2⟩ hP
  refine hR _ _ _ ?_; clear hR R
  (refine seqR_hide fun R hR => ?_; simp [go_sem, d32, d23, g2, g3, g71, g72, g73, hi, hii, hw1, hz1, ho1, hz2, ho2, d63, d36, d62, d26]; refine hR _ _ _ ?_; clear hR R)
  rw [seqR_nil]
  refine hK _ _ _ ?_; clear hK K
  refine hN10 _ _ _ ?_
  refine xc_iffalse (by simp [go_sem, d32, d23, g2, g3, g71, g72, g73, hi, hii, hw1, hz1, ho1, hz2, ho2, d63, d36, d62, d26]) ?_
  refine hN8 _ _ _ ?_
  refine xc_reg2 fun K hK => ?_
  simp only [rall, rsl, gres]
  iterate 2 (refine seqX_hide2 fun R hR => ?_; simp [go_sem, d32, d23, g2, g3, g71, g72, g73, hi, hii, hw1, hz1, ho1, hz2, ho2, d63, d36, d62, d26]; refine hR _ _ _ ?_; clear hR R)
  rw [seqX_nil]
  refine hK _ _ _ ?_; clear hK K
  refine sink_goal 0 hP rfl fun hPn lq6 nq6 => ?_
  clear hP; have hP := hPn; clear hPn
  simp only [List.eraseIdx_cons_zero, List.eraseIdx_cons_succ, addrs_cons, addrs_nil] at hP ⊢
  refine hJ1 (kids.length - (i + 1)) _ _ _ (by omega) ⟨i + 1, _, rfl, rfl, rfl, hP, by simp [go_sem, d32, d23, g2, g3, g71, g72, g73, hi, hii, hw1, hz1, ho1, hz2, ho2, d63, d36, d62, d26], by simp [go_sem, d32, d23, g2, g3, g71, g72, g73, hi, hii, hw1, hz1, ho1, hz2, ho2, d63, d36, d62, d26], by simp [go_sem, d32, d23, g2, g3, g71, g72, g73, hi, hii, hw1, hz1, ho1, hz2, ho2, d63, d36, d62, d26], by simp [go_sem, d32, d23, g2, g3, g71, g72, g73, hi, hii, hw1, hz1, ho1, hz2, ho2, d63, d36, d62, d26], by simp [go_sem, d32, d23, g2, g3, g71, g72, g73, hi, hii, hw1, hz1, ho1, hz2, ho2, d63, d36, d62, d26], by omega, View.le_trans hAD (View.le_trans hD2 lq6)⟩
set_option maxRecDepth 20000 in
theorem has83 (A : View) (s : ByteArray) (x : UInt8) (hs : s.size ≤ 1125899906842624) : VCalls Try.prog 83 #[.string s, .string ⟨#[x]⟩] A fun r A' => IsBr r ∧ A' = A := by
  have hsz : (⟨#[x]⟩ : ByteArray).size = 1 := rfl
  refine xcalls Try.func83 rfl (by simp [Try.ntmps83]) ?_
  simp only [Try.f83]
  have hP : Priv A (addrs []) := Priv.nil A
  show xc _ _ _ _ _ _ (ov A [])
  refine xc_two fun N1 hN1 => ?_
  refine xc_reg2 fun K hK => ?_
  simp only [rall, rsl, gres]
  (refine seqX_hide2 fun R hR => ?_; simp [go_sem]; refine hR _ _ _ ?_; clear hR R)
  rw [seqX_nil]
  refine hK _ _ _ ?_; clear hK K
  refine hN1 _ _ _ ?_
  refine xc_two fun N2 hN2 => ?_
  refine xc_two fun N3 hN3 => ?_
  refine xc_reg2 fun K hK => ?_
  simp only [rall, rsl, gres]
  (refine seqX_hide2 fun R hR => ?_; simp [go_sem]; refine hR _ _ _ ?_; clear hR R)
  rw [seqX_nil]
  refine hK _ _ _ ?_; clear hK K
  refine hN3 _ _ _ ?_
  rw [xc_block]
  rw [xc_loop]
  refine vloopK (fun k' e ds A' => ∃ (i : Nat), k' = s.size - i ∧ ds = [] ∧ A' = ov A [] ∧ Priv A [] ∧ e 0 = .string s ∧ e 1 = .string ⟨#[x]⟩ ∧ e 5 = .int .i64 i ∧ (i ≤ s.size)) _ ⟨0, rfl, rfl, rfl, hP, by simp [go_sem], by simp [go_sem], by simp [go_sem], by omega⟩ ?_
  clear hP
  rintro k' e ds A' ⟨i, rfl, rfl, hV, hP, g0, g1, g5, hil⟩ J1 X1 hJ1 hX1
  refine xc_sound _ ?_
  replace hV := Eq.symm hV; subst hV; replace hP : Priv A (addrs []) := hP
  have hw1 := wrap_nat (i := i) (by omega)
  by_cases hi : i < s.size
  · have hii : (i : Int) < s.size := by omega
    have hi1 : i + 1 ≤ s.size := by omega
    have hi1i : (i : Int) + 1 ≤ s.size := by omega
    have hil' : (i : Int) ≤ s.size := by omega
    have h0i : (0 : Int) ≤ (i : Int) + 1 := by omega
    have hiil : (i : Int) ≤ (i : Int) + 1 := by omega
    cases hb : ((s.extract i (i + 1)).toList == [x]) with
    | true =>
      refine xc_two fun N4 hN4 => ?_
      refine xc_two fun N5 hN5 => ?_
      refine xc_reg2 fun K hK => ?_
      simp only [rall, rsl, gres]
      iterate 7 (refine seqX_hide2 fun R hR => ?_; simp [go_sem, g0, g1, g5, hi, hii, hw1, hsz, hi1, hi1i, xslice, hil, hil', hiil, h0i, hb]; refine hR _ _ _ ?_; clear hR R)
      rw [seqX_nil]
      refine hK _ _ _ ?_; clear hK K
      refine hN5 _ _ _ ?_
      refine xc_iftrue (by simp [go_sem, g0, g1, g5, hi, hii, hw1, hsz, hi1, hi1i, xslice, hil, hil', hiil, h0i, hb]) ?_
      refine hN4 _ _ _ ?_
      refine xc_two fun N6 hN6 => ?_
      rw [xc_block]
      refine xc_two fun N7 hN7 => ?_
      refine xc_reg2 fun K hK => ?_
      simp only [rall, rsl, gres]
      iterate 9 (refine seqX_hide2 fun R hR => ?_; simp [go_sem, g0, g1, g5, hi, hii, hw1, hsz, hi1, hi1i, xslice, hil, hil', hiil, h0i, hb]; refine hR _ _ _ ?_; clear hR R)
      rw [seqX_nil]
      refine hK _ _ _ ?_; clear hK K
      refine hN7 _ _ _ ?_
      refine xc_iftrue (by simp [go_sem, g0, g1, g5, hi, hii, hw1, hsz, hi1, hi1i, xslice, hil, hil', hiil, h0i, hb]) ?_
      refine xc_two fun N8 hN8 => ?_
      refine xc_reg2 fun K hK => ?_
      simp only [rall, rsl, gres]
      (refine seqX_hide2 fun R hR => ?_; simp [go_sem, g0, g1, g5, hi, hii, hw1, hsz, hi1, hi1i, xslice, hil, hil', hiil, h0i, hb]; refine hR _ _ _ ?_; clear hR R)
      rw [seqX_nil]
      refine hK _ _ _ ?_; clear hK K
      refine hN8 _ _ _ ?_
      refine hX1 _ _ _ _ ?_
      simp [go_sem, g0, g1, g5, hi, hii, hw1, hsz, hi1, hi1i, xslice, hil, hil', hiil, h0i, hb]
      exact ⟨⟨_, rfl⟩, rfl⟩
    | false =>
      refine xc_two fun N4 hN4 => ?_
      refine xc_two fun N5 hN5 => ?_
      refine xc_reg2 fun K hK => ?_
      simp only [rall, rsl, gres]
      iterate 7 (refine seqX_hide2 fun R hR => ?_; simp [go_sem, g0, g1, g5, hi, hii, hw1, hsz, hi1, hi1i, xslice, hil, hil', hiil, h0i, hb]; refine hR _ _ _ ?_; clear hR R)
      rw [seqX_nil]
      refine hK _ _ _ ?_; clear hK K
      refine hN5 _ _ _ ?_
      refine xc_iftrue (by simp [go_sem, g0, g1, g5, hi, hii, hw1, hsz, hi1, hi1i, xslice, hil, hil', hiil, h0i, hb]) ?_
      refine hN4 _ _ _ ?_
      refine xc_two fun N6 hN6 => ?_
      rw [xc_block]
      refine xc_two fun N7 hN7 => ?_
      refine xc_reg2 fun K hK => ?_
      simp only [rall, rsl, gres]
      iterate 9 (refine seqX_hide2 fun R hR => ?_; simp [go_sem, g0, g1, g5, hi, hii, hw1, hsz, hi1, hi1i, xslice, hil, hil', hiil, h0i, hb]; refine hR _ _ _ ?_; clear hR R)
      rw [seqX_nil]
      refine hK _ _ _ ?_; clear hK K
      refine hN7 _ _ _ ?_
      refine xc_iffalse (by simp [go_sem, g0, g1, g5, hi, hii, hw1, hsz, hi1, hi1i, xslice, hil, hil', hiil, h0i, hb]) ?_
      refine hN6 _ _ _ ?_
      refine xc_reg2 fun K hK => ?_
      simp only [rall, rsl, gres]
      iterate 3 (refine seqX_hide2 fun R hR => ?_; simp [go_sem, g0, g1, g5, hi, hii, hw1, hsz, hi1, hi1i, xslice, hil, hil', hiil, h0i, hb]; refine hR _ _ _ ?_; clear hR R)
      rw [seqX_nil]
      refine hK _ _ _ ?_; clear hK K
      refine hJ1 (s.size - (i + 1)) _ _ _ (by omega) ⟨i + 1, rfl, rfl, rfl, hP, by simp [go_sem, g0, g1, g5, hi, hii, hw1, hsz, hi1, hi1i, xslice, hil, hil', hiil, h0i, hb], by simp [go_sem, g0, g1, g5, hi, hii, hw1, hsz, hi1, hi1i, xslice, hil, hil', hiil, h0i, hb], by simp [go_sem, g0, g1, g5, hi, hii, hw1, hsz, hi1, hi1i, xslice, hil, hil', hiil, h0i, hb], by omega⟩
  · skip
    have hii : ¬ (i : Int) < s.size := by omega
    have hi1 : ¬ i + 1 ≤ s.size := by omega
    have hi1i : ¬ (i : Int) + 1 ≤ s.size := by omega
    refine xc_two fun N4 hN4 => ?_
    refine xc_two fun N5 hN5 => ?_
    refine xc_reg2 fun K hK => ?_
    simp only [rall, rsl, gres]
    iterate 7 (refine seqX_hide2 fun R hR => ?_; simp [go_sem, g0, g1, g5, hi, hii, hw1, hsz, hi1, hi1i]; refine hR _ _ _ ?_; clear hR R)
    rw [seqX_nil]
    refine hK _ _ _ ?_; clear hK K
    refine hN5 _ _ _ ?_
    refine xc_iffalse (by simp [go_sem, g0, g1, g5, hi, hii, hw1, hsz, hi1, hi1i]) ?_
    refine hX1 _ _ _ _ ?_
    refine hN2 _ _ _ ?_
    refine xc_two fun N6 hN6 => ?_
    refine xc_reg2 fun K hK => ?_
    simp only [rall, rsl, gres]
    (refine seqX_hide2 fun R hR => ?_; simp [go_sem, g0, g1, g5, hi, hii, hw1, hsz, hi1, hi1i]; refine hR _ _ _ ?_; clear hR R)
    rw [seqX_nil]
    refine hK _ _ _ ?_; clear hK K
    refine hN6 _ _ _ ?_
    simp [go_sem, g0, g1, g5, hi, hii, hw1, hsz, hi1, hi1i]
    exact ⟨⟨_, rfl⟩, rfl⟩
/-- The styles that a dressed tree has. -/
def DS : Tr → Prop
  | .mk k st tag val an h l f row col al kids => (st = 0 ∨ st = 2 ∨ st = 4 ∨ st = 32) ∧ ∀ j (hj : j < kids.length), DS (kids[j])
termination_by v => SizeOf.sizeOf v
decreasing_by
  have := List.sizeOf_lt_of_mem (List.getElem_mem hj)
  simp
  omega
theorem DS.kid {t x : Tr} (h : DS t) (hx : x ∈ t.kids) : DS x := by
  obtain ⟨k, st, tag, val, an, hh, l, f, row, col, al, kids, rfl⟩ := t.ex
  rw [DS] at h
  obtain ⟨j, hj, rfl⟩ := List.getElem_of_mem hx
  exact h.2 j hj
set_option maxRecDepth 20000 in
set_option maxHeartbeats 400000 in
theorem dressed68 (t : Tr) : ∀ (A : View) (c : Array Value), IsTr A t c → SB t → VCalls Try.prog 68 #[.agg c] A fun r A' => FB (DS t) r ∧ A ≤ A' := by
  induction t using WellFounded.induction (measure (fun t : Tr => SizeOf.sizeOf t)).wf with
  | _ t ih =>
  intro A c hc hsb
  have hkl := hsb.len
  have hskd := fun x (hx : x ∈ t.kids) => hsb.kid hx
  obtain ⟨k, st, tag, val, an, h, l, f, row, col, al, kids, rfl⟩ := t.ex
  replace hkl : kids.length ≤ 1125899906842624 := hkl
  replace hskd : ∀ x, x ∈ kids → SB x := hskd
  obtain ⟨⟨-, -, -, sh, sl, sf⟩, -⟩ := hsb.open
  have ihk : ∀ x ∈ kids, ∀ (A : View) (c : Array Value), IsTr A x c → SB x → VCalls Try.prog 68 #[.agg c] A fun r A' => FB (DS x) r ∧ A ≤ A' := fun x hx => ih x (by
    have := List.sizeOf_lt_of_mem hx
    show SizeOf.sizeOf x < SizeOf.sizeOf (Tr.mk k st tag val an h l f row col al kids)
    simp
    omega)
  clear ih
  obtain ⟨bs, cap, rfl, hT⟩ := hc.open
  have wa : IntKind.i64.wrap ((h.size : Int) + l.size) = (h.size : Int) + l.size := wrap_in (by omega) (by omega)
  have wb : IntKind.i64.wrap ((h.size : Int) + l.size + f.size) = (h.size : Int) + l.size + f.size := wrap_in (by omega) (by omega)
  refine xcalls Try.func68 rfl (by simp [Try.ntmps68]) ?_
  simp only [Try.f68]
  have hP : Priv A (addrs []) := Priv.nil A
  show xc _ _ _ _ _ _ (ov A [])
  refine xc_two fun N1 hN1 => ?_
  refine xc_reg2 fun K hK => ?_
  simp only [rall, rsl, gres]
  refine seqX_hide2 fun R hR => ?_
  simp [go_sem, wa, wb]
  intro q1 hq1
  replace hP := hP.cons hq1
  clear hq1
  refine hR _ _ _ ?_; clear hR R
  (refine seqX_hide2 fun R hR => ?_; simp [go_sem, wa, wb]; refine hR _ _ _ ?_; clear hR R)
  rw [seqX_nil]
  refine hK _ _ _ ?_; clear hK K
  refine hN1 _ _ _ ?_
  refine xc_two fun N2 hN2 => ?_
  refine xc_two fun N3 hN3 => ?_
  have ok : ∀  (e : Env), Priv A [q1] → e 1 = .pointer (some ⟨q1, 0, none⟩) → (st = 0 ∨ st = 2 ∨ st = 4 ∨ st = 32) → N2 e [] (ov A [(q1, .cells (trc k st tag val an h l f row col al (.slice bs kids.length cap)) 24 (0, 0))]) := by
    clear hP
    intro e hP g1 hst
    refine hN2 _ _ _ ?_
    refine xc_two fun N4 hN4 => ?_
    refine xc_two fun N5 hN5 => ?_
    refine xc_reg2 fun K hK => ?_
    simp only [rall, rsl, gres]
    iterate 6 (refine seqX_hide2 fun R hR => ?_; simp [go_sem, wa, wb, g1]; refine hR _ _ _ ?_; clear hR R)
    refine seqX_hide2 fun R hR => ?_
    simp [go_sem, wa, wb, g1]
    intro q59 hq59
    replace hP := hP.cons hq59
    clear hq59
    have d591 : q59 ≠ q1 := (hP.ne q1 (by simp [addrs])).1
    have d159 : q1 ≠ q59 := (hP.ne q1 (by simp [addrs])).2
    refine hR _ _ _ ?_; clear hR R
    iterate 2 (refine seqX_hide2 fun R hR => ?_; simp [go_sem, wa, wb, g1, d591, d159]; refine hR _ _ _ ?_; clear hR R)
    rw [seqX_nil]
    refine hK _ _ _ ?_; clear hK K
    refine hN5 _ _ _ ?_
    rw [xc_block]
    obtain ⟨eq59, hPn, nq59⟩ := sinkI (A := A) (L := [(q59, .cells #[.string h, .string l, .string f] 9 (0, 0)), (q1, .cells (trc k st tag val an h l f row col al (.slice bs kids.length cap)) 24 (0, 0))]) 0 hP rfl
    rw [eq59]
    clear eq59 hP; have hP := hPn; clear hPn
    simp only [List.eraseIdx_cons_zero, List.eraseIdx_cons_succ, addrs_cons, addrs_nil] at hP ⊢
    have lq59 : A ≤ A.set q59 (.cells #[.string h, .string l, .string f] 9 (0, 0)) := le_set nq59
    have ht3 : Texts (A.set q59 (.cells #[.string h, .string l, .string f] 9 (0, 0))) (.slice (some ⟨q59, 0, none⟩) 3 3) [h, l, f] := .inl ⟨_, 3, rfl, cells_block (set_at _ _ _) rfl⟩
    generalize A.set q59 (.cells #[.string h, .string l, .string f] 9 (0, 0)) = A1 at hP lq59 ht3 ⊢
    rw [xc_loop]
    refine vloopK (fun k' e ds A' => ∃ (j : Nat), k' = 3 - j ∧ ds = [] ∧ A' = ov A1 [(q1, .cells (trc k st tag val an h l f row col al (.slice bs kids.length cap)) 24 (0, 0))] ∧ Priv A1 [q1] ∧ e 1 = .pointer (some ⟨q1, 0, none⟩) ∧ e 59 = .slice (some ⟨q59, 0, none⟩) 3 3 ∧ e 60 = .int .i64 3 ∧ e 61 = .int .i64 j ∧ (j ≤ 3)) _ ⟨0, rfl, rfl, rfl, hP, by simp [go_sem, wa, wb, g1, d591, d159], by simp [go_sem, wa, wb, g1, d591, d159], by simp [go_sem, wa, wb, g1, d591, d159], by simp [go_sem, wa, wb, g1, d591, d159], by omega⟩ ?_
    clear g1
    clear hP
    rintro k' e ds _ ⟨j, rfl, rfl, rfl, hP, g1, g59, g60, g61, hjl⟩ J1 X1 hJ1 hX1
    refine xc_sound _ ?_
    have hwj : IntKind.i64.wrap ((j : Int) + 1) = ((j + 1 : Nat) : Int) := by rw [wrap_in (by omega) (by omega)]; omega
    by_cases hj : j < 3
    rotate_left
    · have hji : ¬ (j : Int) < 3 := by omega
      refine xc_two fun N6 hN6 => ?_
      refine xc_reg2 fun K hK => ?_
      simp only [rall, rsl, gres]
      (refine seqX_hide2 fun R hR => ?_; simp [go_sem, wa, wb, d591, d159, g1, g59, g60, g61, hj, hji]; refine hR _ _ _ ?_; clear hR R)
      rw [seqX_nil]
      refine hK _ _ _ ?_; clear hK K
      refine hN6 _ _ _ ?_
      refine xc_two fun N7 hN7 => ?_
      refine xc_iffalse (by simp [go_sem, wa, wb, d591, d159, g1, g59, g60, g61, hj, hji]) ?_
      refine hX1 _ _ _ _ ?_
      refine hN4 _ _ _ ?_
      refine xc_two fun N8 hN8 => ?_
      refine xc_two fun N9 hN9 => ?_
      refine xc_reg2 fun K hK => ?_
      simp only [rall, rsl, gres]
      iterate 4 (refine seqX_hide2 fun R hR => ?_; simp [go_sem, wa, wb, d591, d159, g1, g59, g60, g61, hj, hji]; refine hR _ _ _ ?_; clear hR R)
      rw [seqX_nil]
      refine hK _ _ _ ?_; clear hK K
      refine hN9 _ _ _ ?_
      rw [xc_block]
      rw [xc_loop]
      refine vloopK (fun k' e ds A' => ∃ (i : Nat) (D : View), k' = kids.length - i ∧ ds = [] ∧ A' = ov D [(q1, .cells (trc k st tag val an h l f row col al (.slice bs kids.length cap)) 24 (0, 0))] ∧ Priv D [q1] ∧ e 1 = .pointer (some ⟨q1, 0, none⟩) ∧ e 82 = .slice bs kids.length cap ∧ e 83 = .int .i64 kids.length ∧ e 84 = .int .i64 i ∧ (i ≤ kids.length) ∧ (A ≤ D) ∧ (∀ m (hm : m < kids.length), m < i → DS kids[m])) _ ⟨0, A1, rfl, rfl, rfl, hP, by simp [go_sem, wa, wb, d591, d159, g1, g59, g60, g61, hj, hji], by simp [go_sem, wa, wb, d591, d159, g1, g59, g60, g61, hj, hji], by simp [go_sem, wa, wb, d591, d159, g1, g59, g60, g61, hj, hji], by simp [go_sem, wa, wb, d591, d159, g1, g59, g60, g61, hj, hji], by omega, lq59, fun m hm e => by omega⟩ ?_
      clear g1 g59 g60 g61
      clear hP
      rintro k' e ds _ ⟨i, D, rfl, rfl, rfl, hP, g1, g82, g83, g84, hil, hAD, hds⟩ J1 X1 hJ1 hX1
      refine xc_sound _ ?_
      have hw1 : IntKind.i64.wrap ((i : Int) + 1) = ((i + 1 : Nat) : Int) := by rw [wrap_in (by omega) (by omega)]; omega
      by_cases hi : i < kids.length
      rotate_left
      · have hii : ¬ (i : Int) < kids.length := by omega
        refine xc_two fun N10 hN10 => ?_
        refine xc_reg2 fun K hK => ?_
        simp only [rall, rsl, gres]
        (refine seqX_hide2 fun R hR => ?_; simp [go_sem, wa, wb, d591, d159, hj, hji, g1, g82, g83, g84, hi, hii]; refine hR _ _ _ ?_; clear hR R)
        rw [seqX_nil]
        refine hK _ _ _ ?_; clear hK K
        refine hN10 _ _ _ ?_
        refine xc_two fun N11 hN11 => ?_
        refine xc_iffalse (by simp [go_sem, wa, wb, d591, d159, hj, hji, g1, g82, g83, g84, hi, hii]) ?_
        refine hX1 _ _ _ _ ?_
        refine hN8 _ _ _ ?_
        refine xc_two fun N12 hN12 => ?_
        refine xc_reg2 fun K hK => ?_
        simp only [rall, rsl, gres]
        (refine seqX_hide2 fun R hR => ?_; simp [go_sem, wa, wb, d591, d159, hj, hji, g1, g82, g83, g84, hi, hii]; refine hR _ _ _ ?_; clear hR R)
        rw [seqX_nil]
        refine hK _ _ _ ?_; clear hK K
        refine hN12 _ _ _ ?_
        simp [go_sem, wa, wb, d591, d159, hj, hji, g1, g82, g83, g84, hi, hii]
        refine ⟨FB.yes ?_, View.le_trans hAD ?_⟩
        · rw [DS]
          exact ⟨hst, fun m hm => hds m hm (by omega)⟩
        · exact le_ov hP
      have hii : (i : Int) < kids.length := by omega
      obtain ⟨bs', cap', f1, hel⟩ := hT
      simp only [Value.slice.injEq, true_and] at f1
      obtain ⟨rfl, rfl⟩ := f1
      obtain ⟨a, ci, rfl, u0, hci0⟩ := hel i hi
      have hx := List.getElem_mem hi
      have u1 := le_cells hAD _ _ _ u0
      have hcz1 := hci0.size
      have hco1 := hci0.ones
      refine xc_two fun N10 hN10 => ?_
      refine xc_reg2 fun K hK => ?_
      simp only [rall, rsl, gres]
      (refine seqX_hide2 fun R hR => ?_; simp [go_sem, wa, wb, d591, d159, hj, hji, g1, g82, g83, g84, hi, hii, hw1, hcz1, hco1, bcs hP u1]; refine hR _ _ _ ?_; clear hR R)
      rw [seqX_nil]
      refine hK _ _ _ ?_; clear hK K
      refine hN10 _ _ _ ?_
      refine xc_two fun N11 hN11 => ?_
      refine xc_iftrue (by simp [go_sem, wa, wb, d591, d159, hj, hji, g1, g82, g83, g84, hi, hii, hw1, hcz1, hco1, bcs hP u1]) ?_
      refine hN11 _ _ _ ?_
      refine xc_two fun N12 hN12 => ?_
      rw [xc_block]
      refine xc_two fun N13 hN13 => ?_
      refine xc_reg2 fun K hK => ?_
      simp only [rall, rsl, gres]
      iterate 2 (refine seqX_hide2 fun R hR => ?_; simp [go_sem, wa, wb, d591, d159, hj, hji, g1, g82, g83, g84, hi, hii, hw1, hcz1, hco1, bcs hP u1]; refine hR _ _ _ ?_; clear hR R)
      refine seqX_hide2 fun R hR => ?_
      simp [go_sem, wa, wb, d591, d159, hj, hji, g1, g82, g83, g84, hi, hii, hw1, hcz1, hco1, bcs hP u1]
      intro q6 hq6
      replace hP := hP.cons hq6
      clear hq6
      have d61 : q6 ≠ q1 := (hP.ne q1 (by simp [addrs])).1
      have d16 : q1 ≠ q6 := (hP.ne q1 (by simp [addrs])).2
      refine hR _ _ _ ?_; clear hR R
      refine seqX_hide2 fun R hR => ?_
      simp [go_sem, wa, wb, d591, d159, hj, hji, g1, g82, g83, g84, hi, hii, hw1, hcz1, hco1, bcs hP u1, d61, d16]
      refine hR _ _ _ ?_; clear hR R
      rw [seqX_nil]
      refine hK _ _ _ ?_; clear hK K
      refine hN13 _ _ _ ?_
      refine xc_two fun N14 hN14 => ?_
      refine xc_reg2 fun K hK => ?_
      simp only [rall, rsl, gres]
      (refine seqX_hide2 fun R hR => ?_; simp [go_sem, wa, wb, d591, d159, hj, hji, g1, g82, g83, g84, hi, hii, hw1, hcz1, hco1, bcs hP u1, d61, d16]; refine hR _ _ _ ?_; clear hR R)
      refine seqX_hide2 fun R hR => ?_
      simp [go_sem, wa, wb, d591, d159, hj, hji, g1, g82, g83, g84, hi, hii, hw1, hcz1, hco1, bcs hP u1, d61, d16]
      refine call_ov hP (ihk _ hx D ci (hci0.le hAD) (hskd _ hx)) ?_
      clear hP
      rintro _ D2 ⟨⟨b, rfl, hb⟩, hD2⟩ hP
      have hAD2 := View.le_trans hAD hD2
      cases b with
      | false =>
        refine hR _ _ _ ?_; clear hR R
        (refine seqX_hide2 fun R hR => ?_; simp [go_sem, wa, wb, d591, d159, hj, hji, g1, g82, g83, g84, hi, hii, hw1, hcz1, hco1, d61, d16]; refine hR _ _ _ ?_; clear hR R)
        rw [seqX_nil]
        refine hK _ _ _ ?_; clear hK K
        refine hN14 _ _ _ ?_
        refine xc_iftrue (by simp [go_sem, wa, wb, d591, d159, hj, hji, g1, g82, g83, g84, hi, hii, hw1, hcz1, hco1, d61, d16]) ?_
        refine xc_two fun N15 hN15 => ?_
        refine xc_reg2 fun K hK => ?_
        simp only [rall, rsl, gres]
        (refine seqX_hide2 fun R hR => ?_; simp [go_sem, wa, wb, d591, d159, hj, hji, g1, g82, g83, g84, hi, hii, hw1, hcz1, hco1, d61, d16]; refine hR _ _ _ ?_; clear hR R)
        rw [seqX_nil]
        refine hK _ _ _ ?_; clear hK K
        refine hN15 _ _ _ ?_
        refine hX1 _ _ _ _ ?_
        simp [go_sem, wa, wb, d591, d159, hj, hji, g1, g82, g83, g84, hi, hii, hw1, hcz1, hco1, d61, d16]
        refine ⟨FB.no _, View.le_trans hAD2 ?_⟩
        exact le_ov hP
      | true =>
      have hb := hb rfl
      refine hR _ _ _ ?_; clear hR R
      (refine seqX_hide2 fun R hR => ?_; simp [go_sem, wa, wb, d591, d159, hj, hji, g1, g82, g83, g84, hi, hii, hw1, hcz1, hco1, d61, d16]; refine hR _ _ _ ?_; clear hR R)
      rw [seqX_nil]
      refine hK _ _ _ ?_; clear hK K
      refine hN14 _ _ _ ?_
      refine xc_iffalse (by simp [go_sem, wa, wb, d591, d159, hj, hji, g1, g82, g83, g84, hi, hii, hw1, hcz1, hco1, d61, d16]) ?_
      refine hN12 _ _ _ ?_
      refine xc_reg2 fun K hK => ?_
      simp only [rall, rsl, gres]
      iterate 2 (refine seqX_hide2 fun R hR => ?_; simp [go_sem, wa, wb, d591, d159, hj, hji, g1, g82, g83, g84, hi, hii, hw1, hcz1, hco1, d61, d16]; refine hR _ _ _ ?_; clear hR R)
      rw [seqX_nil]
      refine hK _ _ _ ?_; clear hK K
      refine sink_goal 0 hP rfl fun hPn lq6 nq6 => ?_
      clear hP; have hP := hPn; clear hPn
      simp only [List.eraseIdx_cons_zero, List.eraseIdx_cons_succ, addrs_cons, addrs_nil] at hP ⊢
      refine hJ1 (kids.length - (i + 1)) _ _ _ (by omega) ⟨i + 1, _, rfl, rfl, rfl, hP, by simp [go_sem, wa, wb, d591, d159, hj, hji, g1, g82, g83, g84, hi, hii, hw1, hcz1, hco1, d61, d16], by simp [go_sem, wa, wb, d591, d159, hj, hji, g1, g82, g83, g84, hi, hii, hw1, hcz1, hco1, d61, d16], by simp [go_sem, wa, wb, d591, d159, hj, hji, g1, g82, g83, g84, hi, hii, hw1, hcz1, hco1, d61, d16], by simp [go_sem, wa, wb, d591, d159, hj, hji, g1, g82, g83, g84, hi, hii, hw1, hcz1, hco1, d61, d16], by omega, View.le_trans hAD2 lq6, fun m hm e => by rcases Nat.lt_or_eq_of_le (Nat.le_of_lt_succ e) with e2 | e2; exact hds m hm e2; subst e2; exact hb⟩
    have hji : (j : Int) < 3 := by omega
    have hsz : ([h, l, f][j]'hj).size ≤ 1125899906842624 := by
      have : ([h, l, f][j]'hj) ∈ [h, l, f] := List.getElem_mem hj
      simp only [List.mem_cons, List.not_mem_nil, or_false] at this
      rcases this with e | e | e <;> rw [e] <;> assumption
    obtain ⟨aj, kj, fj, uj⟩ := ht3.at' (i := j) hj
    simp only [Value.slice.injEq, Option.some.injEq] at fj
    obtain ⟨rfl, -, -⟩ := fj
    rw [at_add, Nat.zero_add] at uj
    generalize hse : ([h, l, f][j]'hj) = s at uj hsz
    refine xc_two fun N6 hN6 => ?_
    refine xc_reg2 fun K hK => ?_
    simp only [rall, rsl, gres]
    (refine seqX_hide2 fun R hR => ?_; simp [go_sem, wa, wb, d591, d159, g1, g59, g60, g61, hj, hji, hwj, bc hP uj, xindexAt, vload]; refine hR _ _ _ ?_; clear hR R)
    rw [seqX_nil]
    refine hK _ _ _ ?_; clear hK K
    refine hN6 _ _ _ ?_
    refine xc_two fun N7 hN7 => ?_
    refine xc_iftrue (by simp [go_sem, wa, wb, d591, d159, g1, g59, g60, g61, hj, hji, hwj, bc hP uj, xindexAt, vload]) ?_
    refine hN7 _ _ _ ?_
    refine xc_two fun N8 hN8 => ?_
    rw [xc_block]
    refine xc_two fun N9 hN9 => ?_
    refine xc_reg2 fun K hK => ?_
    simp only [rall, rsl, gres]
    iterate 3 (refine seqX_hide2 fun R hR => ?_; simp [go_sem, wa, wb, d591, d159, g1, g59, g60, g61, hj, hji, hwj, bc hP uj, xindexAt, vload]; refine hR _ _ _ ?_; clear hR R)
    rw [seqX_nil]
    refine hK _ _ _ ?_; clear hK K
    refine hN9 _ _ _ ?_
    refine xc_two fun N10 hN10 => ?_
    by_cases h0 : s = e0
    · have g0a : s.toList = [] := by rw [h0]; kernel_rfl
      have g0b : s.toList.isEmpty = true := by rw [g0a]; rfl
      have g0c : s = ByteArray.empty := h0
      refine xc_reg2 fun K hK => ?_
      simp only [rall, rsl, gres]
      iterate 8 (refine seqX_hide2 fun R hR => ?_; simp [go_sem, wa, wb, d591, d159, g1, g59, g60, g61, hj, hji, hwj, xindexAt, vload, g0a, g0b, g0c]; refine hR _ _ _ ?_; clear hR R)
      refine seqX_hide2 fun R hR => ?_
      simp [go_sem, wa, wb, d591, d159, g1, g59, g60, g61, hj, hji, hwj, xindexAt, vload, g0a, g0b, g0c]
      refine hR _ _ _ ?_; clear hR R
      iterate 3 (refine seqX_hide2 fun R hR => ?_; simp [go_sem, wa, wb, d591, d159, g1, g59, g60, g61, hj, hji, hwj, xindexAt, vload, g0a, g0b, g0c]; refine hR _ _ _ ?_; clear hR R)
      refine seqX_hide2 fun R hR => ?_
      simp [go_sem, wa, wb, d591, d159, g1, g59, g60, g61, hj, hji, hwj, xindexAt, vload, g0a, g0b, g0c]
      refine hR _ _ _ ?_; clear hR R
      iterate 2 (refine seqX_hide2 fun R hR => ?_; simp [go_sem, wa, wb, d591, d159, g1, g59, g60, g61, hj, hji, hwj, xindexAt, vload, g0a, g0b, g0c]; refine hR _ _ _ ?_; clear hR R)
      rw [seqX_nil]
      refine hK _ _ _ ?_; clear hK K
      refine hN10 _ _ _ ?_
      refine xc_iffalse (by simp [go_sem, wa, wb, d591, d159, g1, g59, g60, g61, hj, hji, hwj, xindexAt, vload, g0a, g0b, g0c]) ?_
      refine hN8 _ _ _ ?_
      refine xc_reg2 fun K hK => ?_
      simp only [rall, rsl, gres]
      iterate 2 (refine seqX_hide2 fun R hR => ?_; simp [go_sem, wa, wb, d591, d159, g1, g59, g60, g61, hj, hji, hwj, xindexAt, vload, g0a, g0b, g0c]; refine hR _ _ _ ?_; clear hR R)
      rw [seqX_nil]
      refine hK _ _ _ ?_; clear hK K
      refine hJ1 (3 - (j + 1)) _ _ _ (by omega) ⟨j + 1, rfl, rfl, rfl, hP, by simp [go_sem, wa, wb, d591, d159, g1, g59, g60, g61, hj, hji, hwj, xindexAt, vload, g0a, g0b, g0c], by simp [go_sem, wa, wb, d591, d159, g1, g59, g60, g61, hj, hji, hwj, xindexAt, vload, g0a, g0b, g0c], by simp [go_sem, wa, wb, d591, d159, g1, g59, g60, g61, hj, hji, hwj, xindexAt, vload, g0a, g0b, g0c], by simp [go_sem, wa, wb, d591, d159, g1, g59, g60, g61, hj, hji, hwj, xindexAt, vload, g0a, g0b, g0c], by omega⟩
    have n1 := (ne_empty h0).1
    have n2 := (ne_empty h0).2
    have n3 : ¬ s = ByteArray.empty := h0
    have n4 : 0 < s.size := by
      rcases Nat.eq_zero_or_pos s.size with e | e
      · exact absurd (show s = e0 from by
          apply ByteArray.ext
          apply Array.toList_inj.1
          exact List.eq_nil_of_length_eq_zero (by rw [Array.length_toList]; exact e)) h0
      · exact e
    have n5 : s[0]? = some s[0] := getElem?_pos s 0 n4
    cases hc35 : ((s[0].toNat : Int) == 35) with
    | false =>
      have h35 : ¬ (s[0].toNat : Int) = 35 := beq_eq_false_iff_ne.1 hc35
      have hcn : ((s[0].toNat : Int) != 35) = true := bne_iff_ne.2 h35
      refine xc_reg2 fun K hK => ?_
      simp only [rall, rsl, gres]
      iterate 8 (refine seqX_hide2 fun R hR => ?_; simp [go_sem, wa, wb, d591, d159, g1, g59, g60, g61, hj, hji, hwj, xindexAt, vload, n1, n2, n3, n4, n5, xindex, hc35, h35, hcn]; refine hR _ _ _ ?_; clear hR R)
      refine seqX_hide2 fun R hR => ?_
      simp [go_sem, wa, wb, d591, d159, g1, g59, g60, g61, hj, hji, hwj, xindexAt, vload, n1, n2, n3, n4, n5, xindex, hc35, h35, hcn]
      refine hR _ _ _ ?_; clear hR R
      iterate 3 (refine seqX_hide2 fun R hR => ?_; simp [go_sem, wa, wb, d591, d159, g1, g59, g60, g61, hj, hji, hwj, xindexAt, vload, n1, n2, n3, n4, n5, xindex, hc35, h35, hcn]; refine hR _ _ _ ?_; clear hR R)
      refine seqX_hide2 fun R hR => ?_
      simp [go_sem, wa, wb, d591, d159, g1, g59, g60, g61, hj, hji, hwj, xindexAt, vload, n1, n2, n3, n4, n5, xindex, hc35, h35, hcn]
      refine hR _ _ _ ?_; clear hR R
      iterate 2 (refine seqX_hide2 fun R hR => ?_; simp [go_sem, wa, wb, d591, d159, g1, g59, g60, g61, hj, hji, hwj, xindexAt, vload, n1, n2, n3, n4, n5, xindex, hc35, h35, hcn]; refine hR _ _ _ ?_; clear hR R)
      rw [seqX_nil]
      refine hK _ _ _ ?_; clear hK K
      refine hN10 _ _ _ ?_
      refine xc_iftrue (by simp [go_sem, wa, wb, d591, d159, g1, g59, g60, g61, hj, hji, hwj, xindexAt, vload, n1, n2, n3, n4, n5, xindex, hc35, h35, hcn]) ?_
      refine xc_two fun N11 hN11 => ?_
      refine xc_reg2 fun K hK => ?_
      simp only [rall, rsl, gres]
      (refine seqX_hide2 fun R hR => ?_; simp [go_sem, wa, wb, d591, d159, g1, g59, g60, g61, hj, hji, hwj, xindexAt, vload, n1, n2, n3, n4, n5, xindex, hc35, h35, hcn]; refine hR _ _ _ ?_; clear hR R)
      rw [seqX_nil]
      refine hK _ _ _ ?_; clear hK K
      refine hN11 _ _ _ ?_
      refine hX1 _ _ _ _ ?_
      simp [go_sem, wa, wb, d591, d159, g1, g59, g60, g61, hj, hji, hwj, xindexAt, vload, n1, n2, n3, n4, n5, xindex, hc35, h35, hcn]
      refine ⟨FB.no _, View.le_trans lq59 ?_⟩
      exact le_ov hP
    | true =>
    have h35 : (s[0].toNat : Int) = 35 := beq_iff_eq.1 hc35
    have hcn : ((s[0].toNat : Int) != 35) = false := by rw [bne, hc35]; rfl
    refine xc_reg2 fun K hK => ?_
    simp only [rall, rsl, gres]
    iterate 8 (refine seqX_hide2 fun R hR => ?_; simp [go_sem, wa, wb, d591, d159, g1, g59, g60, g61, hj, hji, hwj, xindexAt, vload, n1, n2, n3, n4, n5, xindex, hc35, h35, hcn]; refine hR _ _ _ ?_; clear hR R)
    refine seqX_hide2 fun R hR => ?_
    simp [go_sem, wa, wb, d591, d159, g1, g59, g60, g61, hj, hji, hwj, xindexAt, vload, n1, n2, n3, n4, n5, xindex, hc35, h35, hcn]
    refine call_same hP (has83 A1 s 10 hsz) ?_
    rintro _ ⟨b, rfl⟩
    cases b with
    | true =>
      refine hR _ _ _ ?_; clear hR R
      iterate 3 (refine seqX_hide2 fun R hR => ?_; simp [go_sem, wa, wb, d591, d159, g1, g59, g60, g61, hj, hji, hwj, xindexAt, vload, n1, n2, n3, n4, n5, xindex, hc35, h35, hcn]; refine hR _ _ _ ?_; clear hR R)
      refine seqX_hide2 fun R hR => ?_
      simp [go_sem, wa, wb, d591, d159, g1, g59, g60, g61, hj, hji, hwj, xindexAt, vload, n1, n2, n3, n4, n5, xindex, hc35, h35, hcn]
      refine hR _ _ _ ?_; clear hR R
      iterate 2 (refine seqX_hide2 fun R hR => ?_; simp [go_sem, wa, wb, d591, d159, g1, g59, g60, g61, hj, hji, hwj, xindexAt, vload, n1, n2, n3, n4, n5, xindex, hc35, h35, hcn]; refine hR _ _ _ ?_; clear hR R)
      rw [seqX_nil]
      refine hK _ _ _ ?_; clear hK K
      refine hN10 _ _ _ ?_
      refine xc_iftrue (by simp [go_sem, wa, wb, d591, d159, g1, g59, g60, g61, hj, hji, hwj, xindexAt, vload, n1, n2, n3, n4, n5, xindex, hc35, h35, hcn]) ?_
      refine xc_two fun N11 hN11 => ?_
      refine xc_reg2 fun K hK => ?_
      simp only [rall, rsl, gres]
      (refine seqX_hide2 fun R hR => ?_; simp [go_sem, wa, wb, d591, d159, g1, g59, g60, g61, hj, hji, hwj, xindexAt, vload, n1, n2, n3, n4, n5, xindex, hc35, h35, hcn]; refine hR _ _ _ ?_; clear hR R)
      rw [seqX_nil]
      refine hK _ _ _ ?_; clear hK K
      refine hN11 _ _ _ ?_
      refine hX1 _ _ _ _ ?_
      simp [go_sem, wa, wb, d591, d159, g1, g59, g60, g61, hj, hji, hwj, xindexAt, vload, n1, n2, n3, n4, n5, xindex, hc35, h35, hcn]
      refine ⟨FB.no _, View.le_trans lq59 ?_⟩
      exact le_ov hP
    | false =>
    refine hR _ _ _ ?_; clear hR R
    iterate 3 (refine seqX_hide2 fun R hR => ?_; simp [go_sem, wa, wb, d591, d159, g1, g59, g60, g61, hj, hji, hwj, xindexAt, vload, n1, n2, n3, n4, n5, xindex, hc35, h35, hcn]; refine hR _ _ _ ?_; clear hR R)
    refine seqX_hide2 fun R hR => ?_
    simp [go_sem, wa, wb, d591, d159, g1, g59, g60, g61, hj, hji, hwj, xindexAt, vload, n1, n2, n3, n4, n5, xindex, hc35, h35, hcn]
    refine call_same hP (has83 A1 s 123 hsz) ?_
    rintro _ ⟨b, rfl⟩
    cases b with
    | true =>
      refine hR _ _ _ ?_; clear hR R
      iterate 2 (refine seqX_hide2 fun R hR => ?_; simp [go_sem, wa, wb, d591, d159, g1, g59, g60, g61, hj, hji, hwj, xindexAt, vload, n1, n2, n3, n4, n5, xindex, hc35, h35, hcn]; refine hR _ _ _ ?_; clear hR R)
      rw [seqX_nil]
      refine hK _ _ _ ?_; clear hK K
      refine hN10 _ _ _ ?_
      refine xc_iftrue (by simp [go_sem, wa, wb, d591, d159, g1, g59, g60, g61, hj, hji, hwj, xindexAt, vload, n1, n2, n3, n4, n5, xindex, hc35, h35, hcn]) ?_
      refine xc_two fun N11 hN11 => ?_
      refine xc_reg2 fun K hK => ?_
      simp only [rall, rsl, gres]
      (refine seqX_hide2 fun R hR => ?_; simp [go_sem, wa, wb, d591, d159, g1, g59, g60, g61, hj, hji, hwj, xindexAt, vload, n1, n2, n3, n4, n5, xindex, hc35, h35, hcn]; refine hR _ _ _ ?_; clear hR R)
      rw [seqX_nil]
      refine hK _ _ _ ?_; clear hK K
      refine hN11 _ _ _ ?_
      refine hX1 _ _ _ _ ?_
      simp [go_sem, wa, wb, d591, d159, g1, g59, g60, g61, hj, hji, hwj, xindexAt, vload, n1, n2, n3, n4, n5, xindex, hc35, h35, hcn]
      refine ⟨FB.no _, View.le_trans lq59 ?_⟩
      exact le_ov hP
    | false =>
    refine hR _ _ _ ?_; clear hR R
    iterate 2 (refine seqX_hide2 fun R hR => ?_; simp [go_sem, wa, wb, d591, d159, g1, g59, g60, g61, hj, hji, hwj, xindexAt, vload, n1, n2, n3, n4, n5, xindex, hc35, h35, hcn]; refine hR _ _ _ ?_; clear hR R)
    rw [seqX_nil]
    refine hK _ _ _ ?_; clear hK K
    refine hN10 _ _ _ ?_
    refine xc_iffalse (by simp [go_sem, wa, wb, d591, d159, g1, g59, g60, g61, hj, hji, hwj, xindexAt, vload, n1, n2, n3, n4, n5, xindex, hc35, h35, hcn]) ?_
    refine hN8 _ _ _ ?_
    refine xc_reg2 fun K hK => ?_
    simp only [rall, rsl, gres]
    iterate 2 (refine seqX_hide2 fun R hR => ?_; simp [go_sem, wa, wb, d591, d159, g1, g59, g60, g61, hj, hji, hwj, xindexAt, vload, n1, n2, n3, n4, n5, xindex, hc35, h35, hcn]; refine hR _ _ _ ?_; clear hR R)
    rw [seqX_nil]
    refine hK _ _ _ ?_; clear hK K
    refine hJ1 (3 - (j + 1)) _ _ _ (by omega) ⟨j + 1, rfl, rfl, rfl, hP, by simp [go_sem, wa, wb, d591, d159, g1, g59, g60, g61, hj, hji, hwj, xindexAt, vload, n1, n2, n3, n4, n5, xindex, hc35, h35, hcn], by simp [go_sem, wa, wb, d591, d159, g1, g59, g60, g61, hj, hji, hwj, xindexAt, vload, n1, n2, n3, n4, n5, xindex, hc35, h35, hcn], by simp [go_sem, wa, wb, d591, d159, g1, g59, g60, g61, hj, hji, hwj, xindexAt, vload, n1, n2, n3, n4, n5, xindex, hc35, h35, hcn], by simp [go_sem, wa, wb, d591, d159, g1, g59, g60, g61, hj, hji, hwj, xindexAt, vload, n1, n2, n3, n4, n5, xindex, hc35, h35, hcn], by omega⟩
  by_cases hz : (100 : Int) < (h.size : Int) + l.size + f.size
  · skip
    refine xc_reg2 fun K hK => ?_
    simp only [rall, rsl, gres]
    iterate 46 (refine seqX_hide2 fun R hR => ?_; simp [go_sem, wa, wb, hz]; refine hR _ _ _ ?_; clear hR R)
    rw [seqX_nil]
    refine hK _ _ _ ?_; clear hK K
    refine hN3 _ _ _ ?_
    refine xc_iftrue (by simp [go_sem, wa, wb, hz]) ?_
    refine xc_two fun N4 hN4 => ?_
    refine xc_reg2 fun K hK => ?_
    simp only [rall, rsl, gres]
    (refine seqX_hide2 fun R hR => ?_; simp [go_sem, wa, wb, hz]; refine hR _ _ _ ?_; clear hR R)
    rw [seqX_nil]
    refine hK _ _ _ ?_; clear hK K
    refine hN4 _ _ _ ?_
    simp [go_sem, wa, wb, hz]
    refine ⟨FB.no _, ?_⟩
    exact le_ov hP
  by_cases hv0 : st = 0
  · subst hv0
    by_cases hk8 : k = 8
    · subst hk8
      refine xc_reg2 fun K hK => ?_
      simp only [rall, rsl, gres]
      iterate 46 (refine seqX_hide2 fun R hR => ?_; simp [go_sem, wa, wb, hz]; refine hR _ _ _ ?_; clear hR R)
      rw [seqX_nil]
      refine hK _ _ _ ?_; clear hK K
      refine hN3 _ _ _ ?_
      refine xc_iffalse (by simp [go_sem, wa, wb, hz]) ?_
      exact ok  _ hP (by simp [go_sem, wa, wb, hz]) (by simp)
    have hkb : (k == 8) = false := beq_eq_false_iff_ne.2 hk8
    refine xc_reg2 fun K hK => ?_
    simp only [rall, rsl, gres]
    iterate 46 (refine seqX_hide2 fun R hR => ?_; simp [go_sem, wa, wb, hz, hk8, hkb]; refine hR _ _ _ ?_; clear hR R)
    rw [seqX_nil]
    refine hK _ _ _ ?_; clear hK K
    refine hN3 _ _ _ ?_
    refine xc_iffalse (by simp [go_sem, wa, wb, hz, hk8, hkb]) ?_
    exact ok  _ hP (by simp [go_sem, wa, wb, hz, hk8, hkb]) (by simp)
  have hb0 : (st == 0) = false := beq_eq_false_iff_ne.2 hv0
  have hn0 : (st != 0) = true := bne_iff_ne.2 hv0
  by_cases hv2 : st = 2
  · subst hv2
    by_cases hk8 : k = 8
    · subst hk8
      refine xc_reg2 fun K hK => ?_
      simp only [rall, rsl, gres]
      iterate 46 (refine seqX_hide2 fun R hR => ?_; simp [go_sem, wa, wb, hz, hv0, hb0, hn0]; refine hR _ _ _ ?_; clear hR R)
      rw [seqX_nil]
      refine hK _ _ _ ?_; clear hK K
      refine hN3 _ _ _ ?_
      refine xc_iffalse (by simp [go_sem, wa, wb, hz, hv0, hb0, hn0]) ?_
      exact ok  _ hP (by simp [go_sem, wa, wb, hz, hv0, hb0, hn0]) (by simp)
    have hkb : (k == 8) = false := beq_eq_false_iff_ne.2 hk8
    refine xc_reg2 fun K hK => ?_
    simp only [rall, rsl, gres]
    iterate 46 (refine seqX_hide2 fun R hR => ?_; simp [go_sem, wa, wb, hz, hv0, hb0, hn0, hk8, hkb]; refine hR _ _ _ ?_; clear hR R)
    rw [seqX_nil]
    refine hK _ _ _ ?_; clear hK K
    refine hN3 _ _ _ ?_
    refine xc_iftrue (by simp [go_sem, wa, wb, hz, hv0, hb0, hn0, hk8, hkb]) ?_
    refine xc_two fun N4 hN4 => ?_
    refine xc_reg2 fun K hK => ?_
    simp only [rall, rsl, gres]
    (refine seqX_hide2 fun R hR => ?_; simp [go_sem, wa, wb, hz, hv0, hb0, hn0, hk8, hkb]; refine hR _ _ _ ?_; clear hR R)
    rw [seqX_nil]
    refine hK _ _ _ ?_; clear hK K
    refine hN4 _ _ _ ?_
    simp [go_sem, wa, wb, hz, hv0, hb0, hn0, hk8, hkb]
    refine ⟨FB.no _, ?_⟩
    exact le_ov hP
  have hb2 : (st == 2) = false := beq_eq_false_iff_ne.2 hv2
  have hn2 : (st != 2) = true := bne_iff_ne.2 hv2
  by_cases hv4 : st = 4
  · subst hv4
    by_cases hk8 : k = 8
    · subst hk8
      refine xc_reg2 fun K hK => ?_
      simp only [rall, rsl, gres]
      iterate 46 (refine seqX_hide2 fun R hR => ?_; simp [go_sem, wa, wb, hz, hv0, hb0, hn0, hv2, hb2, hn2]; refine hR _ _ _ ?_; clear hR R)
      rw [seqX_nil]
      refine hK _ _ _ ?_; clear hK K
      refine hN3 _ _ _ ?_
      refine xc_iffalse (by simp [go_sem, wa, wb, hz, hv0, hb0, hn0, hv2, hb2, hn2]) ?_
      exact ok  _ hP (by simp [go_sem, wa, wb, hz, hv0, hb0, hn0, hv2, hb2, hn2]) (by simp)
    have hkb : (k == 8) = false := beq_eq_false_iff_ne.2 hk8
    refine xc_reg2 fun K hK => ?_
    simp only [rall, rsl, gres]
    iterate 46 (refine seqX_hide2 fun R hR => ?_; simp [go_sem, wa, wb, hz, hv0, hb0, hn0, hv2, hb2, hn2, hk8, hkb]; refine hR _ _ _ ?_; clear hR R)
    rw [seqX_nil]
    refine hK _ _ _ ?_; clear hK K
    refine hN3 _ _ _ ?_
    refine xc_iftrue (by simp [go_sem, wa, wb, hz, hv0, hb0, hn0, hv2, hb2, hn2, hk8, hkb]) ?_
    refine xc_two fun N4 hN4 => ?_
    refine xc_reg2 fun K hK => ?_
    simp only [rall, rsl, gres]
    (refine seqX_hide2 fun R hR => ?_; simp [go_sem, wa, wb, hz, hv0, hb0, hn0, hv2, hb2, hn2, hk8, hkb]; refine hR _ _ _ ?_; clear hR R)
    rw [seqX_nil]
    refine hK _ _ _ ?_; clear hK K
    refine hN4 _ _ _ ?_
    simp [go_sem, wa, wb, hz, hv0, hb0, hn0, hv2, hb2, hn2, hk8, hkb]
    refine ⟨FB.no _, ?_⟩
    exact le_ov hP
  have hb4 : (st == 4) = false := beq_eq_false_iff_ne.2 hv4
  have hn4 : (st != 4) = true := bne_iff_ne.2 hv4
  by_cases hv32 : st = 32
  · subst hv32
    by_cases hk8 : k = 8
    · subst hk8
      refine xc_reg2 fun K hK => ?_
      simp only [rall, rsl, gres]
      iterate 46 (refine seqX_hide2 fun R hR => ?_; simp [go_sem, wa, wb, hz, hv0, hb0, hn0, hv2, hb2, hn2, hv4, hb4, hn4]; refine hR _ _ _ ?_; clear hR R)
      rw [seqX_nil]
      refine hK _ _ _ ?_; clear hK K
      refine hN3 _ _ _ ?_
      refine xc_iftrue (by simp [go_sem, wa, wb, hz, hv0, hb0, hn0, hv2, hb2, hn2, hv4, hb4, hn4]) ?_
      refine xc_two fun N4 hN4 => ?_
      refine xc_reg2 fun K hK => ?_
      simp only [rall, rsl, gres]
      (refine seqX_hide2 fun R hR => ?_; simp [go_sem, wa, wb, hz, hv0, hb0, hn0, hv2, hb2, hn2, hv4, hb4, hn4]; refine hR _ _ _ ?_; clear hR R)
      rw [seqX_nil]
      refine hK _ _ _ ?_; clear hK K
      refine hN4 _ _ _ ?_
      simp [go_sem, wa, wb, hz, hv0, hb0, hn0, hv2, hb2, hn2, hv4, hb4, hn4]
      refine ⟨FB.no _, ?_⟩
      exact le_ov hP
    have hkb : (k == 8) = false := beq_eq_false_iff_ne.2 hk8
    refine xc_reg2 fun K hK => ?_
    simp only [rall, rsl, gres]
    iterate 46 (refine seqX_hide2 fun R hR => ?_; simp [go_sem, wa, wb, hz, hv0, hb0, hn0, hv2, hb2, hn2, hv4, hb4, hn4, hk8, hkb]; refine hR _ _ _ ?_; clear hR R)
    rw [seqX_nil]
    refine hK _ _ _ ?_; clear hK K
    refine hN3 _ _ _ ?_
    refine xc_iffalse (by simp [go_sem, wa, wb, hz, hv0, hb0, hn0, hv2, hb2, hn2, hv4, hb4, hn4, hk8, hkb]) ?_
    exact ok  _ hP (by simp [go_sem, wa, wb, hz, hv0, hb0, hn0, hv2, hb2, hn2, hv4, hb4, hn4, hk8, hkb]) (by simp)
  have hb32 : (st == 32) = false := beq_eq_false_iff_ne.2 hv32
  have hn32 : (st != 32) = true := bne_iff_ne.2 hv32
  refine xc_reg2 fun K hK => ?_
  simp only [rall, rsl, gres]
  iterate 46 (refine seqX_hide2 fun R hR => ?_; simp [go_sem, wa, wb, hz, hv0, hb0, hn0, hv2, hb2, hn2, hv4, hb4, hn4, hv32, hb32, hn32]; refine hR _ _ _ ?_; clear hR R)
  rw [seqX_nil]
  refine hK _ _ _ ?_; clear hK K
  refine hN3 _ _ _ ?_
  refine xc_iftrue (by simp [go_sem, wa, wb, hz, hv0, hb0, hn0, hv2, hb2, hn2, hv4, hb4, hn4, hv32, hb32, hn32]) ?_
  refine xc_two fun N4 hN4 => ?_
  refine xc_reg2 fun K hK => ?_
  simp only [rall, rsl, gres]
  (refine seqX_hide2 fun R hR => ?_; simp [go_sem, wa, wb, hz, hv0, hb0, hn0, hv2, hb2, hn2, hv4, hb4, hn4, hv32, hb32, hn32]; refine hR _ _ _ ?_; clear hR R)
  rw [seqX_nil]
  refine hK _ _ _ ?_; clear hK K
  refine hN4 _ _ _ ?_
  simp [go_sem, wa, wb, hz, hv0, hb0, hn0, hv2, hb2, hn2, hv4, hb4, hn4, hv32, hb32, hn32]
  refine ⟨FB.no _, ?_⟩
  exact le_ov hP
theorem bareT_kind (t : Tr) : (bareT t).kind = t.kind := by
  obtain ⟨k, st, tag, val, an, h, l, f, row, col, al, kids, rfl⟩ := t.ex
  rw [bareT_mk]
  rfl
theorem bareT_tag (t : Tr) : (bareT t).tag = t.tag := by
  obtain ⟨k, st, tag, val, an, h, l, f, row, col, al, kids, rfl⟩ := t.ex
  rw [bareT_mk]
  rfl
theorem bareT_value (t : Tr) : (bareT t).value = t.value := by
  obtain ⟨k, st, tag, val, an, h, l, f, row, col, al, kids, rfl⟩ := t.ex
  rw [bareT_mk]
  rfl
theorem bareT_kids (t : Tr) : (bareT t).kids = t.kids.map bareT := by
  obtain ⟨k, st, tag, val, an, h, l, f, row, col, al, kids, rfl⟩ := t.ex
  rw [bareT_mk]
  rfl
theorem SB.bare : ∀ {t : Tr}, SB t → SB (bareT t)
  | .mk k st tag val an h l f row col al kids, e => by
    have hl := e.len
    have hk := fun x (hx : x ∈ kids) => e.kid (t := .mk k st tag val an h l f row col al kids) hx
    obtain ⟨⟨a1, a2, a3, a4, a5, a6⟩, -⟩ := e.open
    rw [bareT_mk]
    refine SB.mk' ⟨a1, a2, a3, by decide, by decide, by decide⟩ (fun x hx => ?_) (by rw [List.length_map]; exact hl)
    obtain ⟨y, hy, rfl⟩ := List.mem_map.1 hx
    exact SB.bare (hk y hy)
termination_by t => SizeOf.sizeOf t
decreasing_by
  have := List.sizeOf_lt_of_mem hy
  simp
  omega
theorem PT.ofBare : ∀ {lv : Nat} {t : Tr}, PT lv (bareT t) → DS t → PT lv t
  | lv, .mk k st tag val an h l f row col al kids, e, d => by
    rw [bareT_mk, PT] at e
    rw [DS] at d
    rw [PT]
    refine ⟨e.1, ⟨by rcases d.1 with h | h | h | h <;> rw [h] <;> rfl, e.2.1.2⟩, e.2.2.1, fun j hj => PT.ofBare ?_ (d.2 j hj)⟩
    have := e.2.2.2 j (by rw [List.length_map]; exact hj)
    rw [List.getElem_map] at this
    exact this
termination_by _ t => SizeOf.sizeOf t
decreasing_by
  have := List.sizeOf_lt_of_mem (List.getElem_mem hj)
  simp
  omega
/-- A dressed tree. -/
def Drs (lv : Nat) (t : Tr) : Prop := PL lv (bareT t) ∧ DS t
theorem Drs.pt {lv : Nat} {t : Tr} (h : Drs lv t) : PT lv t := h.1.pt.ofBare h.2
theorem Drs.kid {lv : Nat} {t x : Tr} (h : Drs lv t) (hx : x ∈ t.kids) : Drs (lv - 1) x := ⟨h.1.kid3 (by rw [bareT_kids]; exact List.mem_map_of_mem hx), h.2.kid hx⟩
theorem Drs.kinds {lv : Nat} {t : Tr} (h : Drs lv t) : (t.kind = 8 ∧ t.kids = []) ∨ (t.kind = 2 ∧ t.tag = tSeq ∧ t.value = e0) ∨ (t.kind = 4 ∧ t.tag = tMap ∧ t.value = e0 ∧ t.kids.length % 2 = 0) := by
  have := h.1.kinds
  rw [bareT_kind, bareT_tag, bareT_value, bareT_kids, List.length_map] at this
  rcases this with g | g | g
  · exact .inl ⟨g.1, List.map_eq_nil_iff.1 g.2⟩
  · exact .inr (.inl g)
  · exact .inr (.inr g)
theorem Drs.nn1 {lv : Nat} {t : Tr} (h : Drs lv t) (hn : ¬ (t.kind = 8 ∧ t.tag = tNull)) : t.kind ≠ 1 ∧ t.tag ≠ tNull := by
  have := h.1.nn1 (by rw [bareT_kind, bareT_tag]; exact hn)
  rw [bareT_kind, bareT_tag] at this
  exact this
theorem fitM_eqG {x : Tr} (h8 : ∀ y ∈ x.kids, y.value ≠ e0 → y.kind = 8) (h4 : x.kind = 4) : ∀ (ks vs : List ByteArray), (∀ s ∈ vs, s ≠ e0) → fitM x ks vs = fitB x ks vs
  | [], _, _ => by rw [fitM, fitB]; all_goals simp
  | _ :: _, [], _ => by rw [fitM, fitB]; all_goals simp
  | k :: ks, v :: vs, h => by
    rw [fitM, fitB, fitM_eqG h8 h4 ks vs fun s hs => h s (List.mem_cons_of_mem _ hs)]
    congr 1
    rw [fit1, fldOf, if_pos h4, mfl]
    cases hf : fld x.kids k with
    | none => rfl
    | some y =>
      show Option.isSome (if y.value = v then some y else none) = (decide (y.kind = 8) && decide (y.value = v))
      by_cases hv : y.value = v
      · have hk8 : y.kind = 8 := h8 y (fld_mem hf) (by rw [hv]; exact h v List.mem_cons_self)
        rw [if_pos hv, decide_eq_true hv, decide_eq_true hk8]
        rfl
      · rw [if_neg hv, decide_eq_false hv]
        simp
theorem Drs.fit {x : Tr} {lv : Nat} (hx : Drs lv x) {ks vs : List ByteArray} (hl : ks.length = vs.length) (h0 : 0 < ks.length) (h : ∀ s ∈ vs, s ≠ e0) : fitB x ks vs = fitK ks vs x := by
  have h8 : ∀ y ∈ x.kids, y.value ≠ e0 → y.kind = 8 := fun y hy hv => by
    rcases (hx.kid hy).kinds with ⟨h1, -⟩ | ⟨-, -, h2⟩ | ⟨-, -, h2, -⟩
    · exact h1
    · exact absurd h2 hv
    · exact absurd h2 hv
  rw [fitK]
  by_cases h4 : x.kind = 4
  · rw [decide_eq_true h4, Bool.true_and, fitM_eqG h8 h4 ks vs h]
  · rw [decide_eq_false h4, Bool.false_and]
    cases ks with
    | nil => exact absurd h0 (by decide)
    | cons k ks =>
      cases vs with
      | nil => cases hl
      | cons v vs => rw [fitB, fit1, fldOf, if_neg h4]; rfl
set_option maxRecDepth 20000 in
set_option maxHeartbeats 400000 in
theorem dressed42 (A : View) (t : Tr) (c : Array Value) (hc : IsTr A t c) (hsb : SB t) : VCalls Try.prog 42 #[.agg c, .int .i64 200] A fun r A' => FB (Drs 12 t ∧ nds t ≤ 200) r ∧ A ≤ A' := by
  have hcz := hc.size
  have hco := hc.ones
  refine xcalls Try.func42 rfl (by simp [Try.ntmps42]) ?_
  simp only [Try.f42]
  have hP : Priv A (addrs []) := Priv.nil A
  show xc _ _ _ _ _ _ (ov A [])
  refine xc_two fun N1 hN1 => ?_
  refine xc_reg2 fun K hK => ?_
  simp only [rall, rsl, gres]
  refine seqX_hide2 fun R hR => ?_
  simp [go_sem, hcz, hco]
  intro q2 hq2
  replace hP := hP.cons hq2
  clear hq2
  refine hR _ _ _ ?_; clear hR R
  (refine seqX_hide2 fun R hR => ?_; simp [go_sem, hcz, hco]; refine hR _ _ _ ?_; clear hR R)
  rw [seqX_nil]
  refine hK _ _ _ ?_; clear hK K
  refine hN1 _ _ _ ?_
  refine xc_two fun N2 hN2 => ?_
  refine xc_reg2 fun K hK => ?_
  simp only [rall, rsl, gres]
  (refine seqX_hide2 fun R hR => ?_; simp [go_sem, hcz, hco]; refine hR _ _ _ ?_; clear hR R)
  refine seqX_hide2 fun R hR => ?_
  simp [go_sem, hcz, hco]
  intro q5 hq5
  replace hP := hP.cons hq5
  clear hq5
  have d52 : q5 ≠ q2 := (hP.ne q2 (by simp [addrs])).1
  have d25 : q2 ≠ q5 := (hP.ne q2 (by simp [addrs])).2
  refine hR _ _ _ ?_; clear hR R
  refine seqX_hide2 fun R hR => ?_
  simp [go_sem, hcz, hco, d52, d25]
  refine hR _ _ _ ?_; clear hR R
  rw [seqX_nil]
  refine hK _ _ _ ?_; clear hK K
  refine hN2 _ _ _ ?_
  refine xc_two fun N3 hN3 => ?_
  refine xc_reg2 fun K hK => ?_
  simp only [rall, rsl, gres]
  (refine seqX_hide2 fun R hR => ?_; simp [go_sem, hcz, hco, d52, d25]; refine hR _ _ _ ?_; clear hR R)
  refine seqX_hide2 fun R hR => ?_
  simp [go_sem, hcz, hco, d52, d25]
  obtain ⟨eq5, hPn, nq5⟩ := sinkI (A := A) (L := [(q5, .cells #[.int .i64 200] 3 (0, 0)), (q2, .cells c 24 (0, 0))]) 0 hP rfl
  rw [eq5]
  clear eq5 hP; have hP := hPn; clear hPn
  simp only [List.eraseIdx_cons_zero, List.eraseIdx_cons_succ, addrs_cons, addrs_nil] at hP ⊢
  have lq5 : A ≤ A.set q5 (.cells #[.int .i64 200] 3 (0, 0)) := le_set nq5
  refine call_ov hP (few66 t A _ c q5 200 hc lq5 nq5 (set_at _ _ _) hsb (by decide) (by decide)) ?_
  clear hP
  rintro _ A1 ⟨b, n', rfl, hA1, hm, hb⟩ hP
  cases b with
  | false =>
    refine hR _ _ _ ?_; clear hR R
    iterate 2 (refine seqX_hide2 fun R hR => ?_; simp [go_sem, hcz, hco, d52, d25]; refine hR _ _ _ ?_; clear hR R)
    refine seqX_hide2 fun R hR => ?_
    simp [go_sem, hcz, hco, d52, d25]
    refine hR _ _ _ ?_; clear hR R
    (refine seqX_hide2 fun R hR => ?_; simp [go_sem, hcz, hco, d52, d25]; refine hR _ _ _ ?_; clear hR R)
    refine seqX_hide2 fun R hR => ?_
    simp [go_sem, hcz, hco, d52, d25]
    refine hR _ _ _ ?_; clear hR R
    iterate 3 (refine seqX_hide2 fun R hR => ?_; simp [go_sem, hcz, hco, d52, d25]; refine hR _ _ _ ?_; clear hR R)
    refine seqX_hide2 fun R hR => ?_
    simp [go_sem, hcz, hco, d52, d25]
    refine hR _ _ _ ?_; clear hR R
    iterate 2 (refine seqX_hide2 fun R hR => ?_; simp [go_sem, hcz, hco, d52, d25]; refine hR _ _ _ ?_; clear hR R)
    rw [seqX_nil]
    refine hK _ _ _ ?_; clear hK K
    refine hN3 _ _ _ ?_
    simp [go_sem, hcz, hco, d52, d25]
    refine ⟨FB.no _, View.le_trans hA1 ?_⟩
    exact le_ov hP
  | true =>
  obtain ⟨z1, z2⟩ := hb rfl
  have hnd : nds t ≤ 200 := by omega
  refine hR _ _ _ ?_; clear hR R
  iterate 2 (refine seqX_hide2 fun R hR => ?_; simp [go_sem, hcz, hco, d52, d25]; refine hR _ _ _ ?_; clear hR R)
  refine seqX_hide2 fun R hR => ?_
  simp [go_sem, hcz, hco, d52, d25]
  refine call_ov hP (bared67 t A1 c (hc.le hA1) (by omega)) ?_
  clear hP
  rintro _ A2 ⟨c2, rfl, hc2, hA2⟩ hP
  replace hA2 := View.le_trans hA1 hA2
  refine hR _ _ _ ?_; clear hR R
  (refine seqX_hide2 fun R hR => ?_; simp [go_sem, hcz, hco, d52, d25]; refine hR _ _ _ ?_; clear hR R)
  refine seqX_hide2 fun R hR => ?_
  simp [go_sem, hcz, hco, d52, d25]
  refine call_ov hP (plainTree12 A2 (bareT t) c2 200 hc2 hsb.bare (by omega)) ?_
  clear hP
  rintro _ A3 ⟨⟨b, rfl, hb3⟩, hA3⟩ hP
  replace hA3 := View.le_trans hA2 hA3
  cases b with
  | false =>
    refine hR _ _ _ ?_; clear hR R
    iterate 3 (refine seqX_hide2 fun R hR => ?_; simp [go_sem, hcz, hco, d52, d25]; refine hR _ _ _ ?_; clear hR R)
    refine seqX_hide2 fun R hR => ?_
    simp [go_sem, hcz, hco, d52, d25]
    refine hR _ _ _ ?_; clear hR R
    iterate 2 (refine seqX_hide2 fun R hR => ?_; simp [go_sem, hcz, hco, d52, d25]; refine hR _ _ _ ?_; clear hR R)
    rw [seqX_nil]
    refine hK _ _ _ ?_; clear hK K
    refine hN3 _ _ _ ?_
    simp [go_sem, hcz, hco, d52, d25]
    refine ⟨FB.no _, View.le_trans hA3 ?_⟩
    exact le_ov hP
  | true =>
  have hpl := (hb3 rfl).1
  refine hR _ _ _ ?_; clear hR R
  iterate 3 (refine seqX_hide2 fun R hR => ?_; simp [go_sem, hcz, hco, d52, d25]; refine hR _ _ _ ?_; clear hR R)
  refine seqX_hide2 fun R hR => ?_
  simp [go_sem, hcz, hco, d52, d25]
  refine call_ov hP (dressed68 t A3 c (hc.le hA3) hsb) ?_
  clear hP
  rintro _ A4 ⟨⟨b, rfl, hb4⟩, hA4⟩ hP
  refine hR _ _ _ ?_; clear hR R
  iterate 2 (refine seqX_hide2 fun R hR => ?_; simp [go_sem, hcz, hco, d52, d25]; refine hR _ _ _ ?_; clear hR R)
  rw [seqX_nil]
  refine hK _ _ _ ?_; clear hK K
  refine hN3 _ _ _ ?_
  simp [go_sem, hcz, hco, d52, d25]
  refine ⟨⟨b, rfl, fun e => ⟨⟨hpl, hb4 e⟩, hnd⟩⟩, View.le_trans hA3 (View.le_trans hA4 ?_)⟩
  exact le_ov hP
end Go.Proofs.YtpinamipjddobaaV

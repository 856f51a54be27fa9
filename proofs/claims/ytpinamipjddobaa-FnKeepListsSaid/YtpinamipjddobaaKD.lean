/- Trees: mgPlain. -/
import Derived.Test.YtpinamipjddobaaKC
namespace Go.Proofs.YtpinamipjddobaaV
open Go.RowKit
set_option linter.unusedSimpArgs false
set_option linter.unusedVariables false
theorem eq_of_beq {s t : ByteArray} {l : List UInt8} (hl : t.toList = l) (h : (s.toList == l) = true) : s = t := (Lib.bytes_beq_iff s t).1 (by rw [hl]; exact h)
theorem ne_of_beq {s t : ByteArray} {l : List UInt8} (hl : t.toList = l) (h : (s.toList == l) = false) : s ≠ t := fun e => by
  have := (Lib.bytes_beq_iff s t).2 e
  rw [hl, h] at this
  cases this
theorem l_tNull : tNull.toList = [33, 33, 110, 117, 108, 108] := by kernel_rfl
theorem l_vNull : vNull.toList = [110, 117, 108, 108] := by kernel_rfl
theorem l_tStr : tStr.toList = [33, 33, 115, 116, 114] := by kernel_rfl
theorem l_tInt : tInt.toList = [33, 33, 105, 110, 116] := by kernel_rfl
theorem l_tSeq : tSeq.toList = [33, 33, 115, 101, 113] := by kernel_rfl
theorem l_tMap : tMap.toList = [33, 33, 109, 97, 112] := by kernel_rfl
theorem IsTr.at2 {A : View} {t : Tr} {c : Array Value} (e : IsTr A t c) : c[0]? = some (.int .i64 t.kind) ∧ c[2]? = some (.string t.tag) ∧ c[3]? = some (.string t.value) := by
  obtain ⟨k, st, tag, val, an, h, l, f, row, col, al, kids⟩ := t
  obtain ⟨bs, cap, rfl, -⟩ := e.open
  exact ⟨rfl, rfl, rfl⟩
theorem cell_in {A : View} {a : Addr} {n j : Nat} {c : Array Value} {v : Value} (h : A.cells? a 0 n = some c.toList) (hj : j < n) (h0 : j ≠ 0) (hv : c[j]? = some v) : A.cell? ⟨a.block, a.off + j, none⟩ = some v := by
  have := cells?_get _ _ _ h j hj
  rw [Nat.zero_add] at this
  have e : a.add j = ⟨a.block, a.off + j, none⟩ := by unfold Addr.add; rw [if_neg h0]
  rw [← e, this, ← hv]
  exact (Array.getElem?_toList).symm ▸ rfl
theorem nds_pos (t : Tr) : 1 ≤ nds t := by
  obtain ⟨k, st, tag, val, an, h, l, f, row, col, al, kids⟩ := t
  rw [nds_mk]; omega
theorem nds_len : ∀ l : List Tr, l.length ≤ (l.map nds).sum
  | [] => Nat.le_refl _
  | t :: l => by
    have h1 := nds_pos t
    have h2 := nds_len l
    simp only [List.length_cons, List.map_cons, List.sum_cons]
    omega
set_option maxRecDepth 20000 in
set_option maxHeartbeats 16000000 in
theorem plain21 (t : Tr) : ∀ (lv : Nat) (A : View) (c : Array Value) (n : Int) (m : Nat), IsTr A t c → SB t → A m = none → 0 ≤ n → n ≤ 1000000 → lv ≤ 1000 →
    VCalls Try.prog 45 #[.agg c, .int .i64 lv, .pointer (some ⟨m, 0, none⟩)] (A.set m (.cells #[.int .i64 n] 3)) fun r A' => Gp t lv n m A r A' := by
  induction hsz : SizeOf.sizeOf t using Nat.strongRecOn generalizing t with
  | _ N0 ih =>
  intro lv A c n m hc hsb hm hn0 hn1 hlv
  subst hsz
  obtain ⟨k, st, tag, val, an, h, l, f, row, col, al, kids⟩ := t
  have ihk : ∀ x ∈ kids, ∀ (lv : Nat) (A : View) (c : Array Value) (n : Int) (m : Nat), IsTr A x c → SB x → A m = none → 0 ≤ n → n ≤ 1000000 → lv ≤ 1000 →
    VCalls Try.prog 45 #[.agg c, .int .i64 lv, .pointer (some ⟨m, 0, none⟩)] (A.set m (.cells #[.int .i64 n] 3)) fun r A' => Gp x lv n m A r A' := fun x hx => ih _ (by
      have := List.sizeOf_lt_of_mem hx
      simp
      omega) x rfl
  clear ih
  have hcz := hc.size
  have hco := hc.ones
  obtain ⟨⟨b2, b3, b4, b5, b6, b7⟩, hks⟩ := hsb.open
  have hc0 := hc
  obtain ⟨bs, cap, rfl, hT⟩ := hc.open
  have hP : Priv A [m] := ⟨hm, by simp, trivial⟩
  have hw : IntKind.i64.wrap (n - 1) = n - 1 := wrap_in (by omega) (by omega)
  refine xcalls Try.func45 rfl (by simp [Try.ntmps45]) ?_
  simp only [Try.f45]
  show xc _ _ _ _ _ _ (ov A [(m, .cells #[.int .i64 n] 3 (0, 0))])
  by_cases c1 : n - 1 < 0
  · skip
    refine xc_two fun N1 hN1 => ?_
    refine xc_reg2 fun K hK => ?_
    simp only [rall, rsl, gres]
    refine seqX_hide2 fun R hR => ?_
    simp [go_sem, hw, hcz, hco, c1]
    intro q3 hq3
    replace hP := hP.cons hq3
    clear hq3
    have d3 : q3 ≠ m := (hP.ne m (by simp [addrs])).1
    have d3 : m ≠ q3 := (hP.ne m (by simp [addrs])).2
    refine hR _ _ _ ?_; clear hR R
    (refine seqX_hide2 fun R hR => ?_; simp [go_sem, hw, hcz, hco, c1, d3, d3]; refine hR _ _ _ ?_; clear hR R)
    rw [seqX_nil]
    refine hK _ _ _ ?_; clear hK K
    refine hN1 _ _ _ ?_
    refine xc_two fun N2 hN2 => ?_
    refine xc_two fun N3 hN3 => ?_
    refine xc_reg2 fun K hK => ?_
    simp only [rall, rsl, gres]
    iterate 5 (refine seqX_hide2 fun R hR => ?_; simp [go_sem, hw, hcz, hco, c1, d3, d3]; refine hR _ _ _ ?_; clear hR R)
    refine seqX_hide2 fun R hR => ?_
    simp [go_sem, hw, hcz, hco, c1, d3, d3]
    refine hR _ _ _ ?_; clear hR R
    rw [seqX_nil]
    refine hK _ _ _ ?_; clear hK K
    refine hN3 _ _ _ ?_
    refine xc_two fun N4 hN4 => ?_
    refine xc_reg2 fun K hK => ?_
    simp only [rall, rsl, gres]
    iterate 32 (refine seqX_hide2 fun R hR => ?_; simp [go_sem, hw, hcz, hco, c1, d3, d3]; refine hR _ _ _ ?_; clear hR R)
    rw [seqX_nil]
    refine hK _ _ _ ?_; clear hK K
    refine hN4 _ _ _ ?_
    refine xc_iftrue (by simp [go_sem, hw, hcz, hco, c1, d3, d3]) ?_
    refine xc_two fun N5 hN5 => ?_
    refine xc_reg2 fun K hK => ?_
    simp only [rall, rsl, gres]
    (refine seqX_hide2 fun R hR => ?_; simp [go_sem, hw, hcz, hco, c1, d3, d3]; refine hR _ _ _ ?_; clear hR R)
    rw [seqX_nil]
    refine hK _ _ _ ?_; clear hK K
    refine hN5 _ _ _ ?_
    simp [go_sem, hw, hcz, hco, c1, d3, d3]
    exact Gp.leaf hP (View.le_refl _) (fun h => by cases h)
  by_cases c2 : lv < 1
  · have c2i : (lv : Int) < 1 := by omega
    refine xc_two fun N1 hN1 => ?_
    refine xc_reg2 fun K hK => ?_
    simp only [rall, rsl, gres]
    refine seqX_hide2 fun R hR => ?_
    simp [go_sem, hw, hcz, hco, c1, c2, c2i]
    intro q3 hq3
    replace hP := hP.cons hq3
    clear hq3
    have d3 : q3 ≠ m := (hP.ne m (by simp [addrs])).1
    have d3 : m ≠ q3 := (hP.ne m (by simp [addrs])).2
    refine hR _ _ _ ?_; clear hR R
    (refine seqX_hide2 fun R hR => ?_; simp [go_sem, hw, hcz, hco, c1, c2, c2i, d3, d3]; refine hR _ _ _ ?_; clear hR R)
    rw [seqX_nil]
    refine hK _ _ _ ?_; clear hK K
    refine hN1 _ _ _ ?_
    refine xc_two fun N2 hN2 => ?_
    refine xc_two fun N3 hN3 => ?_
    refine xc_reg2 fun K hK => ?_
    simp only [rall, rsl, gres]
    iterate 5 (refine seqX_hide2 fun R hR => ?_; simp [go_sem, hw, hcz, hco, c1, c2, c2i, d3, d3]; refine hR _ _ _ ?_; clear hR R)
    refine seqX_hide2 fun R hR => ?_
    simp [go_sem, hw, hcz, hco, c1, c2, c2i, d3, d3]
    refine hR _ _ _ ?_; clear hR R
    rw [seqX_nil]
    refine hK _ _ _ ?_; clear hK K
    refine hN3 _ _ _ ?_
    refine xc_two fun N4 hN4 => ?_
    refine xc_reg2 fun K hK => ?_
    simp only [rall, rsl, gres]
    iterate 32 (refine seqX_hide2 fun R hR => ?_; simp [go_sem, hw, hcz, hco, c1, c2, c2i, d3, d3]; refine hR _ _ _ ?_; clear hR R)
    rw [seqX_nil]
    refine hK _ _ _ ?_; clear hK K
    refine hN4 _ _ _ ?_
    refine xc_iftrue (by simp [go_sem, hw, hcz, hco, c1, c2, c2i, d3, d3]) ?_
    refine xc_two fun N5 hN5 => ?_
    refine xc_reg2 fun K hK => ?_
    simp only [rall, rsl, gres]
    (refine seqX_hide2 fun R hR => ?_; simp [go_sem, hw, hcz, hco, c1, c2, c2i, d3, d3]; refine hR _ _ _ ?_; clear hR R)
    rw [seqX_nil]
    refine hK _ _ _ ?_; clear hK K
    refine hN5 _ _ _ ?_
    simp [go_sem, hw, hcz, hco, c1, c2, c2i, d3, d3]
    exact Gp.leaf hP (View.le_refl _) (fun h => by cases h)
  have c2i : ¬ (lv : Int) < 1 := by omega
  have s1 : an.size + h.size ≤ 9223372036854775807 := by omega
  have s2 : an.size + h.size + l.size ≤ 9223372036854775807 := by omega
  have s3 : an.size + h.size + l.size + f.size ≤ 9223372036854775807 := by omega
  have s1' : (an ++ h).size = an.size + h.size := ByteArray.size_append
  have s2' : (an ++ h ++ l).size = an.size + h.size + l.size := by rw [ByteArray.size_append, s1']
  cases c3 : (an ++ h ++ l ++ f).toList.isEmpty with
  | false =>
    refine xc_two fun N1 hN1 => ?_
    refine xc_reg2 fun K hK => ?_
    simp only [rall, rsl, gres]
    refine seqX_hide2 fun R hR => ?_
    simp [go_sem, hw, hcz, hco, c1, c2, c2i, s1, s2, s3, s1', s2', ByteArray.size_append, c3]
    intro q3 hq3
    replace hP := hP.cons hq3
    clear hq3
    have d3 : q3 ≠ m := (hP.ne m (by simp [addrs])).1
    have d3 : m ≠ q3 := (hP.ne m (by simp [addrs])).2
    refine hR _ _ _ ?_; clear hR R
    (refine seqX_hide2 fun R hR => ?_; simp [go_sem, hw, hcz, hco, c1, c2, c2i, s1, s2, s3, s1', s2', ByteArray.size_append, c3, d3, d3]; refine hR _ _ _ ?_; clear hR R)
    rw [seqX_nil]
    refine hK _ _ _ ?_; clear hK K
    refine hN1 _ _ _ ?_
    refine xc_two fun N2 hN2 => ?_
    refine xc_two fun N3 hN3 => ?_
    refine xc_reg2 fun K hK => ?_
    simp only [rall, rsl, gres]
    iterate 5 (refine seqX_hide2 fun R hR => ?_; simp [go_sem, hw, hcz, hco, c1, c2, c2i, s1, s2, s3, s1', s2', ByteArray.size_append, c3, d3, d3]; refine hR _ _ _ ?_; clear hR R)
    refine seqX_hide2 fun R hR => ?_
    simp [go_sem, hw, hcz, hco, c1, c2, c2i, s1, s2, s3, s1', s2', ByteArray.size_append, c3, d3, d3]
    refine hR _ _ _ ?_; clear hR R
    rw [seqX_nil]
    refine hK _ _ _ ?_; clear hK K
    refine hN3 _ _ _ ?_
    refine xc_two fun N4 hN4 => ?_
    refine xc_reg2 fun K hK => ?_
    simp only [rall, rsl, gres]
    iterate 32 (refine seqX_hide2 fun R hR => ?_; simp [go_sem, hw, hcz, hco, c1, c2, c2i, s1, s2, s3, s1', s2', ByteArray.size_append, c3, d3, d3]; refine hR _ _ _ ?_; clear hR R)
    rw [seqX_nil]
    refine hK _ _ _ ?_; clear hK K
    refine hN4 _ _ _ ?_
    refine xc_iftrue (by simp [go_sem, hw, hcz, hco, c1, c2, c2i, s1, s2, s3, s1', s2', ByteArray.size_append, c3, d3, d3]) ?_
    refine xc_two fun N5 hN5 => ?_
    refine xc_reg2 fun K hK => ?_
    simp only [rall, rsl, gres]
    (refine seqX_hide2 fun R hR => ?_; simp [go_sem, hw, hcz, hco, c1, c2, c2i, s1, s2, s3, s1', s2', ByteArray.size_append, c3, d3, d3]; refine hR _ _ _ ?_; clear hR R)
    rw [seqX_nil]
    refine hK _ _ _ ?_; clear hK K
    refine hN5 _ _ _ ?_
    simp [go_sem, hw, hcz, hco, c1, c2, c2i, s1, s2, s3, s1', s2', ByteArray.size_append, c3, d3, d3]
    exact Gp.leaf hP (View.le_refl _) (fun h => by cases h)
  | true =>
  obtain ⟨q1, q2⟩ := emp_app c3
  obtain ⟨q3', q4⟩ := emp_app (show (an ++ h ++ l).toList.isEmpty = true by rw [q1]; kernel_rfl)
  obtain ⟨q5, q6⟩ := emp_app (show (an ++ h).toList.isEmpty = true by rw [q3']; kernel_rfl)
  by_cases c4 : st = 0
  rotate_left
  · have c4b : (st == 0) = false := beq_eq_false_iff_ne.2 c4
    have c4c : (st != 0) = true := by rw [bne_iff_ne]; exact c4
    refine xc_two fun N1 hN1 => ?_
    refine xc_reg2 fun K hK => ?_
    simp only [rall, rsl, gres]
    refine seqX_hide2 fun R hR => ?_
    simp [go_sem, hw, hcz, hco, c1, c2, c2i, s1, s2, s3, s1', s2', ByteArray.size_append, c3, c4, c4b, c4c]
    intro q3 hq3
    replace hP := hP.cons hq3
    clear hq3
    have d3 : q3 ≠ m := (hP.ne m (by simp [addrs])).1
    have d3 : m ≠ q3 := (hP.ne m (by simp [addrs])).2
    refine hR _ _ _ ?_; clear hR R
    (refine seqX_hide2 fun R hR => ?_; simp [go_sem, hw, hcz, hco, c1, c2, c2i, s1, s2, s3, s1', s2', ByteArray.size_append, c3, c4, c4b, c4c, d3, d3]; refine hR _ _ _ ?_; clear hR R)
    rw [seqX_nil]
    refine hK _ _ _ ?_; clear hK K
    refine hN1 _ _ _ ?_
    refine xc_two fun N2 hN2 => ?_
    refine xc_two fun N3 hN3 => ?_
    refine xc_reg2 fun K hK => ?_
    simp only [rall, rsl, gres]
    iterate 5 (refine seqX_hide2 fun R hR => ?_; simp [go_sem, hw, hcz, hco, c1, c2, c2i, s1, s2, s3, s1', s2', ByteArray.size_append, c3, c4, c4b, c4c, d3, d3]; refine hR _ _ _ ?_; clear hR R)
    refine seqX_hide2 fun R hR => ?_
    simp [go_sem, hw, hcz, hco, c1, c2, c2i, s1, s2, s3, s1', s2', ByteArray.size_append, c3, c4, c4b, c4c, d3, d3]
    refine hR _ _ _ ?_; clear hR R
    rw [seqX_nil]
    refine hK _ _ _ ?_; clear hK K
    refine hN3 _ _ _ ?_
    refine xc_two fun N4 hN4 => ?_
    refine xc_reg2 fun K hK => ?_
    simp only [rall, rsl, gres]
    iterate 32 (refine seqX_hide2 fun R hR => ?_; simp [go_sem, hw, hcz, hco, c1, c2, c2i, s1, s2, s3, s1', s2', ByteArray.size_append, c3, c4, c4b, c4c, d3, d3]; refine hR _ _ _ ?_; clear hR R)
    rw [seqX_nil]
    refine hK _ _ _ ?_; clear hK K
    refine hN4 _ _ _ ?_
    refine xc_iftrue (by simp [go_sem, hw, hcz, hco, c1, c2, c2i, s1, s2, s3, s1', s2', ByteArray.size_append, c3, c4, c4b, c4c, d3, d3]) ?_
    refine xc_two fun N5 hN5 => ?_
    refine xc_reg2 fun K hK => ?_
    simp only [rall, rsl, gres]
    (refine seqX_hide2 fun R hR => ?_; simp [go_sem, hw, hcz, hco, c1, c2, c2i, s1, s2, s3, s1', s2', ByteArray.size_append, c3, c4, c4b, c4c, d3, d3]; refine hR _ _ _ ?_; clear hR R)
    rw [seqX_nil]
    refine hK _ _ _ ?_; clear hK K
    refine hN5 _ _ _ ?_
    simp [go_sem, hw, hcz, hco, c1, c2, c2i, s1, s2, s3, s1', s2', ByteArray.size_append, c3, c4, c4b, c4c, d3, d3]
    exact Gp.leaf hP (View.le_refl _) (fun h => by cases h)
  by_cases c5 : al = -1
  rotate_left
  · have c5b : (al == -1) = false := beq_eq_false_iff_ne.2 c5
    have c5c : (al != -1) = true := by rw [bne_iff_ne]; exact c5
    refine xc_two fun N1 hN1 => ?_
    refine xc_reg2 fun K hK => ?_
    simp only [rall, rsl, gres]
    refine seqX_hide2 fun R hR => ?_
    simp [go_sem, hw, hcz, hco, c1, c2, c2i, s1, s2, s3, s1', s2', ByteArray.size_append, c3, c4, c5, c5b, c5c]
    intro q3 hq3
    replace hP := hP.cons hq3
    clear hq3
    have d3 : q3 ≠ m := (hP.ne m (by simp [addrs])).1
    have d3 : m ≠ q3 := (hP.ne m (by simp [addrs])).2
    refine hR _ _ _ ?_; clear hR R
    (refine seqX_hide2 fun R hR => ?_; simp [go_sem, hw, hcz, hco, c1, c2, c2i, s1, s2, s3, s1', s2', ByteArray.size_append, c3, c4, c5, c5b, c5c, d3, d3]; refine hR _ _ _ ?_; clear hR R)
    rw [seqX_nil]
    refine hK _ _ _ ?_; clear hK K
    refine hN1 _ _ _ ?_
    refine xc_two fun N2 hN2 => ?_
    refine xc_two fun N3 hN3 => ?_
    refine xc_reg2 fun K hK => ?_
    simp only [rall, rsl, gres]
    iterate 5 (refine seqX_hide2 fun R hR => ?_; simp [go_sem, hw, hcz, hco, c1, c2, c2i, s1, s2, s3, s1', s2', ByteArray.size_append, c3, c4, c5, c5b, c5c, d3, d3]; refine hR _ _ _ ?_; clear hR R)
    refine seqX_hide2 fun R hR => ?_
    simp [go_sem, hw, hcz, hco, c1, c2, c2i, s1, s2, s3, s1', s2', ByteArray.size_append, c3, c4, c5, c5b, c5c, d3, d3]
    refine hR _ _ _ ?_; clear hR R
    rw [seqX_nil]
    refine hK _ _ _ ?_; clear hK K
    refine hN3 _ _ _ ?_
    refine xc_two fun N4 hN4 => ?_
    refine xc_reg2 fun K hK => ?_
    simp only [rall, rsl, gres]
    iterate 32 (refine seqX_hide2 fun R hR => ?_; simp [go_sem, hw, hcz, hco, c1, c2, c2i, s1, s2, s3, s1', s2', ByteArray.size_append, c3, c4, c5, c5b, c5c, d3, d3]; refine hR _ _ _ ?_; clear hR R)
    rw [seqX_nil]
    refine hK _ _ _ ?_; clear hK K
    refine hN4 _ _ _ ?_
    refine xc_iftrue (by simp [go_sem, hw, hcz, hco, c1, c2, c2i, s1, s2, s3, s1', s2', ByteArray.size_append, c3, c4, c5, c5b, c5c, d3, d3]) ?_
    refine xc_two fun N5 hN5 => ?_
    refine xc_reg2 fun K hK => ?_
    simp only [rall, rsl, gres]
    (refine seqX_hide2 fun R hR => ?_; simp [go_sem, hw, hcz, hco, c1, c2, c2i, s1, s2, s3, s1', s2', ByteArray.size_append, c3, c4, c5, c5b, c5c, d3, d3]; refine hR _ _ _ ?_; clear hR R)
    rw [seqX_nil]
    refine hK _ _ _ ?_; clear hK K
    refine hN5 _ _ _ ?_
    simp [go_sem, hw, hcz, hco, c1, c2, c2i, s1, s2, s3, s1', s2', ByteArray.size_append, c3, c4, c5, c5b, c5c, d3, d3]
    exact Gp.leaf hP (View.le_refl _) (fun h => by cases h)
  subst c4
  subst c5
  have hbase : 0 < lv ∧ (an = e0 ∧ h = e0 ∧ l = e0 ∧ f = e0 ∧ (0 : Int) = 0 ∧ (-1 : Int) = -1) := ⟨by omega, q5, q6, q4, q2, rfl, rfl⟩
  refine xc_two fun N1 hN1 => ?_
  refine xc_reg2 fun K hK => ?_
  simp only [rall, rsl, gres]
  refine seqX_hide2 fun R hR => ?_
  simp [go_sem, hw, hcz, hco, c1, c2, c2i, s1, s2, s3, s1', s2', ByteArray.size_append, c3]
  intro q3 hq3
  replace hP := hP.cons hq3
  clear hq3
  have d3 : q3 ≠ m := (hP.ne m (by simp [addrs])).1
  have d3 : m ≠ q3 := (hP.ne m (by simp [addrs])).2
  refine hR _ _ _ ?_; clear hR R
  (refine seqX_hide2 fun R hR => ?_; simp [go_sem, hw, hcz, hco, c1, c2, c2i, s1, s2, s3, s1', s2', ByteArray.size_append, c3, d3, d3]; refine hR _ _ _ ?_; clear hR R)
  rw [seqX_nil]
  refine hK _ _ _ ?_; clear hK K
  refine hN1 _ _ _ ?_
  refine xc_two fun N2 hN2 => ?_
  refine xc_two fun N3 hN3 => ?_
  refine xc_reg2 fun K hK => ?_
  simp only [rall, rsl, gres]
  iterate 5 (refine seqX_hide2 fun R hR => ?_; simp [go_sem, hw, hcz, hco, c1, c2, c2i, s1, s2, s3, s1', s2', ByteArray.size_append, c3, d3, d3]; refine hR _ _ _ ?_; clear hR R)
  refine seqX_hide2 fun R hR => ?_
  simp [go_sem, hw, hcz, hco, c1, c2, c2i, s1, s2, s3, s1', s2', ByteArray.size_append, c3, d3, d3]
  refine hR _ _ _ ?_; clear hR R
  rw [seqX_nil]
  refine hK _ _ _ ?_; clear hK K
  refine hN3 _ _ _ ?_
  refine xc_two fun N4 hN4 => ?_
  refine xc_reg2 fun K hK => ?_
  simp only [rall, rsl, gres]
  iterate 32 (refine seqX_hide2 fun R hR => ?_; simp [go_sem, hw, hcz, hco, c1, c2, c2i, s1, s2, s3, s1', s2', ByteArray.size_append, c3, d3, d3]; refine hR _ _ _ ?_; clear hR R)
  rw [seqX_nil]
  refine hK _ _ _ ?_; clear hK K
  refine hN4 _ _ _ ?_
  refine xc_iffalse (by simp [go_sem, hw, hcz, hco, c1, c2, c2i, s1, s2, s3, s1', s2', ByteArray.size_append, c3, d3, d3]) ?_
  refine hN2 _ _ _ ?_
  refine xc_two fun N5 hN5 => ?_
  refine xc_two fun N6 hN6 => ?_
  refine xc_reg2 fun K hK => ?_
  simp only [rall, rsl, gres]
  iterate 2 (refine seqX_hide2 fun R hR => ?_; simp [go_sem, hw, hcz, hco, c1, c2, c2i, s1, s2, s3, s1', s2', ByteArray.size_append, c3, d3, d3]; refine hR _ _ _ ?_; clear hR R)
  rw [seqX_nil]
  refine hK _ _ _ ?_; clear hK K
  refine hN6 _ _ _ ?_
  rw [xc_block]
  refine xc_two fun N7 hN7 => ?_
  refine xc_reg2 fun K hK => ?_
  simp only [rall, rsl, gres]
  iterate 2 (refine seqX_hide2 fun R hR => ?_; simp [go_sem, hw, hcz, hco, c1, c2, c2i, s1, s2, s3, s1', s2', ByteArray.size_append, c3, d3, d3]; refine hR _ _ _ ?_; clear hR R)
  rw [seqX_nil]
  refine hK _ _ _ ?_; clear hK K
  refine hN7 _ _ _ ?_
  by_cases k8 : k = 8
  · subst k8
    by_cases hk0 : kids.length = 0
    rotate_left
    · have hk1 : ((kids.length : Int) == 0) = false := beq_eq_false_iff_ne.2 (by omega)
      have hk2 : ¬ (kids.length : Int) = 0 := by omega
      refine xc_iftrue (by simp [go_sem, hw, hcz, hco, d3, d3, hk0, hk1, hk2]) ?_
      refine xc_two fun N8 hN8 => ?_
      refine xc_reg2 fun K hK => ?_
      simp only [rall, rsl, gres]
      iterate 20 (refine seqX_hide2 fun R hR => ?_; simp [go_sem, hw, hcz, hco, d3, d3, hk0, hk1, hk2]; refine hR _ _ _ ?_; clear hR R)
      refine seqX_hide2 fun R hR => ?_
      simp [go_sem, hw, hcz, hco, d3, d3, hk0, hk1, hk2]
      refine hR _ _ _ ?_; clear hR R
      iterate 9 (refine seqX_hide2 fun R hR => ?_; simp [go_sem, hw, hcz, hco, d3, d3, hk0, hk1, hk2]; refine hR _ _ _ ?_; clear hR R)
      refine seqX_hide2 fun R hR => ?_
      simp [go_sem, hw, hcz, hco, d3, d3, hk0, hk1, hk2]
      refine hR _ _ _ ?_; clear hR R
      iterate 4 (refine seqX_hide2 fun R hR => ?_; simp [go_sem, hw, hcz, hco, d3, d3, hk0, hk1, hk2]; refine hR _ _ _ ?_; clear hR R)
      rw [seqX_nil]
      refine hK _ _ _ ?_; clear hK K
      refine hN8 _ _ _ ?_
      simp [go_sem, hw, hcz, hco, d3, d3, hk0, hk1, hk2]
      exact Gp.leaf hP (View.le_refl _) (fun h => by cases h)
    have hkn : kids = [] := List.length_eq_zero_iff.1 hk0
    have hone : nds (.mk 8 0 tag val an h l f row col (-1) kids) = 1 := by rw [nds_mk, hkn]; rfl
    have hnew : ((tag = tNull ∧ val = vNull) ∨ (tag = tStr ∧ Wd val) ∨ (tag = tInt ∧ Dg val)) → PL lv (.mk 8 0 tag val an h l f row col (-1) kids) ∧ n - 1 + nds (.mk 8 0 tag val an h l f row col (-1) kids) = n ∧ 0 ≤ n - 1 := fun hh => by
      refine ⟨?_, by rw [hone]; omega, by omega⟩
      rw [PL]
      exact ⟨hbase.1, hbase.2, .inl ⟨rfl, hkn, hh⟩, fun j hj => by omega⟩
    cases e1 : (tag.toList == [33, 33, 110, 117, 108, 108]) with
    | true =>
      cases e2 : (val.toList == [110, 117, 108, 108]) with
      | true =>
        refine xc_iftrue (by simp [go_sem, hw, hcz, hco, d3, d3, hk0, e1, e2]) ?_
        refine xc_two fun N8 hN8 => ?_
        refine xc_reg2 fun K hK => ?_
        simp only [rall, rsl, gres]
        iterate 20 (refine seqX_hide2 fun R hR => ?_; simp [go_sem, hw, hcz, hco, d3, d3, hk0, e1, e2]; refine hR _ _ _ ?_; clear hR R)
        refine seqX_hide2 fun R hR => ?_
        simp [go_sem, hw, hcz, hco, d3, d3, hk0, e1, e2]
        refine hR _ _ _ ?_; clear hR R
        iterate 9 (refine seqX_hide2 fun R hR => ?_; simp [go_sem, hw, hcz, hco, d3, d3, hk0, e1, e2]; refine hR _ _ _ ?_; clear hR R)
        refine seqX_hide2 fun R hR => ?_
        simp [go_sem, hw, hcz, hco, d3, d3, hk0, e1, e2]
        refine hR _ _ _ ?_; clear hR R
        iterate 4 (refine seqX_hide2 fun R hR => ?_; simp [go_sem, hw, hcz, hco, d3, d3, hk0, e1, e2]; refine hR _ _ _ ?_; clear hR R)
        rw [seqX_nil]
        refine hK _ _ _ ?_; clear hK K
        refine hN8 _ _ _ ?_
        simp [go_sem, hw, hcz, hco, d3, d3, hk0, e1, e2]
        exact Gp.leaf hP (View.le_refl _) (fun _ => hnew (.inl ⟨eq_of_beq l_tNull e1, eq_of_beq l_vNull e2⟩))
      | false =>
        have e3 : (tag.toList == [33, 33, 115, 116, 114]) = false := by rw [eq_of_beq l_tNull e1, l_tNull]; rfl
        have e5 : (tag.toList == [33, 33, 105, 110, 116]) = false := by rw [eq_of_beq l_tNull e1, l_tNull]; rfl
        refine xc_iftrue (by simp [go_sem, hw, hcz, hco, d3, d3, hk0, e1, e2, e3, e5]) ?_
        refine xc_two fun N8 hN8 => ?_
        refine xc_reg2 fun K hK => ?_
        simp only [rall, rsl, gres]
        iterate 20 (refine seqX_hide2 fun R hR => ?_; simp [go_sem, hw, hcz, hco, d3, d3, hk0, e1, e2, e3, e5]; refine hR _ _ _ ?_; clear hR R)
        refine seqX_hide2 fun R hR => ?_
        simp [go_sem, hw, hcz, hco, d3, d3, hk0, e1, e2, e3, e5]
        refine hR _ _ _ ?_; clear hR R
        iterate 9 (refine seqX_hide2 fun R hR => ?_; simp [go_sem, hw, hcz, hco, d3, d3, hk0, e1, e2, e3, e5]; refine hR _ _ _ ?_; clear hR R)
        refine seqX_hide2 fun R hR => ?_
        simp [go_sem, hw, hcz, hco, d3, d3, hk0, e1, e2, e3, e5]
        refine hR _ _ _ ?_; clear hR R
        iterate 4 (refine seqX_hide2 fun R hR => ?_; simp [go_sem, hw, hcz, hco, d3, d3, hk0, e1, e2, e3, e5]; refine hR _ _ _ ?_; clear hR R)
        rw [seqX_nil]
        refine hK _ _ _ ?_; clear hK K
        refine hN8 _ _ _ ?_
        simp [go_sem, hw, hcz, hco, d3, d3, hk0, e1, e2, e3, e5]
        exact Gp.leaf hP (View.le_refl _) (fun h => by cases h)
    | false =>
    cases e3 : (tag.toList == [33, 33, 115, 116, 114]) with
    | true =>
      have e5 : (tag.toList == [33, 33, 105, 110, 116]) = false := by rw [eq_of_beq l_tStr e3, l_tStr]; rfl
      refine xc_iftrue (by simp [go_sem, hw, hcz, hco, d3, d3, hk0, e1, e3, e5]) ?_
      refine xc_two fun N8 hN8 => ?_
      refine xc_reg2 fun K hK => ?_
      simp only [rall, rsl, gres]
      iterate 20 (refine seqX_hide2 fun R hR => ?_; simp [go_sem, hw, hcz, hco, d3, d3, hk0, e1, e3, e5]; refine hR _ _ _ ?_; clear hR R)
      refine seqX_hide2 fun R hR => ?_
      simp [go_sem, hw, hcz, hco, d3, d3, hk0, e1, e3, e5]
      refine call_same hP (word A val (by omega)) ?_
      rintro _ ⟨b, rfl, hb⟩
      cases b with
      | true =>
        refine hR _ _ _ ?_; clear hR R
        iterate 9 (refine seqX_hide2 fun R hR => ?_; simp [go_sem, hw, hcz, hco, d3, d3, hk0, e1, e3, e5]; refine hR _ _ _ ?_; clear hR R)
        refine seqX_hide2 fun R hR => ?_
        simp [go_sem, hw, hcz, hco, d3, d3, hk0, e1, e3, e5]
        refine hR _ _ _ ?_; clear hR R
        iterate 4 (refine seqX_hide2 fun R hR => ?_; simp [go_sem, hw, hcz, hco, d3, d3, hk0, e1, e3, e5]; refine hR _ _ _ ?_; clear hR R)
        rw [seqX_nil]
        refine hK _ _ _ ?_; clear hK K
        refine hN8 _ _ _ ?_
        simp [go_sem, hw, hcz, hco, d3, d3, hk0, e1, e3, e5]
        exact Gp.leaf hP (View.le_refl _) (fun _ => hnew (.inr (.inl ⟨eq_of_beq l_tStr e3, hb rfl⟩)))
      | false =>
        refine hR _ _ _ ?_; clear hR R
        iterate 9 (refine seqX_hide2 fun R hR => ?_; simp [go_sem, hw, hcz, hco, d3, d3, hk0, e1, e3, e5]; refine hR _ _ _ ?_; clear hR R)
        refine seqX_hide2 fun R hR => ?_
        simp [go_sem, hw, hcz, hco, d3, d3, hk0, e1, e3, e5]
        refine hR _ _ _ ?_; clear hR R
        iterate 4 (refine seqX_hide2 fun R hR => ?_; simp [go_sem, hw, hcz, hco, d3, d3, hk0, e1, e3, e5]; refine hR _ _ _ ?_; clear hR R)
        rw [seqX_nil]
        refine hK _ _ _ ?_; clear hK K
        refine hN8 _ _ _ ?_
        simp [go_sem, hw, hcz, hco, d3, d3, hk0, e1, e3, e5]
        exact Gp.leaf hP (View.le_refl _) (fun h => by cases h)
    | false =>
    cases e5 : (tag.toList == [33, 33, 105, 110, 116]) with
    | true =>
      refine xc_iftrue (by simp [go_sem, hw, hcz, hco, d3, d3, hk0, e1, e3, e5]) ?_
      refine xc_two fun N8 hN8 => ?_
      refine xc_reg2 fun K hK => ?_
      simp only [rall, rsl, gres]
      iterate 20 (refine seqX_hide2 fun R hR => ?_; simp [go_sem, hw, hcz, hco, d3, d3, hk0, e1, e3, e5]; refine hR _ _ _ ?_; clear hR R)
      refine seqX_hide2 fun R hR => ?_
      simp [go_sem, hw, hcz, hco, d3, d3, hk0, e1, e3, e5]
      refine hR _ _ _ ?_; clear hR R
      iterate 9 (refine seqX_hide2 fun R hR => ?_; simp [go_sem, hw, hcz, hco, d3, d3, hk0, e1, e3, e5]; refine hR _ _ _ ?_; clear hR R)
      refine seqX_hide2 fun R hR => ?_
      simp [go_sem, hw, hcz, hco, d3, d3, hk0, e1, e3, e5]
      refine call_same hP (digits A val (by omega)) ?_
      rintro _ ⟨b, rfl, hb⟩
      refine hR _ _ _ ?_; clear hR R
      iterate 4 (refine seqX_hide2 fun R hR => ?_; simp [go_sem, hw, hcz, hco, d3, d3, hk0, e1, e3, e5]; refine hR _ _ _ ?_; clear hR R)
      rw [seqX_nil]
      refine hK _ _ _ ?_; clear hK K
      refine hN8 _ _ _ ?_
      simp [go_sem, hw, hcz, hco, d3, d3, hk0, e1, e3, e5]
      exact Gp.leaf hP (View.le_refl _) (fun h => hnew (.inr (.inr ⟨eq_of_beq l_tInt e5, hb h⟩)))
    | false =>
      refine xc_iftrue (by simp [go_sem, hw, hcz, hco, d3, d3, hk0, e1, e3, e5]) ?_
      refine xc_two fun N8 hN8 => ?_
      refine xc_reg2 fun K hK => ?_
      simp only [rall, rsl, gres]
      iterate 20 (refine seqX_hide2 fun R hR => ?_; simp [go_sem, hw, hcz, hco, d3, d3, hk0, e1, e3, e5]; refine hR _ _ _ ?_; clear hR R)
      refine seqX_hide2 fun R hR => ?_
      simp [go_sem, hw, hcz, hco, d3, d3, hk0, e1, e3, e5]
      refine hR _ _ _ ?_; clear hR R
      iterate 9 (refine seqX_hide2 fun R hR => ?_; simp [go_sem, hw, hcz, hco, d3, d3, hk0, e1, e3, e5]; refine hR _ _ _ ?_; clear hR R)
      refine seqX_hide2 fun R hR => ?_
      simp [go_sem, hw, hcz, hco, d3, d3, hk0, e1, e3, e5]
      refine hR _ _ _ ?_; clear hR R
      iterate 4 (refine seqX_hide2 fun R hR => ?_; simp [go_sem, hw, hcz, hco, d3, d3, hk0, e1, e3, e5]; refine hR _ _ _ ?_; clear hR R)
      rw [seqX_nil]
      refine hK _ _ _ ?_; clear hK K
      refine hN8 _ _ _ ?_
      simp [go_sem, hw, hcz, hco, d3, d3, hk0, e1, e3, e5]
      exact Gp.leaf hP (View.le_refl _) (fun h => by cases h)
  have k8b : (k == 8) = false := beq_eq_false_iff_ne.2 k8
  by_cases k2 : k = 2
  · subst k2
    refine xc_iffalse (by simp [go_sem, hw, hcz, hco, d3, d3, k8, k8b]) ?_
    refine xc_two fun N8 hN8 => ?_
    refine xc_reg2 fun K hK => ?_
    simp only [rall, rsl, gres]
    iterate 2 (refine seqX_hide2 fun R hR => ?_; simp [go_sem, hw, hcz, hco, d3, d3, k8, k8b]; refine hR _ _ _ ?_; clear hR R)
    rw [seqX_nil]
    refine hK _ _ _ ?_; clear hK K
    refine hN8 _ _ _ ?_
    refine xc_iftrue (by simp [go_sem, hw, hcz, hco, d3, d3, k8, k8b]) ?_
    refine xc_two fun N9 hN9 => ?_
    refine xc_two fun N10 hN10 => ?_
    refine xc_reg2 fun K hK => ?_
    simp only [rall, rsl, gres]
    iterate 4 (refine seqX_hide2 fun R hR => ?_; simp [go_sem, hw, hcz, hco, d3, d3, k8, k8b]; refine hR _ _ _ ?_; clear hR R)
    rw [seqX_nil]
    refine hK _ _ _ ?_; clear hK K
    refine hN10 _ _ _ ?_
    rw [xc_block]
    rw [xc_loop]
    refine vloopK (fun k' e ds A' => ∃ (i : Nat) (D : View) (n' : Int), k' = kids.length - i ∧ ds = [] ∧ A' = ov D [(q3, .cells (trc 2 0 tag val an h l f row col (-1) (.slice bs kids.length cap)) 24 (0, 0)), (m, .cells #[.int .i64 n'] 3 (0, 0))] ∧ Priv D [q3, m] ∧ e 1 = .int .i64 lv ∧ e 2 = .pointer (some ⟨m, 0, none⟩) ∧ e 3 = .pointer (some ⟨q3, 0, none⟩) ∧ e 89 = .slice bs kids.length cap ∧ e 90 = .int .i64 kids.length ∧ e 91 = .int .i64 i ∧ (i ≤ kids.length) ∧ (A ≤ D) ∧ (n' + 1 + ((kids.take i).map nds).sum = n ∧ 0 ≤ n') ∧ (∀ j (hj : j < kids.length), j < i → PL (lv - 1) kids[j])) _ ⟨0, A, n - 1, rfl, rfl, rfl, hP, by simp [go_sem, hw, hcz, hco, d3, d3, k8, k8b], by simp [go_sem, hw, hcz, hco, d3, d3, k8, k8b], by simp [go_sem, hw, hcz, hco, d3, d3, k8, k8b], by simp [go_sem, hw, hcz, hco, d3, d3, k8, k8b], by simp [go_sem, hw, hcz, hco, d3, d3, k8, k8b], by simp [go_sem, hw, hcz, hco, d3, d3, k8, k8b], by omega, View.le_refl _, by simp; omega, fun j hj h => by omega⟩ ?_
    clear hP
    rintro k' e ds _ ⟨i, D, n', rfl, rfl, rfl, hP, g1, g2, g3, g89, g90, g91, hil, hAD, hn', hpl⟩ J1 X1 hJ1 hX1
    refine xc_sound _ ?_
    have hi6 : i ≤ 1000000 := by have h5 := nds_len (kids.take i); rw [List.length_take] at h5; omega
    have hw1 : IntKind.i64.wrap ((i : Int) + 1) = ((i + 1 : Nat) : Int) := by rw [wrap_in (by omega) (by omega)]; omega
    have hwl : IntKind.i64.wrap ((lv : Int) - 1) = ((lv - 1 : Nat) : Int) := by rw [wrap_in (by omega) (by omega)]; omega
    by_cases hi : i < kids.length
    · obtain ⟨bs', cap', f1, hel⟩ := hT
      simp only [Value.slice.injEq, true_and] at f1
      obtain ⟨rfl, rfl⟩ := f1
      obtain ⟨a, ci, rfl, u1, hci⟩ := hel i hi
      have u1 := le_cells hAD _ _ _ u1
      have hci := hci.le hAD
      have hcz := hci.size
      have hco := hci.ones
      have hx := List.getElem_mem hi
      have htk : kids.take (i + 1) = kids.take i ++ [kids[i]] := List.take_succ_eq_append_getElem hi
      refine xc_two fun N11 hN11 => ?_
      refine xc_reg2 fun K hK => ?_
      simp only [rall, rsl, gres]
      (refine seqX_hide2 fun R hR => ?_; simp [go_sem, hw, hcz, hco, d3, d3, k8, k8b, g1, g2, g3, g89, g90, g91, hi, hw1, hwl, bcs hP u1]; refine hR _ _ _ ?_; clear hR R)
      rw [seqX_nil]
      refine hK _ _ _ ?_; clear hK K
      refine hN11 _ _ _ ?_
      refine xc_two fun N12 hN12 => ?_
      refine xc_iftrue (by simp [go_sem, hw, hcz, hco, d3, d3, k8, k8b, g1, g2, g3, g89, g90, g91, hi, hw1, hwl, bcs hP u1]) ?_
      refine hN12 _ _ _ ?_
      refine xc_two fun N13 hN13 => ?_
      rw [xc_block]
      refine xc_two fun N14 hN14 => ?_
      refine xc_reg2 fun K hK => ?_
      simp only [rall, rsl, gres]
      iterate 2 (refine seqX_hide2 fun R hR => ?_; simp [go_sem, hw, hcz, hco, d3, d3, k8, k8b, g1, g2, g3, g89, g90, g91, hi, hw1, hwl, bcs hP u1]; refine hR _ _ _ ?_; clear hR R)
      refine seqX_hide2 fun R hR => ?_
      simp [go_sem, hw, hcz, hco, d3, d3, k8, k8b, g1, g2, g3, g89, g90, g91, hi, hw1, hwl, bcs hP u1]
      intro q8 hq8
      replace hP := hP.cons hq8
      clear hq8
      have d83 : q8 ≠ q3 := (hP.ne q3 (by simp [addrs])).1
      have d38 : q3 ≠ q8 := (hP.ne q3 (by simp [addrs])).2
      have d8 : q8 ≠ m := (hP.ne m (by simp [addrs])).1
      have d8 : m ≠ q8 := (hP.ne m (by simp [addrs])).2
      refine hR _ _ _ ?_; clear hR R
      refine seqX_hide2 fun R hR => ?_
      simp [go_sem, hw, hcz, hco, d3, d3, k8, k8b, g1, g2, g3, g89, g90, g91, hi, hw1, hwl, bcs hP u1, d83, d38, d8, d8]
      refine hR _ _ _ ?_; clear hR R
      rw [seqX_nil]
      refine hK _ _ _ ?_; clear hK K
      refine hN14 _ _ _ ?_
      refine xc_two fun N15 hN15 => ?_
      refine xc_reg2 fun K hK => ?_
      simp only [rall, rsl, gres]
      iterate 4 (refine seqX_hide2 fun R hR => ?_; simp [go_sem, hw, hcz, hco, d3, d3, k8, k8b, g1, g2, g3, g89, g90, g91, hi, hw1, hwl, bcs hP u1, d83, d38, d8, d8]; refine hR _ _ _ ?_; clear hR R)
      refine seqX_hide2 fun R hR => ?_
      simp [go_sem, hw, hcz, hco, d3, d3, k8, k8b, g1, g2, g3, g89, g90, g91, hi, hw1, hwl, bcs hP u1, d83, d38, d8, d8]
      refine call_ctr (R' := fun v D1 o' => ∃ n2 b, v = .bool b ∧ o' = .cells #[.int .i64 n2] 3 (0, 0) ∧ (b = true → PL (lv - 1) kids[i] ∧ n2 + nds kids[i] = n' ∧ 0 ≤ n2)) 2 hP rfl (View.le_refl _) (ihk _ hx (lv - 1) D ci n' m hci (hks _ hx) (hP.no (by simp [addrs])) hn'.2 (by omega) (by omega)) ?_ ?_
      · rintro v E ⟨D1, n2, b, rfl, h1, h2, rfl, h3⟩
        exact ⟨D1, _, rfl, h2, h1, n2, b, rfl, rfl, h3⟩
      clear hP
      rintro _ D1 _ D' ⟨n2, b, rfl, rfl, hb⟩ h01 h1D hKeep hDD hP
      simp only [List.set_cons_zero, List.set_cons_succ, addrs_cons, addrs_nil] at hP ⊢
      cases b with
      | false =>
        refine hR _ _ _ ?_; clear hR R
        (refine seqX_hide2 fun R hR => ?_; simp [go_sem, hw, hcz, hco, d3, d3, k8, k8b, g1, g2, g3, g89, g90, g91, hi, hw1, hwl, d83, d38, d8, d8]; refine hR _ _ _ ?_; clear hR R)
        rw [seqX_nil]
        refine hK _ _ _ ?_; clear hK K
        refine hN15 _ _ _ ?_
        refine xc_iftrue (by simp [go_sem, hw, hcz, hco, d3, d3, k8, k8b, g1, g2, g3, g89, g90, g91, hi, hw1, hwl, d83, d38, d8, d8]) ?_
        refine xc_two fun N16 hN16 => ?_
        refine xc_reg2 fun K hK => ?_
        simp only [rall, rsl, gres]
        (refine seqX_hide2 fun R hR => ?_; simp [go_sem, hw, hcz, hco, d3, d3, k8, k8b, g1, g2, g3, g89, g90, g91, hi, hw1, hwl, d83, d38, d8, d8]; refine hR _ _ _ ?_; clear hR R)
        rw [seqX_nil]
        refine hK _ _ _ ?_; clear hK K
        refine hN16 _ _ _ ?_
        refine hX1 _ _ _ _ ?_
        simp [go_sem, hw, hcz, hco, d3, d3, k8, k8b, g1, g2, g3, g89, g90, g91, hi, hw1, hwl, d83, d38, d8, d8]
        exact Gp.leaf2 hP (View.le_trans hAD hDD) (fun h => by cases h)
      | true =>
        obtain ⟨p1, p2, p3⟩ := hb rfl
        refine hR _ _ _ ?_; clear hR R
        (refine seqX_hide2 fun R hR => ?_; simp [go_sem, hw, hcz, hco, d3, d3, k8, k8b, g1, g2, g3, g89, g90, g91, hi, hw1, hwl, d83, d38, d8, d8]; refine hR _ _ _ ?_; clear hR R)
        rw [seqX_nil]
        refine hK _ _ _ ?_; clear hK K
        refine hN15 _ _ _ ?_
        refine xc_iffalse (by simp [go_sem, hw, hcz, hco, d3, d3, k8, k8b, g1, g2, g3, g89, g90, g91, hi, hw1, hwl, d83, d38, d8, d8]) ?_
        refine hN13 _ _ _ ?_
        refine xc_reg2 fun K hK => ?_
        simp only [rall, rsl, gres]
        iterate 2 (refine seqX_hide2 fun R hR => ?_; simp [go_sem, hw, hcz, hco, d3, d3, k8, k8b, g1, g2, g3, g89, g90, g91, hi, hw1, hwl, d83, d38, d8, d8]; refine hR _ _ _ ?_; clear hR R)
        rw [seqX_nil]
        refine hK _ _ _ ?_; clear hK K
        refine sink_goal 0 hP rfl fun hPn lq8 nq8 => ?_
        clear hP; have hP := hPn; clear hPn
        simp only [List.eraseIdx_cons_zero, List.eraseIdx_cons_succ, addrs_cons, addrs_nil] at hP ⊢
        refine hJ1 (kids.length - (i + 1)) _ _ _ (by omega) ⟨i + 1, _, n2, rfl, rfl, rfl, hP, by simp [go_sem, hw, hcz, hco, d3, d3, k8, k8b, g1, g2, g3, g89, g90, g91, hi, hw1, hwl, d83, d38, d8, d8], by simp [go_sem, hw, hcz, hco, d3, d3, k8, k8b, g1, g2, g3, g89, g90, g91, hi, hw1, hwl, d83, d38, d8, d8], by simp [go_sem, hw, hcz, hco, d3, d3, k8, k8b, g1, g2, g3, g89, g90, g91, hi, hw1, hwl, d83, d38, d8, d8], by simp [go_sem, hw, hcz, hco, d3, d3, k8, k8b, g1, g2, g3, g89, g90, g91, hi, hw1, hwl, d83, d38, d8, d8], by simp [go_sem, hw, hcz, hco, d3, d3, k8, k8b, g1, g2, g3, g89, g90, g91, hi, hw1, hwl, d83, d38, d8, d8], by simp [go_sem, hw, hcz, hco, d3, d3, k8, k8b, g1, g2, g3, g89, g90, g91, hi, hw1, hwl, d83, d38, d8, d8], by omega, View.le_trans hAD (View.le_trans hDD lq8), ⟨by rw [htk, List.map_append, List.sum_append]; simp only [List.map_cons, List.map_nil, List.sum_cons, List.sum_nil]; omega, p3⟩, fun j hj h => by rcases Nat.lt_or_eq_of_le (Nat.le_of_lt_succ h) with h2 | h2; exact hpl j hj h2; subst h2; exact p1⟩
    · rw [List.take_of_length_le (by omega)] at hn'
      have hnew : tag = tSeq → val = e0 → PL lv (.mk 2 0 tag val an h l f row col (-1) kids) ∧ n' + nds (.mk 2 0 tag val an h l f row col (-1) kids) = n ∧ 0 ≤ n' := fun h1 h2 => by
        refine ⟨?_, by rw [nds_mk]; omega, hn'.2⟩
        rw [PL]
        exact ⟨hbase.1, hbase.2, .inr (.inl ⟨rfl, h1, h2⟩), fun j hj => hpl j hj (by omega)⟩
      cases e1 : (tag.toList == [33, 33, 115, 101, 113]) with
      | false =>
        refine xc_two fun N11 hN11 => ?_
        refine xc_reg2 fun K hK => ?_
        simp only [rall, rsl, gres]
        (refine seqX_hide2 fun R hR => ?_; simp [go_sem, hw, hcz, hco, d3, d3, k8, k8b, g1, g2, g3, g89, g90, g91, hi, e1]; refine hR _ _ _ ?_; clear hR R)
        rw [seqX_nil]
        refine hK _ _ _ ?_; clear hK K
        refine hN11 _ _ _ ?_
        refine xc_two fun N12 hN12 => ?_
        refine xc_iffalse (by simp [go_sem, hw, hcz, hco, d3, d3, k8, k8b, g1, g2, g3, g89, g90, g91, hi, e1]) ?_
        refine hX1 _ _ _ _ ?_
        refine hN9 _ _ _ ?_
        refine xc_two fun N13 hN13 => ?_
        refine xc_reg2 fun K hK => ?_
        simp only [rall, rsl, gres]
        iterate 9 (refine seqX_hide2 fun R hR => ?_; simp [go_sem, hw, hcz, hco, d3, d3, k8, k8b, g1, g2, g3, g89, g90, g91, hi, e1]; refine hR _ _ _ ?_; clear hR R)
        rw [seqX_nil]
        refine hK _ _ _ ?_; clear hK K
        refine hN13 _ _ _ ?_
        simp [go_sem, hw, hcz, hco, d3, d3, k8, k8b, g1, g2, g3, g89, g90, g91, hi, e1]
        exact Gp.leaf hP hAD (fun h => by cases h)
      | true =>
        cases e2 : val.toList.isEmpty with
        | true =>
          refine xc_two fun N11 hN11 => ?_
          refine xc_reg2 fun K hK => ?_
          simp only [rall, rsl, gres]
          (refine seqX_hide2 fun R hR => ?_; simp [go_sem, hw, hcz, hco, d3, d3, k8, k8b, g1, g2, g3, g89, g90, g91, hi, e1, e2]; refine hR _ _ _ ?_; clear hR R)
          rw [seqX_nil]
          refine hK _ _ _ ?_; clear hK K
          refine hN11 _ _ _ ?_
          refine xc_two fun N12 hN12 => ?_
          refine xc_iffalse (by simp [go_sem, hw, hcz, hco, d3, d3, k8, k8b, g1, g2, g3, g89, g90, g91, hi, e1, e2]) ?_
          refine hX1 _ _ _ _ ?_
          refine hN9 _ _ _ ?_
          refine xc_two fun N13 hN13 => ?_
          refine xc_reg2 fun K hK => ?_
          simp only [rall, rsl, gres]
          iterate 9 (refine seqX_hide2 fun R hR => ?_; simp [go_sem, hw, hcz, hco, d3, d3, k8, k8b, g1, g2, g3, g89, g90, g91, hi, e1, e2]; refine hR _ _ _ ?_; clear hR R)
          rw [seqX_nil]
          refine hK _ _ _ ?_; clear hK K
          refine hN13 _ _ _ ?_
          simp [go_sem, hw, hcz, hco, d3, d3, k8, k8b, g1, g2, g3, g89, g90, g91, hi, e1, e2]
          exact Gp.leaf hP hAD (fun _ => hnew (eq_of_beq l_tSeq e1) (emp_eq e2))
        | false =>
          refine xc_two fun N11 hN11 => ?_
          refine xc_reg2 fun K hK => ?_
          simp only [rall, rsl, gres]
          (refine seqX_hide2 fun R hR => ?_; simp [go_sem, hw, hcz, hco, d3, d3, k8, k8b, g1, g2, g3, g89, g90, g91, hi, e1, e2]; refine hR _ _ _ ?_; clear hR R)
          rw [seqX_nil]
          refine hK _ _ _ ?_; clear hK K
          refine hN11 _ _ _ ?_
          refine xc_two fun N12 hN12 => ?_
          refine xc_iffalse (by simp [go_sem, hw, hcz, hco, d3, d3, k8, k8b, g1, g2, g3, g89, g90, g91, hi, e1, e2]) ?_
          refine hX1 _ _ _ _ ?_
          refine hN9 _ _ _ ?_
          refine xc_two fun N13 hN13 => ?_
          refine xc_reg2 fun K hK => ?_
          simp only [rall, rsl, gres]
          iterate 9 (refine seqX_hide2 fun R hR => ?_; simp [go_sem, hw, hcz, hco, d3, d3, k8, k8b, g1, g2, g3, g89, g90, g91, hi, e1, e2]; refine hR _ _ _ ?_; clear hR R)
          rw [seqX_nil]
          refine hK _ _ _ ?_; clear hK K
          refine hN13 _ _ _ ?_
          simp [go_sem, hw, hcz, hco, d3, d3, k8, k8b, g1, g2, g3, g89, g90, g91, hi, e1, e2]
          exact Gp.leaf hP hAD (fun h => by cases h)
  have k2b : (k == 2) = false := beq_eq_false_iff_ne.2 k2
  by_cases k4 : k = 4
  rotate_left
  · have k4b : (k == 4) = false := beq_eq_false_iff_ne.2 k4
    refine xc_iffalse (by simp [go_sem, hw, hcz, hco, d3, d3, k8, k8b, k2, k2b, k4, k4b]) ?_
    refine xc_two fun N8 hN8 => ?_
    refine xc_reg2 fun K hK => ?_
    simp only [rall, rsl, gres]
    iterate 2 (refine seqX_hide2 fun R hR => ?_; simp [go_sem, hw, hcz, hco, d3, d3, k8, k8b, k2, k2b, k4, k4b]; refine hR _ _ _ ?_; clear hR R)
    rw [seqX_nil]
    refine hK _ _ _ ?_; clear hK K
    refine hN8 _ _ _ ?_
    refine xc_iffalse (by simp [go_sem, hw, hcz, hco, d3, d3, k8, k8b, k2, k2b, k4, k4b]) ?_
    refine xc_two fun N9 hN9 => ?_
    refine xc_reg2 fun K hK => ?_
    simp only [rall, rsl, gres]
    iterate 2 (refine seqX_hide2 fun R hR => ?_; simp [go_sem, hw, hcz, hco, d3, d3, k8, k8b, k2, k2b, k4, k4b]; refine hR _ _ _ ?_; clear hR R)
    rw [seqX_nil]
    refine hK _ _ _ ?_; clear hK K
    refine hN9 _ _ _ ?_
    refine xc_iffalse (by simp [go_sem, hw, hcz, hco, d3, d3, k8, k8b, k2, k2b, k4, k4b]) ?_
    refine hN5 _ _ _ ?_
    refine xc_two fun N10 hN10 => ?_
    refine xc_reg2 fun K hK => ?_
    simp only [rall, rsl, gres]
    (refine seqX_hide2 fun R hR => ?_; simp [go_sem, hw, hcz, hco, d3, d3, k8, k8b, k2, k2b, k4, k4b]; refine hR _ _ _ ?_; clear hR R)
    rw [seqX_nil]
    refine hK _ _ _ ?_; clear hK K
    refine hN10 _ _ _ ?_
    simp [go_sem, hw, hcz, hco, d3, d3, k8, k8b, k2, k2b, k4, k4b]
    exact Gp.leaf hP (View.le_refl _) (fun h => by cases h)
  subst k4
  refine xc_iffalse (by simp [go_sem, hw, hcz, hco, d3, d3, k8, k8b, k2, k2b]) ?_
  refine xc_two fun N8 hN8 => ?_
  refine xc_reg2 fun K hK => ?_
  simp only [rall, rsl, gres]
  iterate 2 (refine seqX_hide2 fun R hR => ?_; simp [go_sem, hw, hcz, hco, d3, d3, k8, k8b, k2, k2b]; refine hR _ _ _ ?_; clear hR R)
  rw [seqX_nil]
  refine hK _ _ _ ?_; clear hK K
  refine hN8 _ _ _ ?_
  refine xc_iffalse (by simp [go_sem, hw, hcz, hco, d3, d3, k8, k8b, k2, k2b]) ?_
  refine xc_two fun N9 hN9 => ?_
  refine xc_reg2 fun K hK => ?_
  simp only [rall, rsl, gres]
  iterate 2 (refine seqX_hide2 fun R hR => ?_; simp [go_sem, hw, hcz, hco, d3, d3, k8, k8b, k2, k2b]; refine hR _ _ _ ?_; clear hR R)
  rw [seqX_nil]
  refine hK _ _ _ ?_; clear hK K
  refine hN9 _ _ _ ?_
  refine xc_iftrue (by simp [go_sem, hw, hcz, hco, d3, d3, k8, k8b, k2, k2b]) ?_
  refine xc_two fun N10 hN10 => ?_
  refine xc_two fun N11 hN11 => ?_
  refine xc_reg2 fun K hK => ?_
  simp only [rall, rsl, gres]
  (refine seqX_hide2 fun R hR => ?_; simp [go_sem, hw, hcz, hco, d3, d3, k8, k8b, k2, k2b]; refine hR _ _ _ ?_; clear hR R)
  rw [seqX_nil]
  refine hK _ _ _ ?_; clear hK K
  refine hN11 _ _ _ ?_
  rw [xc_block]
  rw [xc_loop]
  refine vloopK (fun k' e ds A' => ∃ (i : Nat) (D : View) (n' : Int), k' = kids.length - i ∧ ds = [] ∧ A' = ov D [(q3, .cells (trc 4 0 tag val an h l f row col (-1) (.slice bs kids.length cap)) 24 (0, 0)), (m, .cells #[.int .i64 n'] 3 (0, 0))] ∧ Priv D [q3, m] ∧ e 1 = .int .i64 lv ∧ e 2 = .pointer (some ⟨m, 0, none⟩) ∧ e 3 = .pointer (some ⟨q3, 0, none⟩) ∧ e 9 = .int .i64 i ∧ (i ≤ kids.length) ∧ (A ≤ D) ∧ (n' + 1 + ((kids.take i).map nds).sum = n ∧ 0 ≤ n') ∧ (∀ j (hj : j < kids.length), j < i → PL (lv - 1) kids[j]) ∧ (∀ j (hj : j < kids.length), j < i → j % 2 = 0 → kids[j].tag = tStr) ∧ (∀ j j' (hj : j < kids.length) (hj' : j' < j), j < i → j % 2 = 0 → j' % 2 = 0 → (kids[j']'(by omega)).value ≠ kids[j].value)) _ ⟨0, A, n - 1, rfl, rfl, rfl, hP, by simp [go_sem, hw, hcz, hco, d3, d3, k8, k8b, k2, k2b], by simp [go_sem, hw, hcz, hco, d3, d3, k8, k8b, k2, k2b], by simp [go_sem, hw, hcz, hco, d3, d3, k8, k8b, k2, k2b], by simp [go_sem, hw, hcz, hco, d3, d3, k8, k8b, k2, k2b], by omega, View.le_refl _, by simp; omega, fun j hj h => by omega, fun j hj h => by omega, fun j j' hj hj' h => by omega⟩ ?_
  clear hP
  rintro k' e ds _ ⟨i, D, n', rfl, rfl, rfl, hP, g1, g2, g3, g9, hil, hAD, hn', hpl, htg, hvl⟩ J1 X1 hJ1 hX1
  refine xc_sound _ ?_
  have hi6 : i ≤ 1000000 := by have h5 := nds_len (kids.take i); rw [List.length_take] at h5; omega
  have hw1 : IntKind.i64.wrap ((i : Int) + 1) = ((i + 1 : Nat) : Int) := by rw [wrap_in (by omega) (by omega)]; omega
  have hwl : IntKind.i64.wrap ((lv : Int) - 1) = ((lv - 1 : Nat) : Int) := by rw [wrap_in (by omega) (by omega)]; omega
  by_cases hi : i < kids.length
  · obtain ⟨bs', cap', f1, hel⟩ := hT
    simp only [Value.slice.injEq, true_and] at f1
    obtain ⟨rfl, rfl⟩ := f1
    obtain ⟨a, ci, rfl, u0, hci0⟩ := hel i hi
    have hx := List.getElem_mem hi
    have htk : kids.take (i + 1) = kids.take i ++ [kids[i]] := List.take_succ_eq_append_getElem hi
    have u1 := le_cells hAD _ _ _ u0
    have hci := hci0.le hAD
    have hcz := hci.size
    have hco := hci.ones
    have hii : (i : Int) < kids.length := by omega
    refine xc_two fun N12 hN12 => ?_
    refine xc_two fun N13 hN13 => ?_
    refine xc_reg2 fun K hK => ?_
    simp only [rall, rsl, gres]
    iterate 5 (refine seqX_hide2 fun R hR => ?_; simp [go_sem, hw, hcz, hco, d3, d3, k8, k8b, k2, k2b, g1, g2, g3, g9, hi, hii, hw1, hwl, bcs hP u1]; refine hR _ _ _ ?_; clear hR R)
    rw [seqX_nil]
    refine hK _ _ _ ?_; clear hK K
    refine hN13 _ _ _ ?_
    refine xc_iftrue (by simp [go_sem, hw, hcz, hco, d3, d3, k8, k8b, k2, k2b, g1, g2, g3, g9, hi, hii, hw1, hwl, bcs hP u1]) ?_
    refine hN12 _ _ _ ?_
    refine xc_two fun N14 hN14 => ?_
    rw [xc_block]
    refine xc_two fun N15 hN15 => ?_
    refine xc_two fun N16 hN16 => ?_
    refine xc_reg2 fun K hK => ?_
    simp only [rall, rsl, gres]
    iterate 8 (refine seqX_hide2 fun R hR => ?_; simp [go_sem, hw, hcz, hco, d3, d3, k8, k8b, k2, k2b, g1, g2, g3, g9, hi, hii, hw1, hwl, bcs hP u1]; refine hR _ _ _ ?_; clear hR R)
    refine seqX_hide2 fun R hR => ?_
    simp [go_sem, hw, hcz, hco, d3, d3, k8, k8b, k2, k2b, g1, g2, g3, g9, hi, hii, hw1, hwl, bcs hP u1]
    refine call_ctr (R' := fun v D1 o' => ∃ n2 b, v = .bool b ∧ o' = .cells #[.int .i64 n2] 3 (0, 0) ∧ (b = true → PL (lv - 1) kids[i] ∧ n2 + nds kids[i] = n' ∧ 0 ≤ n2)) 1 hP rfl (View.le_refl _) (ihk _ hx (lv - 1) D ci n' m hci (hks _ hx) (hP.no (by simp [addrs])) hn'.2 (by omega) (by omega)) ?_ ?_
    · rintro v E ⟨D1, n2, b, rfl, h1, h2, rfl, h3⟩
      exact ⟨D1, _, rfl, h2, h1, n2, b, rfl, rfl, h3⟩
    clear hP
    rintro _ D1 _ D' ⟨n2, b, rfl, rfl, hb⟩ h01 h1D hKeep hDD hP
    simp only [List.set_cons_zero, List.set_cons_succ, addrs_cons, addrs_nil] at hP ⊢
    have u1 := le_cells hDD _ _ _ u1
    obtain ⟨y0, y2, y3⟩ := hci.at2
    have v2 := cell_in u1 (by decide) (by decide) y2
    have v3 := cell_in u1 (by decide) (by decide) y3
    have hAD' := View.le_trans hAD hDD
    cases b with
    | false =>
      refine hR _ _ _ ?_; clear hR R
      iterate 15 (refine seqX_hide2 fun R hR => ?_; simp [go_sem, hw, hcz, hco, d3, d3, k8, k8b, k2, k2b, g1, g2, g3, g9, hi, hii, hw1, hwl]; refine hR _ _ _ ?_; clear hR R)
      rw [seqX_nil]
      refine hK _ _ _ ?_; clear hK K
      refine hN16 _ _ _ ?_
      refine xc_iftrue (by simp [go_sem, hw, hcz, hco, d3, d3, k8, k8b, k2, k2b, g1, g2, g3, g9, hi, hii, hw1, hwl]) ?_
      refine xc_two fun N17 hN17 => ?_
      refine xc_reg2 fun K hK => ?_
      simp only [rall, rsl, gres]
      (refine seqX_hide2 fun R hR => ?_; simp [go_sem, hw, hcz, hco, d3, d3, k8, k8b, k2, k2b, g1, g2, g3, g9, hi, hii, hw1, hwl]; refine hR _ _ _ ?_; clear hR R)
      rw [seqX_nil]
      refine hK _ _ _ ?_; clear hK K
      refine hN17 _ _ _ ?_
      refine hX1 _ _ _ _ ?_
      simp [go_sem, hw, hcz, hco, d3, d3, k8, k8b, k2, k2b, g1, g2, g3, g9, hi, hii, hw1, hwl]
      exact Gp.leaf hP hAD' (fun h => by cases h)
    | true =>
    obtain ⟨p1, p2, p3⟩ := hb rfl
    have hn2 : n2 + 1 + ((kids.take (i + 1)).map nds).sum = n ∧ 0 ≤ n2 := ⟨by rw [htk, List.map_append, List.sum_append]; simp only [List.map_cons, List.map_nil, List.sum_cons, List.sum_nil]; omega, p3⟩
    have hpl2 : ∀ j (hj : j < kids.length), j < i + 1 → PL (lv - 1) kids[j] := fun j hj h => by rcases Nat.lt_or_eq_of_le (Nat.le_of_lt_succ h) with h2 | h2; exact hpl j hj h2; subst h2; exact p1
    by_cases hev : i % 2 = 0
    rotate_left
    · have m1 : (i : Int).tmod 2 = 1 := by rw [Int.tmod_eq_emod_of_nonneg (by omega)]; omega
      have m2 : (i : Int) % 2 = 1 := by omega
      have m3 : ¬ (i : Int) % 2 = 0 := by omega
      refine hR _ _ _ ?_; clear hR R
      iterate 15 (refine seqX_hide2 fun R hR => ?_; simp [go_sem, hw, hcz, hco, d3, d3, k8, k8b, k2, k2b, g1, g2, g3, g9, hi, hii, hw1, hwl, bc hP v2, m1, m2, m3, hev]; refine hR _ _ _ ?_; clear hR R)
      rw [seqX_nil]
      refine hK _ _ _ ?_; clear hK K
      refine hN16 _ _ _ ?_
      refine xc_iffalse (by simp [go_sem, hw, hcz, hco, d3, d3, k8, k8b, k2, k2b, g1, g2, g3, g9, hi, hii, hw1, hwl, bc hP v2, m1, m2, m3, hev]) ?_
      refine hN15 _ _ _ ?_
      refine xc_two fun N17 hN17 => ?_
      refine xc_reg2 fun K hK => ?_
      simp only [rall, rsl, gres]
      (refine seqX_hide2 fun R hR => ?_; simp [go_sem, hw, hcz, hco, d3, d3, k8, k8b, k2, k2b, g1, g2, g3, g9, hi, hii, hw1, hwl, bc hP v2, m1, m2, m3, hev]; refine hR _ _ _ ?_; clear hR R)
      rw [seqX_nil]
      refine hK _ _ _ ?_; clear hK K
      refine hN17 _ _ _ ?_
      rw [xc_block]
      rw [xc_loop]
      refine vloopK (fun k' e ds A' => k' = 0 ∧ ds = [] ∧ A' = ov D' [(q3, .cells (trc 4 0 tag val an h l f row col (-1) (.slice (some a) kids.length cap)) 24 (0, 0)), (m, .cells #[.int .i64 n2] 3 (0, 0))] ∧ Priv D' [q3, m] ∧ e 1 = .int .i64 lv ∧ e 2 = .pointer (some ⟨m, 0, none⟩) ∧ e 3 = .pointer (some ⟨q3, 0, none⟩) ∧ e 9 = .int .i64 i) _ ⟨rfl, rfl, rfl, hP, by simp [go_sem, hw, hcz, hco, d3, d3, k8, k8b, k2, k2b, g1, g2, g3, g9, hi, hii, hw1, hwl, bc hP v2, m1, m2, m3, hev], by simp [go_sem, hw, hcz, hco, d3, d3, k8, k8b, k2, k2b, g1, g2, g3, g9, hi, hii, hw1, hwl, bc hP v2, m1, m2, m3, hev], by simp [go_sem, hw, hcz, hco, d3, d3, k8, k8b, k2, k2b, g1, g2, g3, g9, hi, hii, hw1, hwl, bc hP v2, m1, m2, m3, hev], by simp [go_sem, hw, hcz, hco, d3, d3, k8, k8b, k2, k2b, g1, g2, g3, g9, hi, hii, hw1, hwl, bc hP v2, m1, m2, m3, hev]⟩ ?_
      clear g1 g2 g3 g9
      clear hP
      rintro k' e ds _ ⟨rfl, rfl, rfl, hP, g1, g2, g3, g9⟩ J2 X2 hJ2 hX2
      refine xc_sound _ ?_
      refine xc_two fun N18 hN18 => ?_
      refine xc_two fun N19 hN19 => ?_
      refine xc_reg2 fun K hK => ?_
      simp only [rall, rsl, gres]
      iterate 8 (refine seqX_hide2 fun R hR => ?_; simp [go_sem, hw, hcz, hco, d3, d3, k8, k8b, k2, k2b, hi, hii, hw1, hwl, bc hP v2, m1, m2, m3, hev, g1, g2, g3, g9]; refine hR _ _ _ ?_; clear hR R)
      rw [seqX_nil]
      refine hK _ _ _ ?_; clear hK K
      refine hN19 _ _ _ ?_
      refine xc_iffalse (by simp [go_sem, hw, hcz, hco, d3, d3, k8, k8b, k2, k2b, hi, hii, hw1, hwl, bc hP v2, m1, m2, m3, hev, g1, g2, g3, g9]) ?_
      refine hX2 _ _ _ _ ?_
      refine hN14 _ _ _ ?_
      refine xc_reg2 fun K hK => ?_
      simp only [rall, rsl, gres]
      iterate 3 (refine seqX_hide2 fun R hR => ?_; simp [go_sem, hw, hcz, hco, d3, d3, k8, k8b, k2, k2b, hi, hii, hw1, hwl, bc hP v2, m1, m2, m3, hev, g1, g2, g3, g9]; refine hR _ _ _ ?_; clear hR R)
      rw [seqX_nil]
      refine hK _ _ _ ?_; clear hK K
      refine hJ1 (kids.length - (i + 1)) _ _ _ (by omega) ⟨i + 1, D', n2, rfl, rfl, rfl, hP, by simp [go_sem, hw, hcz, hco, d3, d3, k8, k8b, k2, k2b, hi, hii, hw1, hwl, m1, m2, m3, hev, g1, g2, g3, g9], by simp [go_sem, hw, hcz, hco, d3, d3, k8, k8b, k2, k2b, hi, hii, hw1, hwl, m1, m2, m3, hev, g1, g2, g3, g9], by simp [go_sem, hw, hcz, hco, d3, d3, k8, k8b, k2, k2b, hi, hii, hw1, hwl, m1, m2, m3, hev, g1, g2, g3, g9], by simp [go_sem, hw, hcz, hco, d3, d3, k8, k8b, k2, k2b, hi, hii, hw1, hwl, m1, m2, m3, hev, g1, g2, g3, g9], by omega, hAD', hn2, hpl2, fun j hj h h2 => htg j hj (by omega) h2, fun j j' hj hj' h h2 h3 => hvl j j' hj hj' (by omega) h2 h3⟩
    have m1 : (i : Int).tmod 2 = 0 := by rw [Int.tmod_eq_emod_of_nonneg (by omega)]; omega
    have m2 : (i : Int) % 2 = 0 := by omega
    cases e3 : (kids[i].tag.toList == [33, 33, 115, 116, 114]) with
    | false =>
      refine hR _ _ _ ?_; clear hR R
      iterate 15 (refine seqX_hide2 fun R hR => ?_; simp [go_sem, hw, hcz, hco, d3, d3, k8, k8b, k2, k2b, g1, g2, g3, g9, hi, hii, hw1, hwl, bc hP v2, m1, m2, hev, e3]; refine hR _ _ _ ?_; clear hR R)
      rw [seqX_nil]
      refine hK _ _ _ ?_; clear hK K
      refine hN16 _ _ _ ?_
      refine xc_iftrue (by simp [go_sem, hw, hcz, hco, d3, d3, k8, k8b, k2, k2b, g1, g2, g3, g9, hi, hii, hw1, hwl, bc hP v2, m1, m2, hev, e3]) ?_
      refine xc_two fun N17 hN17 => ?_
      refine xc_reg2 fun K hK => ?_
      simp only [rall, rsl, gres]
      (refine seqX_hide2 fun R hR => ?_; simp [go_sem, hw, hcz, hco, d3, d3, k8, k8b, k2, k2b, g1, g2, g3, g9, hi, hii, hw1, hwl, bc hP v2, m1, m2, hev, e3]; refine hR _ _ _ ?_; clear hR R)
      rw [seqX_nil]
      refine hK _ _ _ ?_; clear hK K
      refine hN17 _ _ _ ?_
      refine hX1 _ _ _ _ ?_
      simp [go_sem, hw, hcz, hco, d3, d3, k8, k8b, k2, k2b, g1, g2, g3, g9, hi, hii, hw1, hwl, bc hP v2, m1, m2, hev, e3]
      exact Gp.leaf hP hAD' (fun h => by cases h)
    | true =>
    have htg2 : ∀ j (hj : j < kids.length), j < i + 1 → j % 2 = 0 → kids[j].tag = tStr := fun j hj h h2 => by rcases Nat.lt_or_eq_of_le (Nat.le_of_lt_succ h) with h3 | h3; exact htg j hj h3 h2; subst h3; exact eq_of_beq l_tStr e3
    refine hR _ _ _ ?_; clear hR R
    iterate 15 (refine seqX_hide2 fun R hR => ?_; simp [go_sem, hw, hcz, hco, d3, d3, k8, k8b, k2, k2b, g1, g2, g3, g9, hi, hii, hw1, hwl, bc hP v2, m1, m2, hev, e3]; refine hR _ _ _ ?_; clear hR R)
    rw [seqX_nil]
    refine hK _ _ _ ?_; clear hK K
    refine hN16 _ _ _ ?_
    refine xc_iffalse (by simp [go_sem, hw, hcz, hco, d3, d3, k8, k8b, k2, k2b, g1, g2, g3, g9, hi, hii, hw1, hwl, bc hP v2, m1, m2, hev, e3]) ?_
    refine hN15 _ _ _ ?_
    refine xc_two fun N17 hN17 => ?_
    refine xc_reg2 fun K hK => ?_
    simp only [rall, rsl, gres]
    (refine seqX_hide2 fun R hR => ?_; simp [go_sem, hw, hcz, hco, d3, d3, k8, k8b, k2, k2b, g1, g2, g3, g9, hi, hii, hw1, hwl, bc hP v2, m1, m2, hev, e3]; refine hR _ _ _ ?_; clear hR R)
    rw [seqX_nil]
    refine hK _ _ _ ?_; clear hK K
    refine hN17 _ _ _ ?_
    rw [xc_block]
    rw [xc_loop]
    refine vloopK (fun k' e ds A' => ∃ (j : Nat), k' = i - j ∧ ds = [] ∧ A' = ov D' [(q3, .cells (trc 4 0 tag val an h l f row col (-1) (.slice (some a) kids.length cap)) 24 (0, 0)), (m, .cells #[.int .i64 n2] 3 (0, 0))] ∧ Priv D' [q3, m] ∧ e 1 = .int .i64 lv ∧ e 2 = .pointer (some ⟨m, 0, none⟩) ∧ e 3 = .pointer (some ⟨q3, 0, none⟩) ∧ e 9 = .int .i64 i ∧ e 10 = .int .i64 j ∧ (j ≤ i + 1) ∧ (j % 2 = 0) ∧ (∀ j' (hj' : j' < kids.length), j' < j → j' < i → j' % 2 = 0 → kids[j'].value ≠ kids[i].value)) _ ⟨0, rfl, rfl, rfl, hP, by simp [go_sem, hw, hcz, hco, d3, d3, k8, k8b, k2, k2b, g1, g2, g3, g9, hi, hii, hw1, hwl, bc hP v2, m1, m2, hev], by simp [go_sem, hw, hcz, hco, d3, d3, k8, k8b, k2, k2b, g1, g2, g3, g9, hi, hii, hw1, hwl, bc hP v2, m1, m2, hev], by simp [go_sem, hw, hcz, hco, d3, d3, k8, k8b, k2, k2b, g1, g2, g3, g9, hi, hii, hw1, hwl, bc hP v2, m1, m2, hev], by simp [go_sem, hw, hcz, hco, d3, d3, k8, k8b, k2, k2b, g1, g2, g3, g9, hi, hii, hw1, hwl, bc hP v2, m1, m2, hev], by simp [go_sem, hw, hcz, hco, d3, d3, k8, k8b, k2, k2b, g1, g2, g3, g9, hi, hii, hw1, hwl, bc hP v2, m1, m2, hev], by omega, rfl, fun j' hj' h => by omega⟩ ?_
    clear g1 g2 g3 g9
    clear hP
    rintro k' e ds _ ⟨j, rfl, rfl, rfl, hP, g1, g2, g3, g9, g10, hji, hjv, hne⟩ J2 X2 hJ2 hX2
    refine xc_sound _ ?_
    have hwj : IntKind.i64.wrap ((j : Int) + 2) = (j : Int) + 2 := wrap_in (by omega) (by omega)
    by_cases hj : j < i
    rotate_left
    · have hji2 : ¬ (j : Int) < i := by omega
      have hvl2 : ∀ j j' (hj : j < kids.length) (hj' : j' < j), j < i + 1 → j % 2 = 0 → j' % 2 = 0 → (kids[j']'(by omega)).value ≠ kids[j].value := fun j1 j' hj1 hj' h1 h2 h3 => by
        rcases Nat.lt_or_eq_of_le (Nat.le_of_lt_succ h1) with h4 | h4
        · exact hvl j1 j' hj1 hj' h4 h2 h3
        · subst h4
          exact hne j' (by omega) (by omega) hj' h3
      refine xc_two fun N18 hN18 => ?_
      refine xc_two fun N19 hN19 => ?_
      refine xc_reg2 fun K hK => ?_
      simp only [rall, rsl, gres]
      iterate 8 (refine seqX_hide2 fun R hR => ?_; simp [go_sem, hw, hcz, hco, d3, d3, k8, k8b, k2, k2b, hi, hii, hw1, hwl, m1, m2, hev, g1, g2, g3, g9, g10, hj, hji2]; refine hR _ _ _ ?_; clear hR R)
      rw [seqX_nil]
      refine hK _ _ _ ?_; clear hK K
      refine hN19 _ _ _ ?_
      refine xc_iffalse (by simp [go_sem, hw, hcz, hco, d3, d3, k8, k8b, k2, k2b, hi, hii, hw1, hwl, m1, m2, hev, g1, g2, g3, g9, g10, hj, hji2]) ?_
      refine hX2 _ _ _ _ ?_
      refine hN14 _ _ _ ?_
      refine xc_reg2 fun K hK => ?_
      simp only [rall, rsl, gres]
      iterate 3 (refine seqX_hide2 fun R hR => ?_; simp [go_sem, hw, hcz, hco, d3, d3, k8, k8b, k2, k2b, hi, hii, hw1, hwl, m1, m2, hev, g1, g2, g3, g9, g10, hj, hji2]; refine hR _ _ _ ?_; clear hR R)
      rw [seqX_nil]
      refine hK _ _ _ ?_; clear hK K
      refine hJ1 (kids.length - (i + 1)) _ _ _ (by omega) ⟨i + 1, D', n2, rfl, rfl, rfl, hP, by simp [go_sem, hw, hcz, hco, d3, d3, k8, k8b, k2, k2b, hi, hii, hw1, hwl, m1, m2, hev, g1, g2, g3, g9, g10, hj, hji2], by simp [go_sem, hw, hcz, hco, d3, d3, k8, k8b, k2, k2b, hi, hii, hw1, hwl, m1, m2, hev, g1, g2, g3, g9, g10, hj, hji2], by simp [go_sem, hw, hcz, hco, d3, d3, k8, k8b, k2, k2b, hi, hii, hw1, hwl, m1, m2, hev, g1, g2, g3, g9, g10, hj, hji2], by simp [go_sem, hw, hcz, hco, d3, d3, k8, k8b, k2, k2b, hi, hii, hw1, hwl, m1, m2, hev, g1, g2, g3, g9, g10, hj, hji2], by omega, hAD', hn2, hpl2, htg2, hvl2⟩
    have hjk : j < kids.length := by omega
    have hji2 : (j : Int) < i := by omega
    have hjk2 : (j : Int) < kids.length := by omega
    obtain ⟨a', cj, ea, uj, hcj⟩ := hel j hjk
    simp only [Option.some.injEq] at ea
    subst ea
    obtain ⟨-, -, z3⟩ := hcj.at2
    have vj := cell_in (le_cells hAD' _ _ _ uj) (by decide) (by decide) z3
    cases e4 : (kids[j].value.toList == kids[i].value.toList) with
    | true =>
      refine xc_two fun N18 hN18 => ?_
      refine xc_two fun N19 hN19 => ?_
      refine xc_reg2 fun K hK => ?_
      simp only [rall, rsl, gres]
      iterate 8 (refine seqX_hide2 fun R hR => ?_; simp [go_sem, hw, hcz, hco, d3, d3, k8, k8b, k2, k2b, hi, hii, hw1, hwl, m1, m2, hev, g1, g2, g3, g9, g10, hj, hji2, hjk2, hwj, bc hP v3, bc hP vj, e4]; refine hR _ _ _ ?_; clear hR R)
      rw [seqX_nil]
      refine hK _ _ _ ?_; clear hK K
      refine hN19 _ _ _ ?_
      refine xc_iftrue (by simp [go_sem, hw, hcz, hco, d3, d3, k8, k8b, k2, k2b, hi, hii, hw1, hwl, m1, m2, hev, g1, g2, g3, g9, g10, hj, hji2, hjk2, hwj, bc hP v3, bc hP vj, e4]) ?_
      refine hN18 _ _ _ ?_
      refine xc_two fun N20 hN20 => ?_
      rw [xc_block]
      refine xc_two fun N21 hN21 => ?_
      rw [xc_draws]
      refine vdrawK [(0, true), (1, true), (2, true), (3, true), (4, true), (5, true), (6, true), (7, true), (8, true), (9, true), (10, true), (11, true), (12, true)] (ov D' [(q3, .cells (trc 4 0 tag val an h l f row col (-1) (.slice (some a) kids.length cap)) 24 (0, 0)), (m, .cells #[.int .i64 n2] 3 (0, 0))]) mixed (by kernel_rfl) (View.le_refl _) fun K hK => ?_
      simp only [rsl, gres]
      iterate 13 (refine seqR_hide fun R hR => ?_; simp [go_sem, hw, hcz, hco, d3, d3, k8, k8b, k2, k2b, hi, hii, hw1, hwl, m1, m2, hev, g1, g2, g3, g9, g10, hj, hji2, hjk2, hwj, bc hP v3, bc hP vj, e4]; refine hR _ _ _ ?_; clear hR R)
      rw [seqR_nil]
      refine hK _ _ _ ?_; clear hK K
      refine hN21 _ _ _ ?_
      refine xc_iftrue (by simp [go_sem, hw, hcz, hco, d3, d3, k8, k8b, k2, k2b, hi, hii, hw1, hwl, m1, m2, hev, g1, g2, g3, g9, g10, hj, hji2, hjk2, hwj, bc hP v3, bc hP vj, e4]) ?_
      refine xc_two fun N22 hN22 => ?_
      refine xc_reg2 fun K hK => ?_
      simp only [rall, rsl, gres]
      (refine seqX_hide2 fun R hR => ?_; simp [go_sem, hw, hcz, hco, d3, d3, k8, k8b, k2, k2b, hi, hii, hw1, hwl, m1, m2, hev, g1, g2, g3, g9, g10, hj, hji2, hjk2, hwj, bc hP v3, bc hP vj, e4]; refine hR _ _ _ ?_; clear hR R)
      rw [seqX_nil]
      refine hK _ _ _ ?_; clear hK K
      refine hN22 _ _ _ ?_
      refine hX2 _ _ _ _ ?_
      refine hX1 _ _ _ _ ?_
      simp [go_sem, hw, hcz, hco, d3, d3, k8, k8b, k2, k2b, hi, hii, hw1, hwl, m1, m2, hev, g1, g2, g3, g9, g10, hj, hji2, hjk2, hwj, bc hP v3, bc hP vj, e4]
      exact Gp.leaf hP hAD' (fun h => by cases h)
    | false =>
      have hnj : kids[j].value ≠ kids[i].value := fun e => by
        have := (Lib.bytes_beq_iff kids[j].value kids[i].value).2 e
        rw [e4] at this; cases this
      have hne2 : ∀ j' (hj' : j' < kids.length), j' < j + 2 → j' < i → j' % 2 = 0 → kids[j'].value ≠ kids[i].value := fun j' hj' h h2 h3 => by
        by_cases h4 : j' < j
        · exact hne j' hj' h4 h2 h3
        · have h5 : j' = j := by omega
          subst h5
          exact hnj
      refine xc_two fun N18 hN18 => ?_
      refine xc_two fun N19 hN19 => ?_
      refine xc_reg2 fun K hK => ?_
      simp only [rall, rsl, gres]
      iterate 8 (refine seqX_hide2 fun R hR => ?_; simp [go_sem, hw, hcz, hco, d3, d3, k8, k8b, k2, k2b, hi, hii, hw1, hwl, m1, m2, hev, g1, g2, g3, g9, g10, hj, hji2, hjk2, hwj, bc hP v3, bc hP vj, e4]; refine hR _ _ _ ?_; clear hR R)
      rw [seqX_nil]
      refine hK _ _ _ ?_; clear hK K
      refine hN19 _ _ _ ?_
      refine xc_iftrue (by simp [go_sem, hw, hcz, hco, d3, d3, k8, k8b, k2, k2b, hi, hii, hw1, hwl, m1, m2, hev, g1, g2, g3, g9, g10, hj, hji2, hjk2, hwj, bc hP v3, bc hP vj, e4]) ?_
      refine hN18 _ _ _ ?_
      refine xc_two fun N20 hN20 => ?_
      rw [xc_block]
      refine xc_two fun N21 hN21 => ?_
      rw [xc_draws]
      refine vdrawK [(0, true), (1, true), (2, true), (3, true), (4, true), (5, true), (6, true), (7, true), (8, true), (9, true), (10, true), (11, true), (12, true)] (ov D' [(q3, .cells (trc 4 0 tag val an h l f row col (-1) (.slice (some a) kids.length cap)) 24 (0, 0)), (m, .cells #[.int .i64 n2] 3 (0, 0))]) mixed (by kernel_rfl) (View.le_refl _) fun K hK => ?_
      simp only [rsl, gres]
      iterate 13 (refine seqR_hide fun R hR => ?_; simp [go_sem, hw, hcz, hco, d3, d3, k8, k8b, k2, k2b, hi, hii, hw1, hwl, m1, m2, hev, g1, g2, g3, g9, g10, hj, hji2, hjk2, hwj, bc hP v3, bc hP vj, e4]; refine hR _ _ _ ?_; clear hR R)
      rw [seqR_nil]
      refine hK _ _ _ ?_; clear hK K
      refine hN21 _ _ _ ?_
      refine xc_iffalse (by simp [go_sem, hw, hcz, hco, d3, d3, k8, k8b, k2, k2b, hi, hii, hw1, hwl, m1, m2, hev, g1, g2, g3, g9, g10, hj, hji2, hjk2, hwj, bc hP v3, bc hP vj, e4]) ?_
      refine hN20 _ _ _ ?_
      refine xc_reg2 fun K hK => ?_
      simp only [rall, rsl, gres]
      iterate 3 (refine seqX_hide2 fun R hR => ?_; simp [go_sem, hw, hcz, hco, d3, d3, k8, k8b, k2, k2b, hi, hii, hw1, hwl, m1, m2, hev, g1, g2, g3, g9, g10, hj, hji2, hjk2, hwj, bc hP v3, bc hP vj, e4]; refine hR _ _ _ ?_; clear hR R)
      rw [seqX_nil]
      refine hK _ _ _ ?_; clear hK K
      refine hJ2 (i - (j + 2)) _ _ _ (by omega) ⟨j + 2, rfl, rfl, rfl, hP, by simp [go_sem, hw, hcz, hco, d3, d3, k8, k8b, k2, k2b, hi, hii, hw1, hwl, m1, m2, hev, g1, g2, g3, g9, g10, hj, hji2, hjk2, hwj, e4], by simp [go_sem, hw, hcz, hco, d3, d3, k8, k8b, k2, k2b, hi, hii, hw1, hwl, m1, m2, hev, g1, g2, g3, g9, g10, hj, hji2, hjk2, hwj, e4], by simp [go_sem, hw, hcz, hco, d3, d3, k8, k8b, k2, k2b, hi, hii, hw1, hwl, m1, m2, hev, g1, g2, g3, g9, g10, hj, hji2, hjk2, hwj, e4], by simp [go_sem, hw, hcz, hco, d3, d3, k8, k8b, k2, k2b, hi, hii, hw1, hwl, m1, m2, hev, g1, g2, g3, g9, g10, hj, hji2, hjk2, hwj, e4], by simp [go_sem, hw, hcz, hco, d3, d3, k8, k8b, k2, k2b, hi, hii, hw1, hwl, m1, m2, hev, g1, g2, g3, g9, g10, hj, hji2, hjk2, hwj, e4], by omega, by omega, hne2⟩
  · rw [List.take_of_length_le (by omega)] at hn'
    have hie : i = kids.length := by omega
    have hnew : tag = tMap → val = e0 → kids.length % 2 = 0 → PL lv (.mk 4 0 tag val an h l f row col (-1) kids) ∧ n' + nds (.mk 4 0 tag val an h l f row col (-1) kids) = n ∧ 0 ≤ n' := fun h1 h2 h3 => by
      refine ⟨?_, by rw [nds_mk]; omega, hn'.2⟩
      rw [PL]
      exact ⟨hbase.1, hbase.2, .inr (.inr ⟨rfl, h1, h2, h3, fun j hj h => htg j hj (by omega) h, fun j j' hj hj' h h' => hvl j j' hj hj' (by omega) h h'⟩), fun j hj => hpl j hj (by omega)⟩
    have hii : ¬ (i : Int) < kids.length := by omega
    cases e1 : (tag.toList == [33, 33, 109, 97, 112]) with
    | false =>
      refine xc_two fun N12 hN12 => ?_
      refine xc_two fun N13 hN13 => ?_
      refine xc_reg2 fun K hK => ?_
      simp only [rall, rsl, gres]
      iterate 5 (refine seqX_hide2 fun R hR => ?_; simp [go_sem, hw, hcz, hco, d3, d3, k8, k8b, k2, k2b, g1, g2, g3, g9, hi, hii, e1]; refine hR _ _ _ ?_; clear hR R)
      rw [seqX_nil]
      refine hK _ _ _ ?_; clear hK K
      refine hN13 _ _ _ ?_
      refine xc_iffalse (by simp [go_sem, hw, hcz, hco, d3, d3, k8, k8b, k2, k2b, g1, g2, g3, g9, hi, hii, e1]) ?_
      refine hX1 _ _ _ _ ?_
      refine hN10 _ _ _ ?_
      refine xc_two fun N14 hN14 => ?_
      refine xc_reg2 fun K hK => ?_
      simp only [rall, rsl, gres]
      iterate 16 (refine seqX_hide2 fun R hR => ?_; simp [go_sem, hw, hcz, hco, d3, d3, k8, k8b, k2, k2b, g1, g2, g3, g9, hi, hii, e1]; refine hR _ _ _ ?_; clear hR R)
      rw [seqX_nil]
      refine hK _ _ _ ?_; clear hK K
      refine hN14 _ _ _ ?_
      simp [go_sem, hw, hcz, hco, d3, d3, k8, k8b, k2, k2b, g1, g2, g3, g9, hi, hii, e1]
      exact Gp.leaf hP hAD (fun h => by cases h)
    | true =>
    cases e2 : val.toList.isEmpty with
    | false =>
      refine xc_two fun N12 hN12 => ?_
      refine xc_two fun N13 hN13 => ?_
      refine xc_reg2 fun K hK => ?_
      simp only [rall, rsl, gres]
      iterate 5 (refine seqX_hide2 fun R hR => ?_; simp [go_sem, hw, hcz, hco, d3, d3, k8, k8b, k2, k2b, g1, g2, g3, g9, hi, hii, e1, e2]; refine hR _ _ _ ?_; clear hR R)
      rw [seqX_nil]
      refine hK _ _ _ ?_; clear hK K
      refine hN13 _ _ _ ?_
      refine xc_iffalse (by simp [go_sem, hw, hcz, hco, d3, d3, k8, k8b, k2, k2b, g1, g2, g3, g9, hi, hii, e1, e2]) ?_
      refine hX1 _ _ _ _ ?_
      refine hN10 _ _ _ ?_
      refine xc_two fun N14 hN14 => ?_
      refine xc_reg2 fun K hK => ?_
      simp only [rall, rsl, gres]
      iterate 16 (refine seqX_hide2 fun R hR => ?_; simp [go_sem, hw, hcz, hco, d3, d3, k8, k8b, k2, k2b, g1, g2, g3, g9, hi, hii, e1, e2]; refine hR _ _ _ ?_; clear hR R)
      rw [seqX_nil]
      refine hK _ _ _ ?_; clear hK K
      refine hN14 _ _ _ ?_
      simp [go_sem, hw, hcz, hco, d3, d3, k8, k8b, k2, k2b, g1, g2, g3, g9, hi, hii, e1, e2]
      exact Gp.leaf hP hAD (fun h => by cases h)
    | true =>
    by_cases hev : kids.length % 2 = 0
    · have m1 : (kids.length : Int).tmod 2 = 0 := by rw [Int.tmod_eq_emod_of_nonneg (by omega)]; omega
      have m2 : (kids.length : Int) % 2 = 0 := by omega
      refine xc_two fun N12 hN12 => ?_
      refine xc_two fun N13 hN13 => ?_
      refine xc_reg2 fun K hK => ?_
      simp only [rall, rsl, gres]
      iterate 5 (refine seqX_hide2 fun R hR => ?_; simp [go_sem, hw, hcz, hco, d3, d3, k8, k8b, k2, k2b, g1, g2, g3, g9, hi, hii, e1, e2, m1, m2, hev]; refine hR _ _ _ ?_; clear hR R)
      rw [seqX_nil]
      refine hK _ _ _ ?_; clear hK K
      refine hN13 _ _ _ ?_
      refine xc_iffalse (by simp [go_sem, hw, hcz, hco, d3, d3, k8, k8b, k2, k2b, g1, g2, g3, g9, hi, hii, e1, e2, m1, m2, hev]) ?_
      refine hX1 _ _ _ _ ?_
      refine hN10 _ _ _ ?_
      refine xc_two fun N14 hN14 => ?_
      refine xc_reg2 fun K hK => ?_
      simp only [rall, rsl, gres]
      iterate 16 (refine seqX_hide2 fun R hR => ?_; simp [go_sem, hw, hcz, hco, d3, d3, k8, k8b, k2, k2b, g1, g2, g3, g9, hi, hii, e1, e2, m1, m2, hev]; refine hR _ _ _ ?_; clear hR R)
      rw [seqX_nil]
      refine hK _ _ _ ?_; clear hK K
      refine hN14 _ _ _ ?_
      simp [go_sem, hw, hcz, hco, d3, d3, k8, k8b, k2, k2b, g1, g2, g3, g9, hi, hii, e1, e2, m1, m2, hev]
      exact Gp.leaf hP hAD (fun _ => hnew (eq_of_beq l_tMap e1) (emp_eq e2) hev)
    · have m1 : (kids.length : Int).tmod 2 = 1 := by rw [Int.tmod_eq_emod_of_nonneg (by omega)]; omega
      have m2 : (kids.length : Int) % 2 = 1 := by omega
      refine xc_two fun N12 hN12 => ?_
      refine xc_two fun N13 hN13 => ?_
      refine xc_reg2 fun K hK => ?_
      simp only [rall, rsl, gres]
      iterate 5 (refine seqX_hide2 fun R hR => ?_; simp [go_sem, hw, hcz, hco, d3, d3, k8, k8b, k2, k2b, g1, g2, g3, g9, hi, hii, e1, e2, m1, m2, hev]; refine hR _ _ _ ?_; clear hR R)
      rw [seqX_nil]
      refine hK _ _ _ ?_; clear hK K
      refine hN13 _ _ _ ?_
      refine xc_iffalse (by simp [go_sem, hw, hcz, hco, d3, d3, k8, k8b, k2, k2b, g1, g2, g3, g9, hi, hii, e1, e2, m1, m2, hev]) ?_
      refine hX1 _ _ _ _ ?_
      refine hN10 _ _ _ ?_
      refine xc_two fun N14 hN14 => ?_
      refine xc_reg2 fun K hK => ?_
      simp only [rall, rsl, gres]
      iterate 16 (refine seqX_hide2 fun R hR => ?_; simp [go_sem, hw, hcz, hco, d3, d3, k8, k8b, k2, k2b, g1, g2, g3, g9, hi, hii, e1, e2, m1, m2, hev]; refine hR _ _ _ ?_; clear hR R)
      rw [seqX_nil]
      refine hK _ _ _ ?_; clear hK K
      refine hN14 _ _ _ ?_
      simp [go_sem, hw, hcz, hco, d3, d3, k8, k8b, k2, k2b, g1, g2, g3, g9, hi, hii, e1, e2, m1, m2, hev]
      exact Gp.leaf hP hAD (fun h => by cases h)
end Go.Proofs.YtpinamipjddobaaV

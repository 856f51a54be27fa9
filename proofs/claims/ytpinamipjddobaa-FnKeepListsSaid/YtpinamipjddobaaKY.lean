/- Trees: spec.SameTree. -/
import Derived.Test.YtpinamipjddobaaKX
namespace Go.Proofs.YtpinamipjddobaaV
open Go.RowKit
set_option linter.unusedSimpArgs false
set_option linter.unusedVariables false
/-- A tag; none is a text's. -/
def tg (t : Tr) : ByteArray := if t.tag = e0 then tStr else t.tag
set_option maxRecDepth 20000 in
theorem tag31 (A : View) (t : Tr) (c : Array Value) (hc : IsTr A t c) : VCalls Try.prog 52 #[.agg c] A fun r A' => r = .string (tg t) ∧ A ≤ A' := by
  obtain ⟨k, st, tag, val, an, h, l, f, row, col, al, kids, rfl⟩ := t.ex
  obtain ⟨bb, bc0, rfl, -⟩ := hc.open
  refine xcalls Try.func52 rfl (by simp [Try.ntmps52]) ?_
  simp only [Try.f52]
  have hP : Priv A (addrs []) := Priv.nil A
  show xc _ _ _ _ _ _ (ov A [])
  by_cases ht : tag = e0
  · have ht' : tag.toList.isEmpty = true := by rw [ht]; kernel_rfl
    have ht2 : tag.toList = [] := by rw [ht]; kernel_rfl
    refine xc_two fun N1 hN1 => ?_
    refine xc_reg2 fun K hK => ?_
    simp only [rall, rsl, gres]
    refine seqX_hide2 fun R hR => ?_
    simp [go_sem, ht', ht2]
    intro q1 hq1
    replace hP := hP.cons hq1
    clear hq1
    refine hR _ _ _ ?_; clear hR R
    (refine seqX_hide2 fun R hR => ?_; simp [go_sem, ht', ht2]; refine hR _ _ _ ?_; clear hR R)
    rw [seqX_nil]
    refine hK _ _ _ ?_; clear hK K
    refine hN1 _ _ _ ?_
    refine xc_two fun N2 hN2 => ?_
    refine xc_two fun N3 hN3 => ?_
    refine xc_reg2 fun K hK => ?_
    simp only [rall, rsl, gres]
    iterate 3 (refine seqX_hide2 fun R hR => ?_; simp [go_sem, ht', ht2]; refine hR _ _ _ ?_; clear hR R)
    rw [seqX_nil]
    refine hK _ _ _ ?_; clear hK K
    refine hN3 _ _ _ ?_
    refine xc_iftrue (by simp [go_sem, ht', ht2]) ?_
    refine xc_two fun N4 hN4 => ?_
    refine xc_reg2 fun K hK => ?_
    simp only [rall, rsl, gres]
    (refine seqX_hide2 fun R hR => ?_; simp [go_sem, ht', ht2]; refine hR _ _ _ ?_; clear hR R)
    rw [seqX_nil]
    refine hK _ _ _ ?_; clear hK K
    refine hN4 _ _ _ ?_
    simp [go_sem, ht', ht2]
    rw [show tg (.mk k st tag val an h l f row col al kids) = tStr from if_pos ht]
    exact ⟨rfl, le_ov hP⟩
  have ht2 : ¬ tag.toList = [] := fun he => absurd (show tag.toList = e0.toList by rw [he]; kernel_rfl) (bytes_ne ht)
  have ht' : tag.toList.isEmpty = false := by
    cases he : tag.toList.isEmpty with
    | false => rfl
    | true => exact absurd (List.isEmpty_iff.1 he) ht2
  refine xc_two fun N1 hN1 => ?_
  refine xc_reg2 fun K hK => ?_
  simp only [rall, rsl, gres]
  refine seqX_hide2 fun R hR => ?_
  simp [go_sem, ht', ht2]
  intro q1 hq1
  replace hP := hP.cons hq1
  clear hq1
  refine hR _ _ _ ?_; clear hR R
  (refine seqX_hide2 fun R hR => ?_; simp [go_sem, ht', ht2]; refine hR _ _ _ ?_; clear hR R)
  rw [seqX_nil]
  refine hK _ _ _ ?_; clear hK K
  refine hN1 _ _ _ ?_
  refine xc_two fun N2 hN2 => ?_
  refine xc_two fun N3 hN3 => ?_
  refine xc_reg2 fun K hK => ?_
  simp only [rall, rsl, gres]
  iterate 3 (refine seqX_hide2 fun R hR => ?_; simp [go_sem, ht', ht2]; refine hR _ _ _ ?_; clear hR R)
  rw [seqX_nil]
  refine hK _ _ _ ?_; clear hK K
  refine hN3 _ _ _ ?_
  refine xc_iffalse (by simp [go_sem, ht', ht2]) ?_
  refine hN2 _ _ _ ?_
  refine xc_two fun N4 hN4 => ?_
  refine xc_reg2 fun K hK => ?_
  simp only [rall, rsl, gres]
  iterate 3 (refine seqX_hide2 fun R hR => ?_; simp [go_sem, ht', ht2]; refine hR _ _ _ ?_; clear hR R)
  rw [seqX_nil]
  refine hK _ _ _ ?_; clear hK K
  refine hN4 _ _ _ ?_
  simp [go_sem, ht', ht2]
  rw [show tg (.mk k st tag val an h l f row col al kids) = tag from if_neg ht]
  exact ⟨rfl, le_ov hP⟩
/-- Trees that say the same. -/
def Same : Tr → Tr → Prop
  | .mk k st tag val an h l f row col al kids, b => b.kind = k ∧ b.kids.length = kids.length ∧ (k = 8 → b.value = val ∧ tg b = tg (.mk k st tag val an h l f row col al kids)) ∧ ∀ j (hj : j < kids.length) (hj' : j < b.kids.length), Same (kids[j]) (b.kids[j])
termination_by v => SizeOf.sizeOf v
decreasing_by
  have := List.sizeOf_lt_of_mem (List.getElem_mem hj)
  simp
  omega
theorem Same.refl : ∀ t : Tr, Same t t
  | .mk k st tag val an h l f row col al kids => by
    rw [Same]
    exact ⟨rfl, rfl, fun _ => ⟨rfl, rfl⟩, fun j hj _ => Same.refl _⟩
termination_by v => SizeOf.sizeOf v
decreasing_by
  have := List.sizeOf_lt_of_mem (List.getElem_mem hj)
  simp
  omega
set_option maxRecDepth 20000 in
set_option maxHeartbeats 400000 in
theorem same14 (t : Tr) : ∀ (A : View) (t' : Tr) (c c' : Array Value), IsTr A t c → IsTr A t' c' → Same t t' → nds t ≤ 1000000 → VCalls Try.prog 19 #[.agg c, .agg c'] A fun r A' => r = .bool true ∧ A ≤ A' := by
  induction t using WellFounded.induction (measure (fun t : Tr => SizeOf.sizeOf t)).wf with
  | _ t ih =>
  intro A t' c c' hc hc' hs hnd
  obtain ⟨k, st, tag, val, an, h, l, f, row, col, al, kids, rfl⟩ := t.ex
  have ihk : ∀ x ∈ kids, ∀ (A : View) (t' : Tr) (c c' : Array Value), IsTr A x c → IsTr A t' c' → Same x t' → nds x ≤ 1000000 → VCalls Try.prog 19 #[.agg c, .agg c'] A fun r A' => r = .bool true ∧ A ≤ A' := fun x hx => ih x (by
    have := List.sizeOf_lt_of_mem hx
    show SizeOf.sizeOf x < SizeOf.sizeOf (Tr.mk k st tag val an h l f row col al kids)
    simp
    omega)
  clear ih
  obtain ⟨kd, st', tag', val', an', h', l', f', row', col', al', kids', rfl⟩ := t'.ex
  rw [Same] at hs
  obtain ⟨hsk, hsl, hsv, hsn⟩ := hs
  replace hsk : kd = k := hsk
  replace hsl : kids'.length = kids.length := hsl
  replace hsv : k = 8 → val' = val ∧ tg (.mk kd st' tag' val' an' h' l' f' row' col' al' kids') = tg (.mk k st tag val an h l f row col al kids) := hsv
  replace hsn : ∀ j (hj : j < kids.length) (hj' : j < kids'.length), Same (kids[j]) (kids'[j]) := hsn
  subst hsk
  have hc0 := hc
  have hc0' := hc'
  obtain ⟨b1, bc1, rfl, hT⟩ := hc.open
  obtain ⟨b2, bc2, rfl, hT'⟩ := hc'.open
  rw [hsl] at hc0'
  rw [nds_mk] at hnd
  have hkl := nds_len kids
  refine xcalls Try.func19 rfl (by simp [Try.ntmps19]) ?_
  simp only [Try.f19]
  have hP : Priv A (addrs []) := Priv.nil A
  show xc _ _ _ _ _ _ (ov A [])
  refine xc_two fun N1 hN1 => ?_
  refine xc_reg2 fun K hK => ?_
  simp only [rall, rsl, gres]
  refine seqX_hide2 fun R hR => ?_
  simp [go_sem, hsl]
  intro q2 hq2
  replace hP := hP.cons hq2
  clear hq2
  refine hR _ _ _ ?_; clear hR R
  refine seqX_hide2 fun R hR => ?_
  simp [go_sem, hsl]
  intro q3 hq3
  replace hP := hP.cons hq3
  clear hq3
  have d32 : q3 ≠ q2 := (hP.ne q2 (by simp [addrs])).1
  have d23 : q2 ≠ q3 := (hP.ne q2 (by simp [addrs])).2
  refine hR _ _ _ ?_; clear hR R
  (refine seqX_hide2 fun R hR => ?_; simp [go_sem, hsl, d32, d23]; refine hR _ _ _ ?_; clear hR R)
  rw [seqX_nil]
  refine hK _ _ _ ?_; clear hK K
  refine hN1 _ _ _ ?_
  refine xc_two fun N2 hN2 => ?_
  refine xc_two fun N3 hN3 => ?_
  have tl : ∀ (D0 : View) (e : Env), Priv D0 [q3, q2] → e 2 = .pointer (some ⟨q2, 0, none⟩) → e 3 = .pointer (some ⟨q3, 0, none⟩) → (A ≤ D0) → N2 e [] (ov D0 [(q3, .cells (trc kd st' tag' val' an' h' l' f' row' col' al' (.slice b2 kids.length bc2)) 24 (0, 0)), (q2, .cells (trc kd st tag val an h l f row col al (.slice b1 kids.length bc1)) 24 (0, 0))]) := by
    clear hP
    intro D0 e hP g2 g3 hD0
    refine hN2 _ _ _ ?_
    refine xc_two fun N4 hN4 => ?_
    refine xc_two fun N5 hN5 => ?_
    refine xc_reg2 fun K hK => ?_
    simp only [rall, rsl, gres]
    iterate 4 (refine seqX_hide2 fun R hR => ?_; simp [go_sem, hsl, d32, d23, g2, g3]; refine hR _ _ _ ?_; clear hR R)
    rw [seqX_nil]
    refine hK _ _ _ ?_; clear hK K
    refine hN5 _ _ _ ?_
    rw [xc_block]
    rw [xc_loop]
    refine vloopK (fun k' e ds A' => ∃ (i : Nat) (D : View), k' = kids.length - i ∧ ds = [] ∧ A' = ov D [(q3, .cells (trc kd st' tag' val' an' h' l' f' row' col' al' (.slice b2 kids.length bc2)) 24 (0, 0)), (q2, .cells (trc kd st tag val an h l f row col al (.slice b1 kids.length bc1)) 24 (0, 0))] ∧ Priv D [q3, q2] ∧ e 2 = .pointer (some ⟨q2, 0, none⟩) ∧ e 3 = .pointer (some ⟨q3, 0, none⟩) ∧ e 41 = .slice b1 kids.length bc1 ∧ e 42 = .int .i64 kids.length ∧ e 43 = .int .i64 i ∧ (i ≤ kids.length) ∧ (A ≤ D)) _ ⟨0, D0, rfl, rfl, rfl, hP, by simp [go_sem, hsl, d32, d23, g2, g3], by simp [go_sem, hsl, d32, d23, g2, g3], by simp [go_sem, hsl, d32, d23, g2, g3], by simp [go_sem, hsl, d32, d23, g2, g3], by simp [go_sem, hsl, d32, d23, g2, g3], by omega, hD0⟩ ?_
    clear g2 g3
    clear hP
    rintro k' e ds _ ⟨i, D, rfl, rfl, rfl, hP, g2, g3, g41, g42, g43, hil, hAD⟩ J1 X1 hJ1 hX1
    refine xc_sound _ ?_
    have hw1 : IntKind.i64.wrap ((i : Int) + 1) = ((i + 1 : Nat) : Int) := by rw [wrap_in (by omega) (by omega)]; omega
    by_cases hi : i < kids.length
    rotate_left
    · have hii : ¬ (i : Int) < kids.length := by omega
      refine xc_two fun N6 hN6 => ?_
      refine xc_reg2 fun K hK => ?_
      simp only [rall, rsl, gres]
      (refine seqX_hide2 fun R hR => ?_; simp [go_sem, hsl, d32, d23, g2, g3, g41, g42, g43, hi, hii]; refine hR _ _ _ ?_; clear hR R)
      rw [seqX_nil]
      refine hK _ _ _ ?_; clear hK K
      refine hN6 _ _ _ ?_
      refine xc_two fun N7 hN7 => ?_
      refine xc_iffalse (by simp [go_sem, hsl, d32, d23, g2, g3, g41, g42, g43, hi, hii]) ?_
      refine hX1 _ _ _ _ ?_
      refine hN4 _ _ _ ?_
      refine xc_two fun N8 hN8 => ?_
      refine xc_reg2 fun K hK => ?_
      simp only [rall, rsl, gres]
      (refine seqX_hide2 fun R hR => ?_; simp [go_sem, hsl, d32, d23, g2, g3, g41, g42, g43, hi, hii]; refine hR _ _ _ ?_; clear hR R)
      rw [seqX_nil]
      refine hK _ _ _ ?_; clear hK K
      refine hN8 _ _ _ ?_
      simp [go_sem, hsl, d32, d23, g2, g3, g41, g42, g43, hi, hii]
      exact View.le_trans hAD (le_ov hP)
    have hii : (i : Int) < kids.length := by omega
    have hi2 : i < kids'.length := by omega
    have hii2 : (i : Int) < kids'.length := by omega
    obtain ⟨bs, cap, f1, hel⟩ := hT
    simp only [Value.slice.injEq, true_and] at f1
    obtain ⟨hb1, hbc1⟩ := f1
    obtain ⟨a1, ci, ha1, u1, hci⟩ := hel i hi
    rw [ha1] at hb1
    obtain ⟨bs', cap', f2, hel'⟩ := hT'
    simp only [Value.slice.injEq, true_and] at f2
    obtain ⟨hb2, hbc2⟩ := f2
    obtain ⟨a2, cj, ha2, u2, hcj⟩ := hel' i hi2
    rw [ha2] at hb2
    have u1 := le_cells hAD _ _ _ u1
    have u2 := le_cells hAD _ _ _ u2
    have hci := hci.le hAD
    have hcj := hcj.le hAD
    have hz1 := hci.size
    have ho1 := hci.ones
    have hz2 := hcj.size
    have ho2 := hcj.ones
    have hnk : nds kids[i] ≤ 1000000 := by
      have := nds_mem (List.getElem_mem hi)
      omega
    subst hb1
    subst hb2
    refine xc_two fun N6 hN6 => ?_
    refine xc_reg2 fun K hK => ?_
    simp only [rall, rsl, gres]
    (refine seqX_hide2 fun R hR => ?_; simp [go_sem, hsl, d32, d23, g2, g3, g41, g42, g43, hi, hii, hi2, hii2, hw1, hz1, ho1, hz2, ho2, bcs hP u1, bcs hP u2]; refine hR _ _ _ ?_; clear hR R)
    rw [seqX_nil]
    refine hK _ _ _ ?_; clear hK K
    refine hN6 _ _ _ ?_
    refine xc_two fun N7 hN7 => ?_
    refine xc_iftrue (by simp [go_sem, hsl, d32, d23, g2, g3, g41, g42, g43, hi, hii, hi2, hii2, hw1, hz1, ho1, hz2, ho2, bcs hP u1, bcs hP u2]) ?_
    refine hN7 _ _ _ ?_
    refine xc_two fun N8 hN8 => ?_
    rw [xc_block]
    refine xc_two fun N9 hN9 => ?_
    refine xc_reg2 fun K hK => ?_
    simp only [rall, rsl, gres]
    iterate 3 (refine seqX_hide2 fun R hR => ?_; simp [go_sem, hsl, d32, d23, g2, g3, g41, g42, g43, hi, hii, hi2, hii2, hw1, hz1, ho1, hz2, ho2, bcs hP u1, bcs hP u2]; refine hR _ _ _ ?_; clear hR R)
    refine seqX_hide2 fun R hR => ?_
    simp [go_sem, hsl, d32, d23, g2, g3, g41, g42, g43, hi, hii, hi2, hii2, hw1, hz1, ho1, hz2, ho2, bcs hP u1, bcs hP u2]
    intro q6 hq6
    replace hP := hP.cons hq6
    clear hq6
    have d63 : q6 ≠ q3 := (hP.ne q3 (by simp [addrs])).1
    have d36 : q3 ≠ q6 := (hP.ne q3 (by simp [addrs])).2
    have d62 : q6 ≠ q2 := (hP.ne q2 (by simp [addrs])).1
    have d26 : q2 ≠ q6 := (hP.ne q2 (by simp [addrs])).2
    refine hR _ _ _ ?_; clear hR R
    (refine seqX_hide2 fun R hR => ?_; simp [go_sem, hsl, d32, d23, g2, g3, g41, g42, g43, hi, hii, hi2, hii2, hw1, hz1, ho1, hz2, ho2, bcs hP u1, bcs hP u2, d63, d36, d62, d26]; refine hR _ _ _ ?_; clear hR R)
    refine seqX_hide2 fun R hR => ?_
    simp [go_sem, hsl, d32, d23, g2, g3, g41, g42, g43, hi, hii, hi2, hii2, hw1, hz1, ho1, hz2, ho2, bcs hP u1, bcs hP u2, d63, d36, d62, d26]
    refine hR _ _ _ ?_; clear hR R
    rw [seqX_nil]
    refine hK _ _ _ ?_; clear hK K
    refine hN9 _ _ _ ?_
    refine xc_two fun N10 hN10 => ?_
    rw [xc_draws]
    refine vdrawK [(0, true), (1, true), (2, true), (3, true), (4, true), (5, true), (6, false), (7, true)] (ov D [(q6, .cells ci 24 (0, 0)), (q3, .cells (trc kd st' tag' val' an' h' l' f' row' col' al' (.slice (some a2) kids.length bc2)) 24 (0, 0)), (q2, .cells (trc kd st tag val an h l f row col al (.slice (some a1) kids.length bc1)) 24 (0, 0))]) mixed (by kernel_rfl) (View.le_refl _) fun K hK => ?_
    simp only [rsl, gres]
    iterate 6 (refine seqR_hide fun R hR => ?_; simp [go_sem, hsl, d32, d23, g2, g3, g41, g42, g43, hi, hii, hi2, hii2, hw1, hz1, ho1, hz2, ho2, bcs hP u1, bcs hP u2, d63, d36, d62, d26]; refine hR _ _ _ ?_; clear hR R)
    refine seqR_hide fun R hR => ?_
    simp [go_sem, hsl, d32, d23, g2, g3, g41, g42, g43, hi, hii, hi2, hii2, hw1, hz1, ho1, hz2, ho2, bcs hP u1, bcs hP u2, d63, d36, d62, d26]
    refine call_ov hP (ihk _ (List.getElem_mem hi) D kids'[i] ci cj hci hcj (hsn i hi hi2) hnk) ?_
    clear hP
    rintro _ D2 ⟨rfl, hD2⟩ hP
    refine hR _ _ _ ?_; clear hR R
    (refine seqR_hide fun R hR => ?_; simp [go_sem, hsl, d32, d23, g2, g3, g41, g42, g43, hi, hii, hi2, hii2, hw1, hz1, ho1, hz2, ho2, d63, d36, d62, d26]; refine hR _ _ _ ?_; clear hR R)
    rw [seqR_nil]
    refine hK _ _ _ ?_; clear hK K
    refine hN10 _ _ _ ?_
    refine xc_iffalse (by simp [go_sem, hsl, d32, d23, g2, g3, g41, g42, g43, hi, hii, hi2, hii2, hw1, hz1, ho1, hz2, ho2, d63, d36, d62, d26]) ?_
    refine hN8 _ _ _ ?_
    refine xc_reg2 fun K hK => ?_
    simp only [rall, rsl, gres]
    iterate 2 (refine seqX_hide2 fun R hR => ?_; simp [go_sem, hsl, d32, d23, g2, g3, g41, g42, g43, hi, hii, hi2, hii2, hw1, hz1, ho1, hz2, ho2, d63, d36, d62, d26]; refine hR _ _ _ ?_; clear hR R)
    rw [seqX_nil]
    refine hK _ _ _ ?_; clear hK K
    refine sink_goal 0 hP rfl fun hPn lq6 nq6 => ?_
    clear hP; have hP := hPn; clear hPn
    simp only [List.eraseIdx_cons_zero, List.eraseIdx_cons_succ, addrs_cons, addrs_nil] at hP ⊢
    refine hJ1 (kids.length - (i + 1)) _ _ _ (by omega) ⟨i + 1, _, rfl, rfl, rfl, hP, by simp [go_sem, hsl, d32, d23, g2, g3, g41, g42, g43, hi, hii, hi2, hii2, hw1, hz1, ho1, hz2, ho2, d63, d36, d62, d26], by simp [go_sem, hsl, d32, d23, g2, g3, g41, g42, g43, hi, hii, hi2, hii2, hw1, hz1, ho1, hz2, ho2, d63, d36, d62, d26], by simp [go_sem, hsl, d32, d23, g2, g3, g41, g42, g43, hi, hii, hi2, hii2, hw1, hz1, ho1, hz2, ho2, d63, d36, d62, d26], by simp [go_sem, hsl, d32, d23, g2, g3, g41, g42, g43, hi, hii, hi2, hii2, hw1, hz1, ho1, hz2, ho2, d63, d36, d62, d26], by simp [go_sem, hsl, d32, d23, g2, g3, g41, g42, g43, hi, hii, hi2, hii2, hw1, hz1, ho1, hz2, ho2, d63, d36, d62, d26], by omega, View.le_trans hAD (View.le_trans hD2 lq6)⟩
  by_cases hk8 : kd = 8
  · obtain ⟨hv, htg⟩ := hsv hk8
    subst hv
    subst hk8
    rw [xc_draws]
    refine vdrawK [(0, true), (1, true), (2, true), (3, true), (4, true), (5, true), (6, true), (7, true), (8, true), (9, true), (10, true), (11, true), (12, true), (13, true), (14, true), (15, true), (16, true), (17, true), (18, true), (19, true), (20, true), (21, true), (22, true), (23, true), (24, true), (25, true), (26, true), (27, true), (28, false), (29, true), (30, true), (31, true), (32, true)] (ov A [(q3, .cells (trc 8 st' tag' val' an' h' l' f' row' col' al' (.slice b2 kids.length bc2)) 24 (0, 0)), (q2, .cells (trc 8 st tag val' an h l f row col al (.slice b1 kids.length bc1)) 24 (0, 0))]) mixed (by kernel_rfl) (View.le_refl _) fun K hK => ?_
    simp only [rsl, gres]
    iterate 26 (refine seqR_hide fun R hR => ?_; simp [go_sem, hsl, d32, d23, htg]; refine hR _ _ _ ?_; clear hR R)
    refine seqR_hide fun R hR => ?_
    simp [go_sem, hsl, d32, d23, htg]
    refine call_ov hP (tag31 A _ _ hc0) ?_
    clear hP
    rintro _ A2 ⟨rfl, hA2⟩ hP
    refine ⟨ov_mono hA2, hR _ _ _ ?_⟩; clear hR R
    (refine seqR_hide fun R hR => ?_; simp [go_sem, hsl, d32, d23, htg]; refine hR _ _ _ ?_; clear hR R)
    refine seqR_hide fun R hR => ?_
    simp [go_sem, hsl, d32, d23, htg]
    refine call_ov hP (tag31 A2 _ _ (hc0'.le hA2)) ?_
    clear hP
    rintro _ A3 ⟨rfl, hA3⟩ hP
    refine hR _ _ _ ?_; clear hR R
    iterate 4 (refine seqR_hide fun R hR => ?_; simp [go_sem, hsl, d32, d23, htg]; refine hR _ _ _ ?_; clear hR R)
    rw [seqR_nil]
    refine hK _ _ _ ?_; clear hK K
    refine hN3 _ _ _ ?_
    refine xc_iffalse (by simp [go_sem, hsl, d32, d23, htg]) ?_
    exact tl (A3) _ hP (by simp [go_sem, hsl, d32, d23, htg]) (by simp [go_sem, hsl, d32, d23, htg]) (View.le_trans hA2 hA3)
  have hkb : (kd == 8) = false := beq_eq_false_iff_ne.2 hk8
  rw [xc_draws]
  refine vdrawK [(0, true), (1, true), (2, true), (3, true), (4, true), (5, true), (6, true), (7, true), (8, true), (9, true), (10, true), (11, true), (12, true), (13, true), (14, true), (15, true), (16, true), (17, true), (18, true), (19, true), (20, true), (21, true), (22, true), (23, true), (24, true), (25, true), (26, true), (27, true), (28, false), (29, true), (30, true), (31, true), (32, true)] (ov A [(q3, .cells (trc kd st' tag' val' an' h' l' f' row' col' al' (.slice b2 kids.length bc2)) 24 (0, 0)), (q2, .cells (trc kd st tag val an h l f row col al (.slice b1 kids.length bc1)) 24 (0, 0))]) mixed (by kernel_rfl) (View.le_refl _) fun K hK => ?_
  simp only [rsl, gres]
  iterate 26 (refine seqR_hide fun R hR => ?_; simp [go_sem, hsl, d32, d23, hk8, hkb]; refine hR _ _ _ ?_; clear hR R)
  refine seqR_hide fun R hR => ?_
  simp [go_sem, hsl, d32, d23, hk8, hkb]
  refine hR _ _ _ ?_; clear hR R
  (refine seqR_hide fun R hR => ?_; simp [go_sem, hsl, d32, d23, hk8, hkb]; refine hR _ _ _ ?_; clear hR R)
  refine seqR_hide fun R hR => ?_
  simp [go_sem, hsl, d32, d23, hk8, hkb]
  refine hR _ _ _ ?_; clear hR R
  iterate 4 (refine seqR_hide fun R hR => ?_; simp [go_sem, hsl, d32, d23, hk8, hkb]; refine hR _ _ _ ?_; clear hR R)
  rw [seqR_nil]
  refine hK _ _ _ ?_; clear hK K
  refine hN3 _ _ _ ?_
  refine xc_iffalse (by simp [go_sem, hsl, d32, d23, hk8, hkb]) ?_
  exact tl (A) _ hP (by simp [go_sem, hsl, d32, d23, hk8, hkb]) (by simp [go_sem, hsl, d32, d23, hk8, hkb]) (View.le_refl _)
end Go.Proofs.YtpinamipjddobaaV

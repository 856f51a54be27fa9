/- Trees: ElementSetter.Filter (under way). -/
import Derived.Test.YtpinamipjddobaaSB
namespace Go.Proofs.YtpinamipjddobaaV
open Go.RowKit
set_option linter.unusedSimpArgs false
set_option linter.unusedVariables false
theorem meth_fm2 : meth Try.prog 88 "Filter" = some ⟨134, none⟩ := meth_fm
def fitK (ks vs : List ByteArray) (x : Tr) : Bool := decide (x.kind = 4) && fitM x ks vs
/-- The setter's element: none, or a node. -/
def evV (o : Option (Tr × Nat)) : Value :=
  match o with
  | none => .pointer none
  | some x => ptr0 x.2
def evL (o : Option (Tr × Nat)) : List Tr :=
  match o with
  | none => []
  | some x => [x.1]
theorem evV_ptr (o : Option (Tr × Nat)) : ∃ b, evV o = .pointer b := by
  cases o with
  | none => exact ⟨_, rfl⟩
  | some x => exact ⟨_, rfl⟩
/-- The list with such an element in the place of all that fit, or behind all. -/
def resT (f : Tr → Bool) (e kids : List Tr) : List Tr := if kids.any f then setT f e kids else setT f e kids ++ e
theorem resT_nil (f : Tr → Bool) (kids : List Tr) : resT f [] kids = setT f [] kids := by
  rw [resT]
  split
  · rfl
  · rw [List.append_nil]
set_option maxRecDepth 20000 in
set_option maxHeartbeats 400000 in
theorem setter139 (A0 B A : View) (q p : Nat) (oe : Option (Tr × Nat)) (kv vv : Value) (ks vs : List ByteArray) (k st : Int) (tag val an h l f : ByteArray) (row col al : Int) (kids : List Tr) (cb : Option Addr) (cc : Nat) (ps : List Nat)
    (y1 : A0 ≤ B) (y2 : B ≤ A) (y3 : B p = none) (y4 : A p = some (.cells (ync k st tag val an (.slice cb kids.length cc) h l f row col) 114 (0, 0))) (y5 : Row A 1 (.slice cb kids.length cc) kids.length (ps.map ptr0)) (y7 : ps.length = kids.length) (y8 : ∀ j (hj : j < kids.length), ∃ q, ps[j]? = some q ∧ IsYn B (kids[j]) q)
    (hq : A q = some (.cells (rnc p) 111 (0, 0))) (hqp : q ≠ p) (hk : k = 2) (ht : tag ≠ tNull) (hev : ∀ x, oe = some x → IsYn B x.1 x.2) (heN : ∀ x, oe = some x → x.1.kind ≠ 1 ∧ x.1.tag ≠ tNull) (hks : Texts A kv ks) (hvs : Texts A vv vs) (hl : ks.length = vs.length) (h0 : 0 < ks.length) (h5 : ks.length < 5) (hkn : ∀ s ∈ ks, s ≠ e0) (hvn : ∀ s ∈ vs, s ≠ e0)
    (hkl : kids.length ≤ 1000000) (hkk : ∀ x ∈ kids, EN x ∧ (x.kind = 4 → x.kids.length % 2 = 0) ∧ x.kids.length ≤ 1000000) :
    VCalls Try.prog 139 #[.agg #[.string ⟨#[]⟩, evV oe, kv, vv], ptr0 q] A fun r A' => ∃ x : Option Nat, r = .tuple #[(match x with | none => .pointer none | some b => ptr0 b), .nilIface] ∧ (RP (oe.map (·.1)) (match x with | none => .pointer none | some b => ptr0 b) A' ∧ TopR A0 A' (.mk k st tag val an h l f row col al (resT (fitK ks vs) (evL oe) kids)) q p) := by
  obtain ⟨ob, hob⟩ := evV_ptr oe
  rw [hob]
  obtain ⟨kb, kc, rfl⟩ := hks.slice
  obtain ⟨wb0, wc0, rfl⟩ := hvs.slice
  have hk1 : k ≠ 1 := by omega
  have hyn : IsYn A (.mk k st tag val an h l f row col al kids) p := by
    rw [IsYn]
    exact ⟨_, ps, y4, y5, y7, fun j hj => let ⟨q, e1, e2⟩ := y8 j hj; ⟨q, e1, e2.le y2⟩⟩
  have herr := errIf79 A _ q 2 ⟨p, hq, hyn⟩ hk1 ht hk (fun e => absurd e (by decide)) hkl
  have z0 : ¬ (ks.length : Int) = 0 := by omega
  have z1 : ¬ ks.length = 0 := by omega
  have z2 : ¬ ks = [] := fun e => by rw [e] at h0; exact absurd h0 (by decide)
  refine xcalls Try.func139 rfl (by simp [Try.ntmps139]) ?_
  simp only [Try.f139]
  have hP : Priv A (addrs []) := Priv.nil A
  show xc _ _ _ _ _ _ (ov A [])
  refine xc_two fun N1 hN1 => ?_
  refine xc_reg2 fun K hK => ?_
  simp only [rall, rsl, gres]
  refine seqX_hide2 fun R hR => ?_
  simp [go_sem, z0, z1, z2]
  intro q2 hq2
  replace hP := hP.cons hq2
  clear hq2
  refine hR _ _ _ ?_; clear hR R
  iterate 2 (refine seqX_hide2 fun R hR => ?_; simp [go_sem, z0, z1, z2]; refine hR _ _ _ ?_; clear hR R)
  rw [seqX_nil]
  refine hK _ _ _ ?_; clear hK K
  refine hN1 _ _ _ ?_
  refine xc_two fun N2 hN2 => ?_
  refine xc_two fun N3 hN3 => ?_
  refine xc_reg2 fun K hK => ?_
  simp only [rall, rsl, gres]
  iterate 4 (refine seqX_hide2 fun R hR => ?_; simp [go_sem, z0, z1, z2]; refine hR _ _ _ ?_; clear hR R)
  rw [seqX_nil]
  refine hK _ _ _ ?_; clear hK K
  refine hN3 _ _ _ ?_
  refine xc_iffalse (by simp [go_sem, z0, z1, z2]) ?_
  refine hN2 _ _ _ ?_
  refine xc_two fun N4 hN4 => ?_
  refine xc_two fun N5 hN5 => ?_
  refine xc_reg2 fun K hK => ?_
  simp only [rall, rsl, gres]
  (refine seqX_hide2 fun R hR => ?_; simp [go_sem, z0, z1, z2]; refine hR _ _ _ ?_; clear hR R)
  refine seqX_hide2 fun R hR => ?_
  simp [go_sem, z0, z1, z2]
  refine call_same hP herr ?_
  rintro _ rfl
  refine hR _ _ _ ?_; clear hR R
  (refine seqX_hide2 fun R hR => ?_; simp [go_sem, z0, z1, z2]; refine hR _ _ _ ?_; clear hR R)
  rw [seqX_nil]
  refine hK _ _ _ ?_; clear hK K
  refine hN5 _ _ _ ?_
  refine xc_two fun N6 hN6 => ?_
  refine xc_reg2 fun K hK => ?_
  simp only [rall, rsl, gres]
  iterate 2 (refine seqX_hide2 fun R hR => ?_; simp [go_sem, z0, z1, z2]; refine hR _ _ _ ?_; clear hR R)
  rw [seqX_nil]
  refine hK _ _ _ ?_; clear hK K
  refine hN6 _ _ _ ?_
  refine xc_iffalse (by simp [go_sem, z0, z1, z2]) ?_
  refine hN4 _ _ _ ?_
  refine xc_two fun N7 hN7 => ?_
  refine xc_reg2 fun K hK => ?_
  simp only [rall, rsl, gres]
  (refine seqX_hide2 fun R hR => ?_; simp [go_sem, z0, z1, z2]; refine hR _ _ _ ?_; clear hR R)
  rw [seqX_nil]
  refine hK _ _ _ ?_; clear hK K
  refine hN7 _ _ _ ?_
  refine xc_two fun N8 hN8 => ?_
  refine xc_reg2 fun K hK => ?_
  simp only [rall, rsl, gres]
  (refine seqX_hide2 fun R hR => ?_; simp [go_sem, z0, z1, z2]; refine hR _ _ _ ?_; clear hR R)
  rw [seqX_nil]
  refine hK _ _ _ ?_; clear hK K
  refine hN8 _ _ _ ?_
  refine xc_two fun N9 hN9 => ?_
  refine xc_two fun N10 hN10 => ?_
  refine xc_reg2 fun K hK => ?_
  simp only [rall, rsl, gres]
  (refine seqX_hide2 fun R hR => ?_; simp [go_sem, z0, z1, z2]; refine hR _ _ _ ?_; clear hR R)
  refine seqX_hide2 fun R hR => ?_
  simp [go_sem, z0, z1, z2]
  refine call_same hP (ynode48 A q p k st tag val an (.slice cb kids.length cc) h l f row col hq y4 hk1) ?_
  rintro _ rfl
  have c6 := cell_of (i := 6) y4 rfl
  refine hR _ _ _ ?_; clear hR R
  iterate 5 (refine seqX_hide2 fun R hR => ?_; simp [go_sem, z0, z1, z2, bc hP c6]; refine hR _ _ _ ?_; clear hR R)
  rw [seqX_nil]
  refine hK _ _ _ ?_; clear hK K
  refine hN10 _ _ _ ?_
  rw [xc_block]
  rw [xc_loop]
  refine vloopK (fun k' e ds A' => ∃ (i : Nat) (D : View) (w : Value) (rs : List Nat) (fd : Bool), k' = kids.length - i ∧ ds = [] ∧ A' = ov D [(q2, .cells #[.string ⟨#[]⟩, .pointer ob, .slice kb ks.length kc, .slice wb0 vs.length wc0] 92 (0, 0))] ∧ Priv D [q2] ∧ e 1 = ptr0 q ∧ e 2 = .pointer (some ⟨q2, 0, none⟩) ∧ e 7 = w ∧ e 8 = .bool fd ∧ e 34 = .slice cb kids.length cc ∧ e 35 = .int .i64 kids.length ∧ e 36 = .int .i64 i ∧ (i ≤ kids.length) ∧ (A ≤ eraseB D w) ∧ (Own (eraseB D w) D 90 1 w rs.length (rs.map ptr0)) ∧ (YL B (setT (fitK ks vs) (evL oe) (kids.take i)) rs) ∧ (fd = (kids.take i).any (fitK ks vs)) ∧ (rs.length ≤ i)) _ ⟨0, A, .slice none 0 0, [], false, rfl, rfl, rfl, hP, by simp [go_sem, z0, z1, z2], by simp [go_sem, z0, z1, z2], by simp [go_sem, z0, z1, z2], by simp [go_sem, z0, z1, z2], by simp [go_sem, z0, z1, z2], by simp [go_sem, z0, z1, z2], by simp [go_sem, z0, z1, z2], by omega, View.le_refl _, Own.nil _ _ _ _, YL.nil _, rfl, Nat.le_refl _⟩ ?_
  clear hP
  rintro k' e ds _ ⟨i, D, w, rs, fd, rfl, rfl, rfl, hP, g1, g2, g7, g8, g34, g35, g36, hil, hAD, hO, hyl, hfd, hrz⟩ J1 X1 hJ1 hX1
  refine xc_sound _ ?_
  have hw1 : IntKind.i64.wrap ((i : Int) + 1) = ((i + 1 : Nat) : Int) := by rw [wrap_in (by omega) (by omega)]; omega
  have hAD2 := View.le_trans hAD (eraseB_le D w)
  obtain ⟨xb, xcp, rfl⟩ := hO.shape
  by_cases hi : i < kids.length
  rotate_left
  · obtain rfl : i = kids.length := by omega
    rw [List.take_length] at hyl hfd
    have hii : ¬ (kids.length : Int) < kids.length := by omega
    have hDp := hAD2 _ _ y4
    have hDq := hAD2 _ _ hq
    have hBD := View.le_trans y2 hAD2
    have hpq2 : p ≠ q2 := fun hx => by have := hP.1; rw [← hx, hDp] at this; cases this
    refine xc_two fun N11 hN11 => ?_
    refine xc_reg2 fun K hK => ?_
    simp only [rall, rsl, gres]
    (refine seqX_hide2 fun R hR => ?_; simp [go_sem, z0, z1, z2, g1, g2, g7, g8, g34, g35, g36, hi, hii]; refine hR _ _ _ ?_; clear hR R)
    rw [seqX_nil]
    refine hK _ _ _ ?_; clear hK K
    refine hN11 _ _ _ ?_
    refine xc_two fun N12 hN12 => ?_
    refine xc_iffalse (by simp [go_sem, z0, z1, z2, g1, g2, g7, g8, g34, g35, g36, hi, hii]) ?_
    refine hX1 _ _ _ _ ?_
    refine hN9 _ _ _ ?_
    refine xc_two fun N13 hN13 => ?_
    refine xc_reg2 fun K hK => ?_
    simp only [rall, rsl, gres]
    (refine seqX_hide2 fun R hR => ?_; simp [go_sem, z0, z1, z2, g1, g2, g7, g8, g34, g35, g36, hi, hii]; refine hR _ _ _ ?_; clear hR R)
    refine seqX_hide2 fun R hR => ?_
    simp [go_sem, z0, z1, z2, g1, g2, g7, g8, g34, g35, g36, hi, hii]
    refine call_same hP (ynode48 D q p k st tag val an (.slice cb kids.length cc) h l f row col hDq hDp hk1) ?_
    rintro _ rfl
    have hs := cstoreF (L := [(q2, .cells #[.string ⟨#[]⟩, .pointer ob, .slice kb ks.length kc, .slice wb0 vs.length wc0] 92 (0, 0))]) hP ti100 hDp (i := 6) (u := .slice xb rs.length xcp) (c' := ync k st tag val an (.slice xb rs.length xcp) h l f row col) (by show 6 < 12; decide) rfl rfl
    have hsa := hs.1
    refine hR _ _ _ ?_; clear hR R
    iterate 3 (refine seqX_hide2 fun R hR => ?_; simp [go_sem, z0, z1, z2, g1, g2, g7, g8, g34, g35, g36, hi, hii, hpq2, hsa]; refine hR _ _ _ ?_; clear hR R)
    refine seqX_hide2 fun R hR => ?_
    simp [go_sem, z0, z1, z2, g1, g2, g7, g8, g34, g35, g36, hi, hii, hpq2, hsa]
    refine hR _ _ _ ?_; clear hR R
    have hwp := own_ty hO hDp setter_ne.1
    have o1 : Own B (D.set p (.cells (ync k st tag val an (.slice xb rs.length xcp) h l f row col) 114 (0, 0))) 90 1 (.slice xb rs.length xcp) rs.length (rs.map ptr0) := own_move hO fun b o k1 k2 k3 => ⟨none_le (View.le_trans y2 hAD) k1, by
      rw [set_other (fun hx => hwp (by rw [← hx]; exact k2))]
      exact k3⟩
    have p1 : (D.set p (.cells (ync k st tag val an (.slice xb rs.length xcp) h l f row col) 114 (0, 0))) p = _ := set_at _ _ _
    have q1 : (D.set p (.cells (ync k st tag val an (.slice xb rs.length xcp) h l f row col) 114 (0, 0))) q = _ := (set_other hqp).trans hDq
    have l1 : B ≤ D.set p (.cells (ync k st tag val an (.slice xb rs.length xcp) h l f row col) 114 (0, 0)) := le_set0 hBD y3
    clear hP
    have hP := hs.2
    clear hsa hs
    generalize D.set p (.cells (ync k st tag val an (.slice xb rs.length xcp) h l f row col) 114 (0, 0)) = D1 at hP o1 p1 q1 l1 ⊢
    have fin : ∀ V : View, D1 ≤ V → TopR A0 V (.mk k st tag val an h l f row col al (setT (fitK ks vs) (evL oe) kids)) q p := fun V hV => ⟨hV _ _ q1, hqp, B, .slice xb rs.length xcp, rs, y1, View.le_trans l1 hV, y3, hV _ _ p1, by rw [← hyl.1]; exact o1.le hV, hwp, hyl.1, hyl.2⟩
    cases oe with
    | none =>
      have hob2 : ob = none := by
        have hh : Value.pointer none = .pointer ob := hob
        injection hh with hh
        exact hh.symm
      subst hob2
      rw [seqX_nil]
      refine hK _ _ _ ?_; clear hK K
      refine hN13 _ _ _ ?_
      refine xc_two fun N14 hN14 => ?_
      refine xc_two fun N15 hN15 => ?_
      refine xc_reg2 fun K hK => ?_
      simp only [rall, rsl, gres]
      iterate 2 (refine seqX_hide2 fun R hR => ?_; simp [go_sem, z0, z1, z2, g1, g2, g7, g8, g34, g35, g36, hi, hii]; refine hR _ _ _ ?_; clear hR R)
      refine seqX_hide2 fun R hR => ?_
      simp [go_sem, z0, z1, z2, g1, g2, g7, g8, g34, g35, g36, hi, hii]
      refine call_ov hP (newRNil D1) ?_
      clear hP
      rintro _ D2 ⟨rr, rfl, hrr, hD2⟩ hP
      refine hR _ _ _ ?_; clear hR R
      refine seqX_hide2 fun R hR => ?_
      simp [go_sem, z0, z1, z2, g1, g2, g7, g8, g34, g35, g36, hi, hii]
      refine call_same hP (missNil D2 rr hrr) ?_
      rintro _ rfl
      refine hR _ _ _ ?_; clear hR R
      rw [seqX_nil]
      refine hK _ _ _ ?_; clear hK K
      refine hN15 _ _ _ ?_
      refine xc_iftrue (by simp [go_sem, z0, z1, z2, g1, g2, g7, g8, g34, g35, g36, hi, hii]) ?_
      refine xc_two fun N16 hN16 => ?_
      refine xc_reg2 fun K hK => ?_
      simp only [rall, rsl, gres]
      iterate 2 (refine seqX_hide2 fun R hR => ?_; simp [go_sem, z0, z1, z2, g1, g2, g7, g8, g34, g35, g36, hi, hii]; refine hR _ _ _ ?_; clear hR R)
      rw [seqX_nil]
      refine hK _ _ _ ?_; clear hK K
      refine hN16 _ _ _ ?_
      simp [go_sem, z0, z1, z2, g1, g2, g7, g8, g34, g35, g36, hi, hii]
      rw [show resT (fitK ks vs) (evL none) kids = setT (fitK ks vs) (evL none) kids from resT_nil _ _]
      refine ⟨none, rfl, rfl, fin _ (View.le_trans hD2 ?_)⟩
      exact le_ov hP
    | some e =>
    have hob2 : ob = some ⟨e.2, 0, none⟩ := by
      have hh : ptr0 e.2 = .pointer ob := hob
      injection hh with hh
      exact hh.symm
    subst hob2
    rw [seqX_nil]
    refine hK _ _ _ ?_; clear hK K
    refine hN13 _ _ _ ?_
    refine xc_two fun N14 hN14 => ?_
    refine xc_two fun N15 hN15 => ?_
    refine xc_reg2 fun K hK => ?_
    simp only [rall, rsl, gres]
    iterate 2 (refine seqX_hide2 fun R hR => ?_; simp [go_sem, z0, z1, z2, g1, g2, g7, g8, g34, g35, g36, hi, hii]; refine hR _ _ _ ?_; clear hR R)
    refine seqX_hide2 fun R hR => ?_
    simp [go_sem, z0, z1, z2, g1, g2, g7, g8, g34, g35, g36, hi, hii]
    refine call_ov hP (newRNodeS D1 e.2) ?_
    clear hP
    rintro _ D2 ⟨rr, rfl, hrr, -, hD2⟩ hP
    have hye := hev e rfl
    have hrn : IsRn D2 e.1 rr := ⟨e.2, hrr, hye.le (View.le_trans l1 hD2)⟩
    refine hR _ _ _ ?_; clear hR R
    refine seqX_hide2 fun R hR => ?_
    simp [go_sem, z0, z1, z2, g1, g2, g7, g8, g34, g35, g36, hi, hii]
    refine call_same hP (missing39 D2 e.1 rr hrn (heN e rfl).1) ?_
    rintro _ rfl
    have hmz : decide (e.1.tag = tNull) = false := decide_eq_false (heN e rfl).2
    have hmn := (heN e rfl).2
    refine hR _ _ _ ?_; clear hR R
    rw [seqX_nil]
    refine hK _ _ _ ?_; clear hK K
    refine hN15 _ _ _ ?_
    refine xc_iffalse (by simp [go_sem, z0, z1, z2, g1, g2, g7, g8, g34, g35, g36, hi, hii, hmz, hmn]) ?_
    refine hN14 _ _ _ ?_
    refine xc_two fun N16 hN16 => ?_
    refine xc_two fun N17 hN17 => ?_
    refine xc_reg2 fun K hK => ?_
    simp only [rall, rsl, gres]
    iterate 2 (refine seqX_hide2 fun R hR => ?_; simp [go_sem, z0, z1, z2, g1, g2, g7, g8, g34, g35, g36, hi, hii, hmz, hmn]; refine hR _ _ _ ?_; clear hR R)
    rw [seqX_nil]
    refine hK _ _ _ ?_; clear hK K
    refine hN17 _ _ _ ?_
    cases hfb : kids.any (fitK ks vs) with
    | true =>
      rw [hfb] at hfd
      subst hfd
      refine xc_iffalse (by simp [go_sem, z0, z1, z2, g1, g2, g7, g8, g34, g35, g36, hi, hii, hmz, hmn]) ?_
      refine hN16 _ _ _ ?_
      refine xc_two fun N18 hN18 => ?_
      refine xc_reg2 fun K hK => ?_
      simp only [rall, rsl, gres]
      iterate 2 (refine seqX_hide2 fun R hR => ?_; simp [go_sem, z0, z1, z2, g1, g2, g7, g8, g34, g35, g36, hi, hii, hmz, hmn]; refine hR _ _ _ ?_; clear hR R)
      refine seqX_hide2 fun R hR => ?_
      simp [go_sem, z0, z1, z2, g1, g2, g7, g8, g34, g35, g36, hi, hii, hmz, hmn]
      refine call_ov hP (newRNodeS D2 e.2) ?_
      clear hP
      rintro _ D3 ⟨r3, rfl, hr3, -, hD3⟩ hP
      refine hR _ _ _ ?_; clear hR R
      iterate 2 (refine seqX_hide2 fun R hR => ?_; simp [go_sem, z0, z1, z2, g1, g2, g7, g8, g34, g35, g36, hi, hii, hmz, hmn]; refine hR _ _ _ ?_; clear hR R)
      rw [seqX_nil]
      refine hK _ _ _ ?_; clear hK K
      refine hN18 _ _ _ ?_
      simp [go_sem, z0, z1, z2, g1, g2, g7, g8, g34, g35, g36, hi, hii, hmz, hmn]
      rw [resT, if_pos hfb]
      have lV := le_ov hP
      refine ⟨some r3, rfl, ⟨r3, rfl, e.2, ?_, hye.le (View.le_trans l1 (View.le_trans hD2 (View.le_trans hD3 ?_)))⟩, fin _ (View.le_trans hD2 (View.le_trans hD3 ?_))⟩
      · exact le_ov hP _ _ hr3
      · exact le_ov hP
      · exact le_ov hP
    | false =>
    rw [hfb] at hfd
    subst hfd
    have p2 := hD2 _ _ p1
    have q2c := hD2 _ _ q1
    have o2 := o1.le hD2
    have l2 := View.le_trans l1 hD2
    have c62 := cell_of (i := 6) p2 rfl
    refine xc_iftrue (by simp [go_sem, z0, z1, z2, g1, g2, g7, g8, g34, g35, g36, hi, hii, hmz, hmn, bc hP c62]) ?_
    rw [xc_draws]
    refine vdrawK [(0, true), (1, true), (2, true), (3, true), (4, true), (5, true), (6, true), (7, true), (8, true), (9, true), (10, false), (11, true), (12, true), (13, false)] (ov D2 [(q2, .cells #[.string ⟨#[]⟩, .pointer (some ⟨e.2, 0, none⟩), .slice kb ks.length kc, .slice wb0 vs.length wc0] 92 (0, 0))]) mixed (by kernel_rfl) (View.le_refl _) fun K hK => ?_
    simp only [rsl, gres]
    (refine seqR_hide fun R hR => ?_; simp [go_sem, z0, z1, z2, g1, g2, g7, g8, g34, g35, g36, hi, hii, hmz, hmn, bc hP c62]; refine hR _ _ _ ?_; clear hR R)
    refine seqR_hide fun R hR => ?_
    simp [go_sem, z0, z1, z2, g1, g2, g7, g8, g34, g35, g36, hi, hii, hmz, hmn, bc hP c62]
    refine call_same hP (ynode48 D2 q p k st tag val an (.slice xb rs.length xcp) h l f row col q2c p2 hk1) ?_
    rintro _ rfl
    refine ⟨View.le_refl _, hR _ _ _ ?_⟩; clear hR R
    (refine seqR_hide fun R hR => ?_; simp [go_sem, z0, z1, z2, g1, g2, g7, g8, g34, g35, g36, hi, hii, hmz, hmn, bc hP c62]; refine hR _ _ _ ?_; clear hR R)
    refine seqR_hide fun R hR => ?_
    simp [go_sem, z0, z1, z2, g1, g2, g7, g8, g34, g35, g36, hi, hii, hmz, hmn, bc hP c62]
    refine call_same hP (ynode48 D2 q p k st tag val an (.slice xb rs.length xcp) h l f row col q2c p2 hk1) ?_
    rintro _ rfl
    refine ⟨View.le_refl _, hR _ _ _ ?_⟩; clear hR R
    iterate 5 (refine seqR_hide fun R hR => ?_; simp [go_sem, z0, z1, z2, g1, g2, g7, g8, g34, g35, g36, hi, hii, hmz, hmn, bc hP c62]; refine hR _ _ _ ?_; clear hR R)
    refine seqR_hide fun R hR => ?_
    simp [go_sem, z0, z1, z2, g1, g2, g7, g8, g34, g35, g36, hi, hii, hmz, hmn, bc hP c62]
    intro q138 hq138
    replace hP := hP.cons hq138
    clear hq138
    have d1382 : q138 ≠ q2 := (hP.ne q2 (by simp [addrs])).1
    have d2138 : q2 ≠ q138 := (hP.ne q2 (by simp [addrs])).2
    refine hR _ _ _ ?_; clear hR R
    refine seqR_hide fun R hR => ?_
    simp [go_sem, z0, z1, z2, g1, g2, g7, g8, g34, g35, g36, hi, hii, hmz, hmn, bc hP c62, d1382, d2138]
    have e1 : p ≠ q138 := fun hx => by have := hP.1; rw [← hx, p2] at this; cases this
    have e2 : p ≠ q2 := fun hx => by have := hP.2.2.1; rw [← hx, p2] at this; cases this
    refine append_ov (cs := [ptr0 e.2]) (m := 1) hP ti100 ti100 (fun k => by simp) ti90 rfl (by decide) o2 l2 (by simp [appended, View.cells?, go_sem]) (by simp [isStr]) (fun v hv => by rw [List.mem_singleton] at hv; subst hv; rfl) (by omega) ?_
    clear hP
    rintro v4 D4 h4 hO4 h4e hP
    simp only [addrs_cons, addrs_nil] at hP
    have p4 := keep_block h4e o2 p2 setter_ne.1
    have q4 := keep_block h4e o2 q2c setter_ne.2
    have z4 := own_ty hO4 p4 setter_ne.1
    obtain ⟨yb, ycp, rfl⟩ := hO4.shape
    have hs := cstoreF (L := [(q138, .cells #[ptr0 e.2] 90 (0, 0)), (q2, .cells #[.string ⟨#[]⟩, .pointer (some ⟨e.2, 0, none⟩), .slice kb ks.length kc, .slice wb0 vs.length wc0] 92 (0, 0))]) hP ti100 p4 (i := 6) (u := .slice yb (rs.length + 1) ycp) (c' := ync k st tag val an (.slice yb (rs.length + 1) ycp) h l f row col) (by show 6 < 12; decide) rfl rfl
    have hsa := hs.1
    refine hR _ _ _ ?_; clear hR R
    iterate 2 (refine seqR_hide fun R hR => ?_; simp [go_sem, z0, z1, z2, g1, g2, g7, g8, g34, g35, g36, hi, hii, hmz, hmn, d1382, d2138, e1, e2, hsa]; refine hR _ _ _ ?_; clear hR R)
    refine seqR_hide fun R hR => ?_
    simp [go_sem, z0, z1, z2, g1, g2, g7, g8, g34, g35, g36, hi, hii, hmz, hmn, d1382, d2138, e1, e2, hsa]
    refine hR _ _ _ ?_; clear hR R
    have o5 : Own B (D4.set p (.cells (ync k st tag val an (.slice yb (rs.length + 1) ycp) h l f row col) 114 (0, 0))) 90 1 (.slice yb (rs.length + 1) ycp) (rs.length + 1) (rs.map ptr0 ++ [ptr0 e.2]) := own_move hO4 fun b o k1 k2 k3 => ⟨k1, by
      rw [set_other (fun hx => z4 (by rw [← hx]; exact k2))]
      exact k3⟩
    have p5 : (D4.set p (.cells (ync k st tag val an (.slice yb (rs.length + 1) ycp) h l f row col) 114 (0, 0))) p = _ := set_at _ _ _
    have q5 : (D4.set p (.cells (ync k st tag val an (.slice yb (rs.length + 1) ycp) h l f row col) 114 (0, 0))) q = _ := (set_other hqp).trans q4
    have l5 : B ≤ D4.set p (.cells (ync k st tag val an (.slice yb (rs.length + 1) ycp) h l f row col) 114 (0, 0)) := le_set0 h4 y3
    clear hP
    have hP := hs.2
    clear hsa hs
    generalize D4.set p (.cells (ync k st tag val an (.slice yb (rs.length + 1) ycp) h l f row col) 114 (0, 0)) = D5 at hP o5 p5 q5 l5 ⊢
    have hyl2 := hyl.app (YL.one hye)
    have hrl : (setT (fitK ks vs) (evL (some e)) kids ++ [e.1]).length = rs.length + 1 := by rw [← hyl2.1]; simp
    have fin2 : ∀ V : View, D5 ≤ V → TopR A0 V (.mk k st tag val an h l f row col al (setT (fitK ks vs) (evL (some e)) kids ++ [e.1])) q p := fun V hV => ⟨hV _ _ q5, hqp, B, .slice yb (rs.length + 1) ycp, rs ++ [e.2], y1, View.le_trans l5 hV, y3, hV _ _ p5, by rw [hrl, List.map_append]; exact o5.le hV, z4, hyl2.1, hyl2.2⟩
    rw [seqR_nil]
    refine hK _ _ _ ?_; clear hK K
    refine hN16 _ _ _ ?_
    refine xc_two fun N18 hN18 => ?_
    refine xc_reg2 fun K hK => ?_
    simp only [rall, rsl, gres]
    iterate 2 (refine seqX_hide2 fun R hR => ?_; simp [go_sem, z0, z1, z2, g1, g2, g7, g8, g34, g35, g36, hi, hii, hmz, hmn, d1382, d2138]; refine hR _ _ _ ?_; clear hR R)
    refine seqX_hide2 fun R hR => ?_
    simp [go_sem, z0, z1, z2, g1, g2, g7, g8, g34, g35, g36, hi, hii, hmz, hmn, d1382, d2138]
    refine call_ov hP (newRNodeS D5 e.2) ?_
    clear hP
    rintro _ D6 ⟨r3, rfl, hr3, -, hD6⟩ hP
    refine hR _ _ _ ?_; clear hR R
    iterate 2 (refine seqX_hide2 fun R hR => ?_; simp [go_sem, z0, z1, z2, g1, g2, g7, g8, g34, g35, g36, hi, hii, hmz, hmn, d1382, d2138]; refine hR _ _ _ ?_; clear hR R)
    rw [seqX_nil]
    refine hK _ _ _ ?_; clear hK K
    refine hN18 _ _ _ ?_
    simp [go_sem, z0, z1, z2, g1, g2, g7, g8, g34, g35, g36, hi, hii, hmz, hmn, d1382, d2138]
    rw [resT, if_neg (by rw [hfb]; decide)]
    refine ⟨some r3, rfl, ⟨r3, rfl, e.2, ?_, hye.le (View.le_trans l5 (View.le_trans hD6 ?_))⟩, fin2 _ (View.le_trans hD6 ?_)⟩
    · exact le_ov hP _ _ hr3
    · exact le_ov hP
    · exact le_ov hP
  have hii : (i : Int) < kids.length := by omega
  obtain ⟨pj, hq1, hq2⟩ := y8 i hi
  obtain ⟨a1, cap1, f1, -, u1⟩ := Row.at1 (i := i) (u := ptr0 pj) y5 (by rw [List.getElem?_map, hq1]; rfl)
  simp only [Value.slice.injEq] at f1
  obtain ⟨rfl, -, rfl⟩ := f1
  have u1d := le_cell hAD2 u1
  obtain ⟨hen, hev2, hkl2⟩ := hkk _ (List.getElem_mem hi)
  refine xc_two fun N11 hN11 => ?_
  refine xc_reg2 fun K hK => ?_
  simp only [rall, rsl, gres]
  (refine seqX_hide2 fun R hR => ?_; simp [go_sem, z0, z1, z2, g1, g2, g7, g8, g34, g35, g36, hi, hii, hw1, bc hP u1d, xindexAt, vload]; refine hR _ _ _ ?_; clear hR R)
  rw [seqX_nil]
  refine hK _ _ _ ?_; clear hK K
  refine hN11 _ _ _ ?_
  refine xc_two fun N12 hN12 => ?_
  refine xc_iftrue (by simp [go_sem, z0, z1, z2, g1, g2, g7, g8, g34, g35, g36, hi, hii, hw1, bc hP u1d, xindexAt, vload]) ?_
  refine hN12 _ _ _ ?_
  refine xc_two fun N13 hN13 => ?_
  rw [xc_block]
  refine xc_two fun N14 hN14 => ?_
  refine xc_reg2 fun K hK => ?_
  simp only [rall, rsl, gres]
  iterate 2 (refine seqX_hide2 fun R hR => ?_; simp [go_sem, z0, z1, z2, g1, g2, g7, g8, g34, g35, g36, hi, hii, hw1, bc hP u1d, xindexAt, vload]; refine hR _ _ _ ?_; clear hR R)
  rw [seqX_nil]
  refine hK _ _ _ ?_; clear hK K
  refine hN14 _ _ _ ?_
  refine xc_two fun N15 hN15 => ?_
  refine xc_reg2 fun K hK => ?_
  simp only [rall, rsl, gres]
  (refine seqX_hide2 fun R hR => ?_; simp [go_sem, z0, z1, z2, g1, g2, g7, g8, g34, g35, g36, hi, hii, hw1, bc hP u1d, xindexAt, vload]; refine hR _ _ _ ?_; clear hR R)
  refine seqX_hide2 fun R hR => ?_
  simp [go_sem, z0, z1, z2, g1, g2, g7, g8, g34, g35, g36, hi, hii, hw1, bc hP u1d, xindexAt, vload]
  refine call_same hP (content36 D q p k st tag val an (.slice (some a1) kids.length cc) h l f row col (hAD2 _ _ hq) (hAD2 _ _ y4) hk1) ?_
  rintro _ rfl
  refine hR _ _ _ ?_; clear hR R
  iterate 4 (refine seqX_hide2 fun R hR => ?_; simp [go_sem, z0, z1, z2, g1, g2, g7, g8, g34, g35, g36, hi, hii, hw1, bc hP u1d, xindexAt, vload]; refine hR _ _ _ ?_; clear hR R)
  rw [seqX_nil]
  refine hK _ _ _ ?_; clear hK K
  refine hN15 _ _ _ ?_
  refine xc_two fun N16 hN16 => ?_
  refine xc_reg2 fun K hK => ?_
  simp only [rall, rsl, gres]
  (refine seqX_hide2 fun R hR => ?_; simp [go_sem, z0, z1, z2, g1, g2, g7, g8, g34, g35, g36, hi, hii, hw1, bc hP u1d, xindexAt, vload]; refine hR _ _ _ ?_; clear hR R)
  refine seqX_hide2 fun R hR => ?_
  simp [go_sem, z0, z1, z2, g1, g2, g7, g8, g34, g35, g36, hi, hii, hw1, bc hP u1d, xindexAt, vload]
  refine call_sub hP (eraseB_le D (.slice xb rs.length xcp)) (newRNode33 _ kids[i] pj (hq2.le (View.le_trans y2 hAD))) ?_
  clear hP
  rintro _ E D3 ⟨rq, rfl, hrq, hAE⟩ hED hKp hmono hP
  have hDD := hmono hAE
  have hE3 := keep_erase hO hED hKp
  have hO3 := own_rebase (hO.le hDD)
  have hrq3 := hrq.le hED
  refine hR _ _ _ ?_; clear hR R
  (refine seqX_hide2 fun R hR => ?_; simp [go_sem, z0, z1, z2, g1, g2, g7, g8, g34, g35, g36, hi, hii, hw1, xindexAt, vload]; refine hR _ _ _ ?_; clear hR R)
  rw [seqX_nil]
  refine hK _ _ _ ?_; clear hK K
  refine hN16 _ _ _ ?_
  refine xc_two fun N17 hN17 => ?_
  refine xc_two fun N18 hN18 => ?_
  refine xc_reg2 fun K hK => ?_
  simp only [rall, rsl, gres]
  (refine seqX_hide2 fun R hR => ?_; simp [go_sem, z0, z1, z2, g1, g2, g7, g8, g34, g35, g36, hi, hii, hw1, xindexAt, vload]; refine hR _ _ _ ?_; clear hR R)
  refine seqX_hide2 fun R hR => ?_
  simp [go_sem, z0, z1, z2, g1, g2, g7, g8, g34, g35, g36, hi, hii, hw1, xindexAt, vload]
  refine call_same hP (missing39 D3 _ rq hrq3 hen.1) ?_
  rintro _ rfl
  have hmz : decide ((kids[i]).tag = tNull) = false := decide_eq_false hen.2.1
  refine hR _ _ _ ?_; clear hR R
  iterate 2 (refine seqX_hide2 fun R hR => ?_; simp [go_sem, z0, z1, z2, g1, g2, g7, g8, g34, g35, g36, hi, hii, hw1, xindexAt, vload, hmz, hen.2.1]; refine hR _ _ _ ?_; clear hR R)
  refine seqX_hide2 fun R hR => ?_
  simp [go_sem, z0, z1, z2, g1, g2, g7, g8, g34, g35, g36, hi, hii, hw1, xindexAt, vload, hmz, hen.2.1]
  refine call_same hP (emptyMap141 D3 _ rq hrq3 hen) ?_
  rintro _ rfl
  refine hR _ _ _ ?_; clear hR R
  (refine seqX_hide2 fun R hR => ?_; simp [go_sem, z0, z1, z2, g1, g2, g7, g8, g34, g35, g36, hi, hii, hw1, xindexAt, vload, hmz, hen.2.1]; refine hR _ _ _ ?_; clear hR R)
  rw [seqX_nil]
  refine hK _ _ _ ?_; clear hK K
  refine hN18 _ _ _ ?_
  -- HERE
  refine xc_iffalse (by simp [go_sem, z0, z1, z2, g1, g2, g7, g8, g34, g35, g36, hi, hii, hw1, xindexAt, vload, hmz, hen.2.1]) ?_
  refine hN17 _ _ _ ?_
  refine xc_two fun N19 hN19 => ?_
  refine xc_two fun N20 hN20 => ?_
  refine xc_reg2 fun K hK => ?_
  simp only [rall, rsl, gres]
  iterate 2 (refine seqX_hide2 fun R hR => ?_; simp [go_sem, z0, z1, z2, g1, g2, g7, g8, g34, g35, g36, hi, hii, hw1, xindexAt, vload, hmz, hen.2.1]; refine hR _ _ _ ?_; clear hR R)
  refine seqX_hide2 fun R hR => ?_
  simp [go_sem, z0, z1, z2, g1, g2, g7, g8, g34, g35, g36, hi, hii, hw1, xindexAt, vload, hmz, hen.2.1]
  have hany : (kids.take (i + 1)).any (fitK ks vs) = ((kids.take i).any (fitK ks vs) || fitK ks vs kids[i]) := by
    rw [List.take_succ_eq_append_getElem hi, List.any_append]
    simp
  have hstp := setT_step (fitK ks vs) (evL oe) kids hi
  refine call_sub hP (eraseB_le D3 (.slice xb rs.length xcp)) (mapNode142 _ kids[i] rq _ rfl rfl (hrq.le hE3) hen hev2 hkl2) ?_
  clear hP
  rintro _ E2 D4 ⟨rfl, hAE2⟩ hED2 hKp2 hmono2 hP
  have hDD2 := hmono2 hAE2
  have hE4 := keep_erase hO3 hED2 hKp2
  have hO4 := own_rebase (hO3.le hDD2)
  have hAw4 := View.le_trans hAD (View.le_trans hAE (View.le_trans hE3 (View.le_trans hAE2 hE4)))
  have hrq4 : IsRn D4 kids[i] rq := hrq3.le hDD2
  by_cases hx4 : (kids[i]).kind = 4
  rotate_left
  · have hfit : fitK ks vs kids[i] = false := by rw [fitK, decide_eq_false hx4, Bool.false_and]
    rw [hfit, Bool.or_false] at hany
    rw [hfit] at hstp
    have hdx : decide ((kids[i]).kind = 4) = false := decide_eq_false hx4
    refine hR _ _ _ ?_; clear hR R
    iterate 3 (refine seqX_hide2 fun R hR => ?_; simp [go_sem, z0, z1, z2, g1, g2, g7, g8, g34, g35, g36, hi, hii, hw1, xindexAt, vload, hmz, hen.2.1, hx4, hdx]; refine hR _ _ _ ?_; clear hR R)
    refine seqX_hide2 fun R hR => ?_
    simp [go_sem, z0, z1, z2, g1, g2, g7, g8, g34, g35, g36, hi, hii, hw1, xindexAt, vload, hmz, hen.2.1, hx4, hdx]
    refine call_sub hP (eraseB_le D4 (.slice xb rs.length xcp)) (setter140 _ (.pointer ob) _ _ ks vs ⟨_, rfl⟩ (hks.le hAw4) (hvs.le hAw4) hl h0 hkn hvn) ?_
    clear hP
    rintro _ E3 D5 ⟨rfl, hAE3⟩ hED3 hKp3 hmono3 hP
    have hDD3 := hmono3 hAE3
    have hE5 := keep_erase hO4 hED3 hKp3
    have hO5 := own_rebase (hO4.le hDD3)
    have hAw5 := View.le_trans hAw4 (View.le_trans hAE3 hE5)
    refine hR _ _ _ ?_; clear hR R
    (refine seqX_hide2 fun R hR => ?_; simp [go_sem, z0, z1, z2, g1, g2, g7, g8, g34, g35, g36, hi, hii, hw1, xindexAt, vload, hmz, hen.2.1, hx4, hdx]; refine hR _ _ _ ?_; clear hR R)
    rw [seqX_nil]
    refine hK _ _ _ ?_; clear hK K
    refine hN20 _ _ _ ?_
    refine xc_iftrue (by simp [go_sem, z0, z1, z2, g1, g2, g7, g8, g34, g35, g36, hi, hii, hw1, xindexAt, vload, hmz, hen.2.1, hx4, hdx]) ?_
    refine xc_two fun N21 hN21 => ?_
    refine xc_reg2 fun K hK => ?_
    simp only [rall, rsl, gres]
    iterate 2 (refine seqX_hide2 fun R hR => ?_; simp [go_sem, z0, z1, z2, g1, g2, g7, g8, g34, g35, g36, hi, hii, hw1, xindexAt, vload, hmz, hen.2.1, hx4, hdx]; refine hR _ _ _ ?_; clear hR R)
    refine seqX_hide2 fun R hR => ?_
    simp [go_sem, z0, z1, z2, g1, g2, g7, g8, g34, g35, g36, hi, hii, hw1, xindexAt, vload, hmz, hen.2.1, hx4, hdx]
    intro q62 hq62
    replace hP := hP.cons hq62
    clear hq62
    have d622 : q62 ≠ q2 := (hP.ne q2 (by simp [addrs])).1
    have d262 : q2 ≠ q62 := (hP.ne q2 (by simp [addrs])).2
    refine hR _ _ _ ?_; clear hR R
    refine seqX_hide2 fun R hR => ?_
    simp [go_sem, z0, z1, z2, g1, g2, g7, g8, g34, g35, g36, hi, hii, hw1, xindexAt, vload, hmz, hen.2.1, hx4, hdx, d622, d262]
    refine append_ov (cs := [ptr0 pj]) (m := 1) hP ti100 ti100 (fun k => by simp) ti90 rfl (by decide) hO5 (eraseB_le _ _) (by simp [appended, View.cells?, go_sem]) (by simp [isStr]) (fun v hv => by rw [List.mem_singleton] at hv; subst hv; rfl) (by omega) ?_
    clear hP
    rintro v6 D6 h6 hO6 h6e hP
    obtain ⟨yb, ycp, rfl⟩ := hO6.shape
    refine hR _ _ _ ?_; clear hR R
    (refine seqX_hide2 fun R hR => ?_; simp [go_sem, z0, z1, z2, g1, g2, g7, g8, g34, g35, g36, hi, hii, hw1, xindexAt, vload, hmz, hen.2.1, hx4, hdx, d622, d262]; refine hR _ _ _ ?_; clear hR R)
    rw [seqX_nil]
    refine hK _ _ _ ?_; clear hK K
    refine hN21 _ _ _ ?_
    refine hN13 _ _ _ ?_
    refine xc_reg2 fun K hK => ?_
    simp only [rall, rsl, gres]
    iterate 2 (refine seqX_hide2 fun R hR => ?_; simp [go_sem, z0, z1, z2, g1, g2, g7, g8, g34, g35, g36, hi, hii, hw1, xindexAt, vload, hmz, hen.2.1, hx4, hdx, d622, d262]; refine hR _ _ _ ?_; clear hR R)
    rw [seqX_nil]
    refine hK _ _ _ ?_; clear hK K
    refine sink_goal 0 hP rfl fun hPn lq62 nq62 => ?_
    clear hP; have hP := hPn; clear hPn
    simp only [List.eraseIdx_cons_zero, List.eraseIdx_cons_succ, addrs_cons, addrs_nil] at hP ⊢
    have hE6 := View.le_trans h6e (eraseB_mono lq62 (.slice yb (rs.length + 1) ycp))
    have hrl2 : (rs ++ [pj]).length = rs.length + 1 := by simp
    refine hJ1 (kids.length - (i + 1)) _ _ _ (by omega) ⟨i + 1, _, .slice yb (rs.length + 1) ycp, rs ++ [pj], fd, rfl, rfl, rfl, hP, by simp [go_sem, z0, z1, z2, g1, g2, g7, g8, g34, g35, g36, hi, hii, hw1, xindexAt, vload, hmz, hen.2.1, hx4, hdx, d622, d262], by simp [go_sem, z0, z1, z2, g1, g2, g7, g8, g34, g35, g36, hi, hii, hw1, xindexAt, vload, hmz, hen.2.1, hx4, hdx, d622, d262], by simp [go_sem, z0, z1, z2, g1, g2, g7, g8, g34, g35, g36, hi, hii, hw1, xindexAt, vload, hmz, hen.2.1, hx4, hdx, d622, d262], by simp [go_sem, z0, z1, z2, g1, g2, g7, g8, g34, g35, g36, hi, hii, hw1, xindexAt, vload, hmz, hen.2.1, hx4, hdx, d622, d262], by simp [go_sem, z0, z1, z2, g1, g2, g7, g8, g34, g35, g36, hi, hii, hw1, xindexAt, vload, hmz, hen.2.1, hx4, hdx, d622, d262], by simp [go_sem, z0, z1, z2, g1, g2, g7, g8, g34, g35, g36, hi, hii, hw1, xindexAt, vload, hmz, hen.2.1, hx4, hdx, d622, d262], by simp [go_sem, z0, z1, z2, g1, g2, g7, g8, g34, g35, g36, hi, hii, hw1, xindexAt, vload, hmz, hen.2.1, hx4, hdx, d622, d262], by omega, View.le_trans hAw5 hE6, by rw [hrl2, List.map_append]; exact own_rebase (hO6.le lq62), by rw [hstp]; exact hyl.app (YL.one hq2), by rw [hany]; exact hfd, by rw [hrl2]; omega⟩
  have hdx : decide ((kids[i]).kind = 4) = true := decide_eq_true hx4
  refine hR _ _ _ ?_; clear hR R
  iterate 3 (refine seqX_hide2 fun R hR => ?_; simp [go_sem, z0, z1, z2, g1, g2, g7, g8, g34, g35, g36, hi, hii, hw1, xindexAt, vload, hmz, hen.2.1, hx4]; refine hR _ _ _ ?_; clear hR R)
  refine seqX_hide2 fun R hR => ?_
  simp [go_sem, z0, z1, z2, g1, g2, g7, g8, g34, g35, g36, hi, hii, hw1, xindexAt, vload, hmz, hen.2.1, hx4]
  refine hR _ _ _ ?_; clear hR R
  (refine seqX_hide2 fun R hR => ?_; simp [go_sem, z0, z1, z2, g1, g2, g7, g8, g34, g35, g36, hi, hii, hw1, xindexAt, vload, hmz, hen.2.1, hx4]; refine hR _ _ _ ?_; clear hR R)
  rw [seqX_nil]
  refine hK _ _ _ ?_; clear hK K
  refine hN20 _ _ _ ?_
  refine xc_iffalse (by simp [go_sem, z0, z1, z2, g1, g2, g7, g8, g34, g35, g36, hi, hii, hw1, xindexAt, vload, hmz, hen.2.1, hx4]) ?_
  refine hN19 _ _ _ ?_
  refine xc_two fun N21 hN21 => ?_
  refine xc_reg2 fun K hK => ?_
  simp only [rall, rsl, gres]
  (refine seqX_hide2 fun R hR => ?_; simp [go_sem, z0, z1, z2, g1, g2, g7, g8, g34, g35, g36, hi, hii, hw1, xindexAt, vload, hmz, hen.2.1, hx4]; refine hR _ _ _ ?_; clear hR R)
  rw [seqX_nil]
  refine hK _ _ _ ?_; clear hK K
  refine hN21 _ _ _ ?_
  refine xc_two fun N22 hN22 => ?_
  refine xc_reg2 fun K hK => ?_
  simp only [rall, rsl, gres]
  (refine seqX_hide2 fun R hR => ?_; simp [go_sem, z0, z1, z2, g1, g2, g7, g8, g34, g35, g36, hi, hii, hw1, xindexAt, vload, hmz, hen.2.1, hx4]; refine hR _ _ _ ?_; clear hR R)
  rw [seqX_nil]
  refine hK _ _ _ ?_; clear hK K
  refine hN22 _ _ _ ?_
  refine xc_two fun N23 hN23 => ?_
  refine xc_reg2 fun K hK => ?_
  simp only [rall, rsl, gres]
  (refine seqX_hide2 fun R hR => ?_; simp [go_sem, z0, z1, z2, g1, g2, g7, g8, g34, g35, g36, hi, hii, hw1, xindexAt, vload, hmz, hen.2.1, hx4]; refine hR _ _ _ ?_; clear hR R)
  rw [seqX_nil]
  refine hK _ _ _ ?_; clear hK K
  refine hN23 _ _ _ ?_
  refine xc_two fun N24 hN24 => ?_
  refine xc_two fun N25 hN25 => ?_
  refine xc_reg2 fun K hK => ?_
  simp only [rall, rsl, gres]
  iterate 4 (refine seqX_hide2 fun R hR => ?_; simp [go_sem, z0, z1, z2, g1, g2, g7, g8, g34, g35, g36, hi, hii, hw1, xindexAt, vload, hmz, hen.2.1, hx4]; refine hR _ _ _ ?_; clear hR R)
  rw [seqX_nil]
  refine hK _ _ _ ?_; clear hK K
  refine hN25 _ _ _ ?_
  rw [xc_block]
  rw [xc_loop]
  refine vloopK (fun k' e ds A' => ∃ (j : Nat) (D5 : View), k' = ks.length - j ∧ ds = [] ∧ A' = ov D5 [(q2, .cells #[.string ⟨#[]⟩, .pointer ob, .slice kb ks.length kc, .slice wb0 vs.length wc0] 92 (0, 0))] ∧ Priv D5 [q2] ∧ e 1 = ptr0 q ∧ e 2 = .pointer (some ⟨q2, 0, none⟩) ∧ e 7 = .slice xb rs.length xcp ∧ e 8 = .bool fd ∧ e 10 = ptr0 pj ∧ e 11 = ptr0 rq ∧ e 14 = .bool true ∧ e 34 = .slice (some a1) kids.length cc ∧ e 35 = .int .i64 kids.length ∧ e 36 = .int .i64 i ∧ e 66 = .int .i64 ks.length ∧ e 67 = .int .i64 j ∧ (j ≤ ks.length) ∧ (A ≤ eraseB D5 (.slice xb rs.length xcp)) ∧ (Own (eraseB D5 (.slice xb rs.length xcp)) D5 90 1 (.slice xb rs.length xcp) rs.length (rs.map ptr0)) ∧ (IsRn (eraseB D5 (.slice xb rs.length xcp)) kids[i] rq) ∧ (fitM kids[i] ks vs = fitM kids[i] (ks.drop j) (vs.drop j))) _ ⟨0, D4, rfl, rfl, rfl, hP, by simp [go_sem, z0, z1, z2, g1, g2, g7, g8, g34, g35, g36, hi, hii, hw1, xindexAt, vload, hmz, hen.2.1, hx4], by simp [go_sem, z0, z1, z2, g1, g2, g7, g8, g34, g35, g36, hi, hii, hw1, xindexAt, vload, hmz, hen.2.1, hx4], by simp [go_sem, z0, z1, z2, g1, g2, g7, g8, g34, g35, g36, hi, hii, hw1, xindexAt, vload, hmz, hen.2.1, hx4], by simp [go_sem, z0, z1, z2, g1, g2, g7, g8, g34, g35, g36, hi, hii, hw1, xindexAt, vload, hmz, hen.2.1, hx4], by simp [go_sem, z0, z1, z2, g1, g2, g7, g8, g34, g35, g36, hi, hii, hw1, xindexAt, vload, hmz, hen.2.1, hx4], by simp [go_sem, z0, z1, z2, g1, g2, g7, g8, g34, g35, g36, hi, hii, hw1, xindexAt, vload, hmz, hen.2.1, hx4], by simp [go_sem, z0, z1, z2, g1, g2, g7, g8, g34, g35, g36, hi, hii, hw1, xindexAt, vload, hmz, hen.2.1, hx4], by simp [go_sem, z0, z1, z2, g1, g2, g7, g8, g34, g35, g36, hi, hii, hw1, xindexAt, vload, hmz, hen.2.1, hx4], by simp [go_sem, z0, z1, z2, g1, g2, g7, g8, g34, g35, g36, hi, hii, hw1, xindexAt, vload, hmz, hen.2.1, hx4], by simp [go_sem, z0, z1, z2, g1, g2, g7, g8, g34, g35, g36, hi, hii, hw1, xindexAt, vload, hmz, hen.2.1, hx4], by simp [go_sem, z0, z1, z2, g1, g2, g7, g8, g34, g35, g36, hi, hii, hw1, xindexAt, vload, hmz, hen.2.1, hx4], by simp [go_sem, z0, z1, z2, g1, g2, g7, g8, g34, g35, g36, hi, hii, hw1, xindexAt, vload, hmz, hen.2.1, hx4], by omega, hAw4, hO4, hrq.le (View.le_trans hE3 (View.le_trans hAE2 hE4)), rfl⟩ ?_
  clear g1 g2 g7 g8 g34 g35 g36
  clear hP
  rintro k' e ds _ ⟨j, D5, rfl, rfl, rfl, hP, g1, g2, g7, g8, g10, g11, g14, g34, g35, g36, g66, g67, hjl, hAw5, hO5, hrq5, hfm⟩ J2 X2 hJ2 hX2
  refine xc_sound _ ?_
  have hwj : IntKind.i64.wrap ((j : Int) + 1) = ((j + 1 : Nat) : Int) := by rw [wrap_in (by omega) (by omega)]; omega
  by_cases hj : j < ks.length
  rotate_left
  · have hji : ¬ (j : Int) < ks.length := by omega
    rw [fitM_end (by omega)] at hfm
    have hfit : fitK ks vs kids[i] = true := by rw [fitK, hfm, hdx]; rfl
    rw [hfit, Bool.or_true] at hany
    rw [hfit] at hstp
    refine xc_two fun N26 hN26 => ?_
    refine xc_reg2 fun K hK => ?_
    simp only [rall, rsl, gres]
    (refine seqX_hide2 fun R hR => ?_; simp [go_sem, z0, z1, z2, hi, hii, hw1, xindexAt, vload, hmz, hen.2.1, hx4, g1, g2, g7, g8, g10, g11, g14, g34, g35, g36, g66, g67, hj, hji]; refine hR _ _ _ ?_; clear hR R)
    rw [seqX_nil]
    refine hK _ _ _ ?_; clear hK K
    refine hN26 _ _ _ ?_
    refine xc_two fun N27 hN27 => ?_
    refine xc_iffalse (by simp [go_sem, z0, z1, z2, hi, hii, hw1, xindexAt, vload, hmz, hen.2.1, hx4, g1, g2, g7, g8, g10, g11, g14, g34, g35, g36, g66, g67, hj, hji]) ?_
    refine hX2 _ _ _ _ ?_
    refine hN24 _ _ _ ?_
    refine xc_two fun N28 hN28 => ?_
    refine xc_two fun N29 hN29 => ?_
    refine xc_reg2 fun K hK => ?_
    simp only [rall, rsl, gres]
    iterate 2 (refine seqX_hide2 fun R hR => ?_; simp [go_sem, z0, z1, z2, hi, hii, hw1, xindexAt, vload, hmz, hen.2.1, hx4, g1, g2, g7, g8, g10, g11, g14, g34, g35, g36, g66, g67, hj, hji]; refine hR _ _ _ ?_; clear hR R)
    rw [seqX_nil]
    refine hK _ _ _ ?_; clear hK K
    refine hN29 _ _ _ ?_
    refine xc_iffalse (by simp [go_sem, z0, z1, z2, hi, hii, hw1, xindexAt, vload, hmz, hen.2.1, hx4, g1, g2, g7, g8, g10, g11, g14, g34, g35, g36, g66, g67, hj, hji]) ?_
    refine hN28 _ _ _ ?_
    refine xc_two fun N30 hN30 => ?_
    refine xc_reg2 fun K hK => ?_
    simp only [rall, rsl, gres]
    (refine seqX_hide2 fun R hR => ?_; simp [go_sem, z0, z1, z2, hi, hii, hw1, xindexAt, vload, hmz, hen.2.1, hx4, g1, g2, g7, g8, g10, g11, g14, g34, g35, g36, g66, g67, hj, hji]; refine hR _ _ _ ?_; clear hR R)
    rw [seqX_nil]
    refine hK _ _ _ ?_; clear hK K
    refine hN30 _ _ _ ?_
    refine xc_two fun N31 hN31 => ?_
    refine xc_two fun N32 hN32 => ?_
    cases oe with
    | none =>
      have hob2 : ob = none := by
        have hh : Value.pointer none = .pointer ob := hob
        injection hh with hh
        exact hh.symm
      subst hob2
      refine xc_reg2 fun K hK => ?_
      simp only [rall, rsl, gres]
      iterate 3 (refine seqX_hide2 fun R hR => ?_; simp [go_sem, z0, z1, z2, hi, hii, hw1, xindexAt, vload, hmz, hen.2.1, hx4, g1, g2, g7, g8, g10, g11, g14, g34, g35, g36, g66, g67, hj, hji]; refine hR _ _ _ ?_; clear hR R)
      rw [seqX_nil]
      refine hK _ _ _ ?_; clear hK K
      refine hN32 _ _ _ ?_
      refine xc_iftrue (by simp [go_sem, z0, z1, z2, hi, hii, hw1, xindexAt, vload, hmz, hen.2.1, hx4, g1, g2, g7, g8, g10, g11, g14, g34, g35, g36, g66, g67, hj, hji]) ?_
      refine hN13 _ _ _ ?_
      refine xc_reg2 fun K hK => ?_
      simp only [rall, rsl, gres]
      iterate 2 (refine seqX_hide2 fun R hR => ?_; simp [go_sem, z0, z1, z2, hi, hii, hw1, xindexAt, vload, hmz, hen.2.1, hx4, g1, g2, g7, g8, g10, g11, g14, g34, g35, g36, g66, g67, hj, hji]; refine hR _ _ _ ?_; clear hR R)
      rw [seqX_nil]
      refine hK _ _ _ ?_; clear hK K
      refine hJ1 (kids.length - (i + 1)) _ _ _ (by omega) ⟨i + 1, D5, .slice xb rs.length xcp, rs, true, rfl, rfl, rfl, hP, by simp [go_sem, z0, z1, z2, hi, hii, hw1, xindexAt, vload, hmz, hen.2.1, hx4, g1, g2, g7, g8, g10, g11, g14, g34, g35, g36, g66, g67, hj, hji], by simp [go_sem, z0, z1, z2, hi, hii, hw1, xindexAt, vload, hmz, hen.2.1, hx4, g1, g2, g7, g8, g10, g11, g14, g34, g35, g36, g66, g67, hj, hji], by simp [go_sem, z0, z1, z2, hi, hii, hw1, xindexAt, vload, hmz, hen.2.1, hx4, g1, g2, g7, g8, g10, g11, g14, g34, g35, g36, g66, g67, hj, hji], by simp [go_sem, z0, z1, z2, hi, hii, hw1, xindexAt, vload, hmz, hen.2.1, hx4, g1, g2, g7, g8, g10, g11, g14, g34, g35, g36, g66, g67, hj, hji], by simp [go_sem, z0, z1, z2, hi, hii, hw1, xindexAt, vload, hmz, hen.2.1, hx4, g1, g2, g7, g8, g10, g11, g14, g34, g35, g36, g66, g67, hj, hji], by simp [go_sem, z0, z1, z2, hi, hii, hw1, xindexAt, vload, hmz, hen.2.1, hx4, g1, g2, g7, g8, g10, g11, g14, g34, g35, g36, g66, g67, hj, hji], by simp [go_sem, z0, z1, z2, hi, hii, hw1, xindexAt, vload, hmz, hen.2.1, hx4, g1, g2, g7, g8, g10, g11, g14, g34, g35, g36, g66, g67, hj, hji], by omega, hAw5, hO5, by rw [hstp, if_pos rfl]; show YL B (_ ++ []) rs; rw [List.append_nil]; exact hyl, by rw [hany], by omega⟩
    | some e =>
      have hob2 : ob = some ⟨e.2, 0, none⟩ := by
        have hh : ptr0 e.2 = .pointer ob := hob
        injection hh with hh
        exact hh.symm
      subst hob2
      refine xc_reg2 fun K hK => ?_
      simp only [rall, rsl, gres]
      iterate 3 (refine seqX_hide2 fun R hR => ?_; simp [go_sem, z0, z1, z2, hi, hii, hw1, xindexAt, vload, hmz, hen.2.1, hx4, g1, g2, g7, g8, g10, g11, g14, g34, g35, g36, g66, g67, hj, hji]; refine hR _ _ _ ?_; clear hR R)
      rw [seqX_nil]
      refine hK _ _ _ ?_; clear hK K
      refine hN32 _ _ _ ?_
      refine xc_iffalse (by simp [go_sem, z0, z1, z2, hi, hii, hw1, xindexAt, vload, hmz, hen.2.1, hx4, g1, g2, g7, g8, g10, g11, g14, g34, g35, g36, g66, g67, hj, hji]) ?_
      refine hN31 _ _ _ ?_
      refine xc_reg2 fun K hK => ?_
      simp only [rall, rsl, gres]
      iterate 3 (refine seqX_hide2 fun R hR => ?_; simp [go_sem, z0, z1, z2, hi, hii, hw1, xindexAt, vload, hmz, hen.2.1, hx4, g1, g2, g7, g8, g10, g11, g14, g34, g35, g36, g66, g67, hj, hji]; refine hR _ _ _ ?_; clear hR R)
      refine seqX_hide2 fun R hR => ?_
      simp [go_sem, z0, z1, z2, hi, hii, hw1, xindexAt, vload, hmz, hen.2.1, hx4, g1, g2, g7, g8, g10, g11, g14, g34, g35, g36, g66, g67, hj, hji]
      intro q115 hq115
      replace hP := hP.cons hq115
      clear hq115
      have d1152 : q115 ≠ q2 := (hP.ne q2 (by simp [addrs])).1
      have d2115 : q2 ≠ q115 := (hP.ne q2 (by simp [addrs])).2
      refine hR _ _ _ ?_; clear hR R
      refine seqX_hide2 fun R hR => ?_
      simp [go_sem, z0, z1, z2, hi, hii, hw1, xindexAt, vload, hmz, hen.2.1, hx4, g1, g2, g7, g8, g10, g11, g14, g34, g35, g36, g66, g67, hj, hji, d1152, d2115]
      refine append_ov (cs := [ptr0 e.2]) (m := 1) hP ti100 ti100 (fun k => by simp) ti90 rfl (by decide) hO5 (eraseB_le _ _) (by simp [appended, View.cells?, go_sem]) (by simp [isStr]) (fun v hv => by rw [List.mem_singleton] at hv; subst hv; rfl) (by omega) ?_
      clear hP
      rintro v6 D6 h6 hO6 h6e hP
      obtain ⟨yb, ycp, rfl⟩ := hO6.shape
      refine hR _ _ _ ?_; clear hR R
      (refine seqX_hide2 fun R hR => ?_; simp [go_sem, z0, z1, z2, hi, hii, hw1, xindexAt, vload, hmz, hen.2.1, hx4, g1, g2, g7, g8, g10, g11, g14, g34, g35, g36, g66, g67, hj, hji, d1152, d2115]; refine hR _ _ _ ?_; clear hR R)
      rw [seqX_nil]
      refine hK _ _ _ ?_; clear hK K
      refine hN13 _ _ _ ?_
      refine xc_reg2 fun K hK => ?_
      simp only [rall, rsl, gres]
      iterate 2 (refine seqX_hide2 fun R hR => ?_; simp [go_sem, z0, z1, z2, hi, hii, hw1, xindexAt, vload, hmz, hen.2.1, hx4, g1, g2, g7, g8, g10, g11, g14, g34, g35, g36, g66, g67, hj, hji, d1152, d2115]; refine hR _ _ _ ?_; clear hR R)
      rw [seqX_nil]
      refine hK _ _ _ ?_; clear hK K
      refine sink_goal 0 hP rfl fun hPn lq115 nq115 => ?_
      clear hP; have hP := hPn; clear hPn
      simp only [List.eraseIdx_cons_zero, List.eraseIdx_cons_succ, addrs_cons, addrs_nil] at hP ⊢
      have hE6 := View.le_trans h6e (eraseB_mono lq115 (.slice yb (rs.length + 1) ycp))
      have hrl2 : (rs ++ [e.2]).length = rs.length + 1 := by simp
      refine hJ1 (kids.length - (i + 1)) _ _ _ (by omega) ⟨i + 1, _, .slice yb (rs.length + 1) ycp, rs ++ [e.2], true, rfl, rfl, rfl, hP, by simp [go_sem, z0, z1, z2, hi, hii, hw1, xindexAt, vload, hmz, hen.2.1, hx4, g1, g2, g7, g8, g10, g11, g14, g34, g35, g36, g66, g67, hj, hji, d1152, d2115], by simp [go_sem, z0, z1, z2, hi, hii, hw1, xindexAt, vload, hmz, hen.2.1, hx4, g1, g2, g7, g8, g10, g11, g14, g34, g35, g36, g66, g67, hj, hji, d1152, d2115], by simp [go_sem, z0, z1, z2, hi, hii, hw1, xindexAt, vload, hmz, hen.2.1, hx4, g1, g2, g7, g8, g10, g11, g14, g34, g35, g36, g66, g67, hj, hji, d1152, d2115], by simp [go_sem, z0, z1, z2, hi, hii, hw1, xindexAt, vload, hmz, hen.2.1, hx4, g1, g2, g7, g8, g10, g11, g14, g34, g35, g36, g66, g67, hj, hji, d1152, d2115], by simp [go_sem, z0, z1, z2, hi, hii, hw1, xindexAt, vload, hmz, hen.2.1, hx4, g1, g2, g7, g8, g10, g11, g14, g34, g35, g36, g66, g67, hj, hji, d1152, d2115], by simp [go_sem, z0, z1, z2, hi, hii, hw1, xindexAt, vload, hmz, hen.2.1, hx4, g1, g2, g7, g8, g10, g11, g14, g34, g35, g36, g66, g67, hj, hji, d1152, d2115], by simp [go_sem, z0, z1, z2, hi, hii, hw1, xindexAt, vload, hmz, hen.2.1, hx4, g1, g2, g7, g8, g10, g11, g14, g34, g35, g36, g66, g67, hj, hji, d1152, d2115], by omega, View.le_trans hAw5 hE6, by rw [hrl2, List.map_append]; exact own_rebase (hO6.le lq115), by rw [hstp, if_pos rfl]; exact hyl.app (YL.one (hev e rfl)), by rw [hany], by rw [hrl2]; omega⟩
  have hji : (j : Int) < ks.length := by omega
  have hj2 : j < vs.length := by omega
  have hji2 : (j : Int) < vs.length := by omega
  rw [fitM_step hj hj2] at hfm
  obtain ⟨ak, k1, f1, u2⟩ := hks.at' hj
  simp only [Value.slice.injEq] at f1
  obtain ⟨rfl, -, rfl⟩ := f1
  obtain ⟨av, k2, f2, u3⟩ := hvs.at' hj2
  simp only [Value.slice.injEq] at f2
  obtain ⟨rfl, -, rfl⟩ := f2
  have hA5 := View.le_trans hAw5 (eraseB_le _ _)
  have u2 := le_cell hA5 u2
  have u3 := le_cell hA5 u3
  refine xc_two fun N26 hN26 => ?_
  refine xc_reg2 fun K hK => ?_
  simp only [rall, rsl, gres]
  (refine seqX_hide2 fun R hR => ?_; simp [go_sem, z0, z1, z2, hi, hii, hw1, xindexAt, vload, hmz, hen.2.1, hx4, g1, g2, g7, g8, g10, g11, g14, g34, g35, g36, g66, g67, hj, hji, hj2, hji2, hwj, bc hP u2, bc hP u3]; refine hR _ _ _ ?_; clear hR R)
  rw [seqX_nil]
  refine hK _ _ _ ?_; clear hK K
  refine hN26 _ _ _ ?_
  refine xc_two fun N27 hN27 => ?_
  refine xc_iftrue (by simp [go_sem, z0, z1, z2, hi, hii, hw1, xindexAt, vload, hmz, hen.2.1, hx4, g1, g2, g7, g8, g10, g11, g14, g34, g35, g36, g66, g67, hj, hji, hj2, hji2, hwj, bc hP u2, bc hP u3]) ?_
  refine hN27 _ _ _ ?_
  refine xc_two fun N28 hN28 => ?_
  rw [xc_block]
  refine xc_two fun N29 hN29 => ?_
  refine xc_reg2 fun K hK => ?_
  simp only [rall, rsl, gres]
  iterate 2 (refine seqX_hide2 fun R hR => ?_; simp [go_sem, z0, z1, z2, hi, hii, hw1, xindexAt, vload, hmz, hen.2.1, hx4, g1, g2, g7, g8, g10, g11, g14, g34, g35, g36, g66, g67, hj, hji, hj2, hji2, hwj, bc hP u2, bc hP u3]; refine hR _ _ _ ?_; clear hR R)
  rw [seqX_nil]
  refine hK _ _ _ ?_; clear hK K
  refine hN29 _ _ _ ?_
  refine xc_two fun N30 hN30 => ?_
  refine xc_two fun N31 hN31 => ?_
  refine xc_reg2 fun K hK => ?_
  simp only [rall, rsl, gres]
  iterate 5 (refine seqX_hide2 fun R hR => ?_; simp [go_sem, z0, z1, z2, hi, hii, hw1, xindexAt, vload, hmz, hen.2.1, hx4, g1, g2, g7, g8, g10, g11, g14, g34, g35, g36, g66, g67, hj, hji, hj2, hji2, hwj, bc hP u2, bc hP u3]; refine hR _ _ _ ?_; clear hR R)
  rw [seqX_nil]
  refine hK _ _ _ ?_; clear hK K
  refine hN31 _ _ _ ?_
  refine xc_iftrue (by simp [go_sem, z0, z1, z2, hi, hii, hw1, xindexAt, vload, hmz, hen.2.1, hx4, g1, g2, g7, g8, g10, g11, g14, g34, g35, g36, g66, g67, hj, hji, hj2, hji2, hwj, bc hP u2, bc hP u3]) ?_
  rw [xc_draws]
  refine vdrawK [(0, true), (1, true), (2, true), (3, true), (4, true), (5, true), (6, true), (7, true), (8, true), (9, true), (10, true), (11, true), (12, true), (13, true), (14, false), (15, true), (16, true), (17, true), (18, true), (19, true)] (ov D5 [(q2, .cells #[.string ⟨#[]⟩, .pointer ob, .slice (some ak) ks.length kc, .slice (some av) vs.length wc0] 92 (0, 0))]) mixed (by kernel_rfl) (View.le_refl _) fun K hK => ?_
  simp only [rsl, gres]
  iterate 13 (refine seqR_hide fun R hR => ?_; simp [go_sem, z0, z1, z2, hi, hii, hw1, xindexAt, vload, hmz, hen.2.1, hx4, g1, g2, g7, g8, g10, g11, g14, g34, g35, g36, g66, g67, hj, hji, hj2, hji2, hwj, bc hP u2, bc hP u3]; refine hR _ _ _ ?_; clear hR R)
  refine seqR_hide fun R hR => ?_
  simp [go_sem, z0, z1, z2, hi, hii, hw1, xindexAt, vload, hmz, hen.2.1, hx4, g1, g2, g7, g8, g10, g11, g14, g34, g35, g36, g66, g67, hj, hji, hj2, hji2, hwj, bc hP u2, bc hP u3]
  intro q89 hq89
  replace hP := hP.cons hq89
  clear hq89
  have d892 : q89 ≠ q2 := (hP.ne q2 (by simp [addrs])).1
  have d289 : q2 ≠ q89 := (hP.ne q2 (by simp [addrs])).2
  refine hR _ _ _ ?_; clear hR R
  refine seqR_hide fun R hR => ?_
  simp [go_sem, z0, z1, z2, hi, hii, hw1, xindexAt, vload, hmz, hen.2.1, hx4, g1, g2, g7, g8, g10, g11, g14, g34, g35, g36, g66, g67, hj, hji, hj2, hji2, hwj, bc hP u2, bc hP u3, d892, d289]
  obtain ⟨eq89, hPn, nq89⟩ := sinkI (A := D5) (L := [(q89, .cells #[.iface 88 (.agg #[.string ⟨#[]⟩, .string ks[j], .pointer none, .string vs[j], .string ⟨#[]⟩, .pointer none])] 116 (0, 0)), (q2, .cells #[.string ⟨#[]⟩, .pointer ob, .slice (some ak) ks.length kc, .slice (some av) vs.length wc0] 92 (0, 0))]) 0 hP rfl
  rw [eq89]
  clear eq89 hP; have hP := hPn; clear hPn
  simp only [List.eraseIdx_cons_zero, List.eraseIdx_cons_succ, addrs_cons, addrs_nil] at hP ⊢
  have lq : D5 ≤ D5.set q89 (.cells #[.iface 88 (.agg #[.string ⟨#[]⟩, .string ks[j], .pointer none, .string vs[j], .string ⟨#[]⟩, .pointer none])] 116 (0, 0)) := le_set nq89
  have hrow0 : (D5.set q89 (.cells #[.iface 88 (.agg #[.string ⟨#[]⟩, .string ks[j], .pointer none, .string vs[j], .string ⟨#[]⟩, .pointer none])] 116 (0, 0))) q89 = some (.cells #[.iface 88 (.agg #[.string ⟨#[]⟩, .string ks[j], .pointer none, .string vs[j], .string ⟨#[]⟩, .pointer none])] 116 (0, 0)) := set_at _ _ _
  have hnb := own_block hO5 nq89
  generalize D5.set q89 (.cells #[.iface 88 (.agg #[.string ⟨#[]⟩, .string ks[j], .pointer none, .string vs[j], .string ⟨#[]⟩, .pointer none])] 116 (0, 0)) = D6 at hP lq hrow0 ⊢
  have hO6 := own_rebase (hO5.le lq)
  have hE56 := eraseB_mono lq (.slice xb rs.length xcp)
  have hrow1 : (eraseB D6 (.slice xb rs.length xcp)) q89 = some (.cells #[.iface 88 (.agg #[.string ⟨#[]⟩, .string ks[j], .pointer none, .string vs[j], .string ⟨#[]⟩, .pointer none])] 116 (0, 0)) := by rw [eraseB_apart hnb]; exact hrow0
  have hrow : Row (eraseB D6 (.slice xb rs.length xcp)) 1 (.slice (some ⟨q89, 0, none⟩) 1 1) 1 [.iface 88 (.agg #[.string ⟨#[]⟩, .string ks[j], .pointer none, .string vs[j], .string ⟨#[]⟩, .pointer none])] := .inl ⟨_, 1, rfl, cells_block hrow1 rfl⟩
  have hrq6 := hrq5.le hE56
  have hrq7 := hrq6
  obtain ⟨pk, hrqc, hyk⟩ := hrq7
  obtain ⟨k', st', tag', val', an', h', l', f', row', col', al', kk', hkx⟩ := (kids[i]).ex
  rw [hkx] at hyk
  obtain ⟨cvk, psk, hpk, -, -, -⟩ := hyk.open
  have hk1' : k' ≠ 1 := by have := hen.1; rw [hkx] at this; exact this
  refine call_sub hP (eraseB_le D6 (.slice xb rs.length xcp)) (pipe1 (eraseB D6 (.slice xb rs.length xcp)) rq pk 88 134 (.agg #[.string ⟨#[]⟩, .string ks[j], .pointer none, .string vs[j], .string ⟨#[]⟩, .pointer none]) (.slice (some ⟨q89, 0, none⟩) 1 1) k' st' tag' val' an' cvk h' l' f' row' col' hrqc hpk hk1' meth_fm (by kernel_rfl) hrow (fun x A' => RP (mfl (kids[i]).kids ks[j] vs[j]) x A' ∧ eraseB D6 (.slice xb rs.length xcp) ≤ A') (matchS134 _ kids[i] rq ks[j] vs[j] hrq6 hx4 hen.2.1 (hev2 hx4) hkl2 (hkn _ (List.getElem_mem hj)) (hvn _ (List.getElem_mem hj2)))) ?_
  clear hP
  rintro _ E7 D7 ⟨x, rfl, hx, hAE7⟩ hED7 hKp7 hmono7 hP
  have hDD7 := hmono7 hAE7
  have hE7 := keep_erase hO6 hED7 hKp7
  have hO7 := own_rebase (hO6.le hDD7)
  have hAw7 := View.le_trans hAw5 (View.le_trans hE56 (View.le_trans hAE7 hE7))
  have hrq8 := hrq6.le (View.le_trans hAE7 hE7)
  cases x with
  | none =>
    have hml : mfl (kids[i]).kids ks[j] vs[j] = none := by
      cases hm : mfl (kids[i]).kids ks[j] vs[j] with
      | none => rfl
      | some y =>
        rw [hm] at hx
        obtain ⟨rn, hh, -⟩ := hx
        have hh2 : Value.pointer none = ptr0 rn := hh
        cases hh2
    rw [hml] at hfm
    have hfit : fitK ks vs kids[i] = false := by rw [fitK, hfm]; simp
    rw [hfit, Bool.or_false] at hany
    rw [hfit] at hstp
    have hv0 : (0 : Int) < vs.length := by omega
    have hv1 : 0 < vs.length := by omega
    refine hR _ _ _ ?_; clear hR R
    iterate 5 (refine seqR_hide fun R hR => ?_; simp [go_sem, z0, z1, z2, hi, hii, hw1, xindexAt, vload, hmz, hen.2.1, hx4, g1, g2, g7, g8, g10, g11, g14, g34, g35, g36, g66, g67, hj, hji, hj2, hji2, hwj, d892, d289, hv0, hv1]; refine hR _ _ _ ?_; clear hR R)
    rw [seqR_nil]
    refine hK _ _ _ ?_; clear hK K
    refine hN30 _ _ _ ?_
    refine xc_two fun N32 hN32 => ?_
    refine xc_two fun N33 hN33 => ?_
    refine xc_reg2 fun K hK => ?_
    simp only [rall, rsl, gres]
    iterate 2 (refine seqX_hide2 fun R hR => ?_; simp [go_sem, z0, z1, z2, hi, hii, hw1, xindexAt, vload, hmz, hen.2.1, hx4, g1, g2, g7, g8, g10, g11, g14, g34, g35, g36, g66, g67, hj, hji, hj2, hji2, hwj, d892, d289, hv0, hv1]; refine hR _ _ _ ?_; clear hR R)
    rw [seqX_nil]
    refine hK _ _ _ ?_; clear hK K
    refine hN33 _ _ _ ?_
    refine xc_iffalse (by simp [go_sem, z0, z1, z2, hi, hii, hw1, xindexAt, vload, hmz, hen.2.1, hx4, g1, g2, g7, g8, g10, g11, g14, g34, g35, g36, g66, g67, hj, hji, hj2, hji2, hwj, d892, d289, hv0, hv1]) ?_
    refine hN32 _ _ _ ?_
    refine xc_two fun N34 hN34 => ?_
    refine xc_reg2 fun K hK => ?_
    simp only [rall, rsl, gres]
    iterate 2 (refine seqX_hide2 fun R hR => ?_; simp [go_sem, z0, z1, z2, hi, hii, hw1, xindexAt, vload, hmz, hen.2.1, hx4, g1, g2, g7, g8, g10, g11, g14, g34, g35, g36, g66, g67, hj, hji, hj2, hji2, hwj, d892, d289, hv0, hv1]; refine hR _ _ _ ?_; clear hR R)
    rw [seqX_nil]
    refine hK _ _ _ ?_; clear hK K
    refine hN34 _ _ _ ?_
    refine xc_iftrue (by simp [go_sem, z0, z1, z2, hi, hii, hw1, xindexAt, vload, hmz, hen.2.1, hx4, g1, g2, g7, g8, g10, g11, g14, g34, g35, g36, g66, g67, hj, hji, hj2, hji2, hwj, d892, d289, hv0, hv1]) ?_
    refine xc_two fun N35 hN35 => ?_
    refine xc_reg2 fun K hK => ?_
    simp only [rall, rsl, gres]
    (refine seqX_hide2 fun R hR => ?_; simp [go_sem, z0, z1, z2, hi, hii, hw1, xindexAt, vload, hmz, hen.2.1, hx4, g1, g2, g7, g8, g10, g11, g14, g34, g35, g36, g66, g67, hj, hji, hj2, hji2, hwj, d892, d289, hv0, hv1]; refine hR _ _ _ ?_; clear hR R)
    rw [seqX_nil]
    refine hK _ _ _ ?_; clear hK K
    refine hN35 _ _ _ ?_
    refine hX2 _ _ _ _ ?_
    refine hN24 _ _ _ ?_
    refine xc_two fun N36 hN36 => ?_
    refine xc_two fun N37 hN37 => ?_
    refine xc_reg2 fun K hK => ?_
    simp only [rall, rsl, gres]
    iterate 2 (refine seqX_hide2 fun R hR => ?_; simp [go_sem, z0, z1, z2, hi, hii, hw1, xindexAt, vload, hmz, hen.2.1, hx4, g1, g2, g7, g8, g10, g11, g14, g34, g35, g36, g66, g67, hj, hji, hj2, hji2, hwj, d892, d289, hv0, hv1]; refine hR _ _ _ ?_; clear hR R)
    rw [seqX_nil]
    refine hK _ _ _ ?_; clear hK K
    refine hN37 _ _ _ ?_
    refine xc_iftrue (by simp [go_sem, z0, z1, z2, hi, hii, hw1, xindexAt, vload, hmz, hen.2.1, hx4, g1, g2, g7, g8, g10, g11, g14, g34, g35, g36, g66, g67, hj, hji, hj2, hji2, hwj, d892, d289, hv0, hv1]) ?_
    refine xc_two fun N38 hN38 => ?_
    refine xc_two fun N39 hN39 => ?_
    refine xc_reg2 fun K hK => ?_
    simp only [rall, rsl, gres]
    iterate 4 (refine seqX_hide2 fun R hR => ?_; simp [go_sem, z0, z1, z2, hi, hii, hw1, xindexAt, vload, hmz, hen.2.1, hx4, g1, g2, g7, g8, g10, g11, g14, g34, g35, g36, g66, g67, hj, hji, hj2, hji2, hwj, d892, d289, hv0, hv1]; refine hR _ _ _ ?_; clear hR R)
    rw [seqX_nil]
    refine hK _ _ _ ?_; clear hK K
    refine hN39 _ _ _ ?_
    refine xc_iftrue (by simp [go_sem, z0, z1, z2, hi, hii, hw1, xindexAt, vload, hmz, hen.2.1, hx4, g1, g2, g7, g8, g10, g11, g14, g34, g35, g36, g66, g67, hj, hji, hj2, hji2, hwj, d892, d289, hv0, hv1]) ?_
    refine xc_reg2 fun K hK => ?_
    simp only [rall, rsl, gres]
    iterate 2 (refine seqX_hide2 fun R hR => ?_; simp [go_sem, z0, z1, z2, hi, hii, hw1, xindexAt, vload, hmz, hen.2.1, hx4, g1, g2, g7, g8, g10, g11, g14, g34, g35, g36, g66, g67, hj, hji, hj2, hji2, hwj, d892, d289, hv0, hv1]; refine hR _ _ _ ?_; clear hR R)
    refine seqX_hide2 fun R hR => ?_
    simp [go_sem, z0, z1, z2, hi, hii, hw1, xindexAt, vload, hmz, hen.2.1, hx4, g1, g2, g7, g8, g10, g11, g14, g34, g35, g36, g66, g67, hj, hji, hj2, hji2, hwj, d892, d289, hv0, hv1]
    intro q107 hq107
    replace hP := hP.cons hq107
    clear hq107
    have d1072 : q107 ≠ q2 := (hP.ne q2 (by simp [addrs])).1
    have d2107 : q2 ≠ q107 := (hP.ne q2 (by simp [addrs])).2
    refine hR _ _ _ ?_; clear hR R
    refine seqX_hide2 fun R hR => ?_
    simp [go_sem, z0, z1, z2, hi, hii, hw1, xindexAt, vload, hmz, hen.2.1, hx4, g1, g2, g7, g8, g10, g11, g14, g34, g35, g36, g66, g67, hj, hji, hj2, hji2, hwj, d892, d289, hv0, hv1, d1072, d2107]
    refine append_ov (cs := [ptr0 pj]) (m := 1) hP ti100 ti100 (fun k => by simp) ti90 rfl (by decide) hO7 (eraseB_le _ _) (by simp [appended, View.cells?, go_sem]) (by simp [isStr]) (fun v hv => by rw [List.mem_singleton] at hv; subst hv; rfl) (by omega) ?_
    clear hP
    rintro v6 D6 h6 hO6 h6e hP
    obtain ⟨yb, ycp, rfl⟩ := hO6.shape
    refine hR _ _ _ ?_; clear hR R
    (refine seqX_hide2 fun R hR => ?_; simp [go_sem, z0, z1, z2, hi, hii, hw1, xindexAt, vload, hmz, hen.2.1, hx4, g1, g2, g7, g8, g10, g11, g14, g34, g35, g36, g66, g67, hj, hji, hj2, hji2, hwj, d892, d289, hv0, hv1, d1072, d2107]; refine hR _ _ _ ?_; clear hR R)
    rw [seqX_nil]
    refine hK _ _ _ ?_; clear hK K
    refine hN38 _ _ _ ?_
    refine hN13 _ _ _ ?_
    refine xc_reg2 fun K hK => ?_
    simp only [rall, rsl, gres]
    iterate 2 (refine seqX_hide2 fun R hR => ?_; simp [go_sem, z0, z1, z2, hi, hii, hw1, xindexAt, vload, hmz, hen.2.1, hx4, g1, g2, g7, g8, g10, g11, g14, g34, g35, g36, g66, g67, hj, hji, hj2, hji2, hwj, d892, d289, hv0, hv1, d1072, d2107]; refine hR _ _ _ ?_; clear hR R)
    rw [seqX_nil]
    refine hK _ _ _ ?_; clear hK K
    refine sink_goal 0 hP rfl fun hPn lq107 nq107 => ?_
    clear hP; have hP := hPn; clear hPn
    simp only [List.eraseIdx_cons_zero, List.eraseIdx_cons_succ, addrs_cons, addrs_nil] at hP ⊢
    have hE6 := View.le_trans h6e (eraseB_mono lq107 (.slice yb (rs.length + 1) ycp))
    have hrl2 : (rs ++ [pj]).length = rs.length + 1 := by simp
    refine hJ1 (kids.length - (i + 1)) _ _ _ (by omega) ⟨i + 1, _, .slice yb (rs.length + 1) ycp, rs ++ [pj], fd, rfl, rfl, rfl, hP, by simp [go_sem, z0, z1, z2, hi, hii, hw1, xindexAt, vload, hmz, hen.2.1, hx4, g1, g2, g7, g8, g10, g11, g14, g34, g35, g36, g66, g67, hj, hji, hj2, hji2, hwj, d892, d289, hv0, hv1, d1072, d2107], by simp [go_sem, z0, z1, z2, hi, hii, hw1, xindexAt, vload, hmz, hen.2.1, hx4, g1, g2, g7, g8, g10, g11, g14, g34, g35, g36, g66, g67, hj, hji, hj2, hji2, hwj, d892, d289, hv0, hv1, d1072, d2107], by simp [go_sem, z0, z1, z2, hi, hii, hw1, xindexAt, vload, hmz, hen.2.1, hx4, g1, g2, g7, g8, g10, g11, g14, g34, g35, g36, g66, g67, hj, hji, hj2, hji2, hwj, d892, d289, hv0, hv1, d1072, d2107], by simp [go_sem, z0, z1, z2, hi, hii, hw1, xindexAt, vload, hmz, hen.2.1, hx4, g1, g2, g7, g8, g10, g11, g14, g34, g35, g36, g66, g67, hj, hji, hj2, hji2, hwj, d892, d289, hv0, hv1, d1072, d2107], by simp [go_sem, z0, z1, z2, hi, hii, hw1, xindexAt, vload, hmz, hen.2.1, hx4, g1, g2, g7, g8, g10, g11, g14, g34, g35, g36, g66, g67, hj, hji, hj2, hji2, hwj, d892, d289, hv0, hv1, d1072, d2107], by simp [go_sem, z0, z1, z2, hi, hii, hw1, xindexAt, vload, hmz, hen.2.1, hx4, g1, g2, g7, g8, g10, g11, g14, g34, g35, g36, g66, g67, hj, hji, hj2, hji2, hwj, d892, d289, hv0, hv1, d1072, d2107], by simp [go_sem, z0, z1, z2, hi, hii, hw1, xindexAt, vload, hmz, hen.2.1, hx4, g1, g2, g7, g8, g10, g11, g14, g34, g35, g36, g66, g67, hj, hji, hj2, hji2, hwj, d892, d289, hv0, hv1, d1072, d2107], by omega, View.le_trans hAw7 hE6, by rw [hrl2, List.map_append]; exact own_rebase (hO6.le lq107), by rw [hstp]; exact hyl.app (YL.one hq2), by rw [hany]; exact hfd, by rw [hrl2]; omega⟩
  | some b =>
    have hml : (mfl (kids[i]).kids ks[j] vs[j]).isSome = true := by
      cases hm : mfl (kids[i]).kids ks[j] vs[j] with
      | some y => rfl
      | none =>
        rw [hm] at hx
        have hh2 : ptr0 b = .pointer none := hx
        cases hh2
    rw [hml, Bool.true_and] at hfm
    refine hR _ _ _ ?_; clear hR R
    iterate 5 (refine seqR_hide fun R hR => ?_; simp [go_sem, z0, z1, z2, hi, hii, hw1, xindexAt, vload, hmz, hen.2.1, hx4, g1, g2, g7, g8, g10, g11, g14, g34, g35, g36, g66, g67, hj, hji, hj2, hji2, hwj, d892, d289]; refine hR _ _ _ ?_; clear hR R)
    rw [seqR_nil]
    refine hK _ _ _ ?_; clear hK K
    refine hN30 _ _ _ ?_
    refine xc_two fun N32 hN32 => ?_
    refine xc_two fun N33 hN33 => ?_
    refine xc_reg2 fun K hK => ?_
    simp only [rall, rsl, gres]
    iterate 2 (refine seqX_hide2 fun R hR => ?_; simp [go_sem, z0, z1, z2, hi, hii, hw1, xindexAt, vload, hmz, hen.2.1, hx4, g1, g2, g7, g8, g10, g11, g14, g34, g35, g36, g66, g67, hj, hji, hj2, hji2, hwj, d892, d289]; refine hR _ _ _ ?_; clear hR R)
    rw [seqX_nil]
    refine hK _ _ _ ?_; clear hK K
    refine hN33 _ _ _ ?_
    refine xc_iffalse (by simp [go_sem, z0, z1, z2, hi, hii, hw1, xindexAt, vload, hmz, hen.2.1, hx4, g1, g2, g7, g8, g10, g11, g14, g34, g35, g36, g66, g67, hj, hji, hj2, hji2, hwj, d892, d289]) ?_
    refine hN32 _ _ _ ?_
    refine xc_two fun N34 hN34 => ?_
    refine xc_reg2 fun K hK => ?_
    simp only [rall, rsl, gres]
    iterate 2 (refine seqX_hide2 fun R hR => ?_; simp [go_sem, z0, z1, z2, hi, hii, hw1, xindexAt, vload, hmz, hen.2.1, hx4, g1, g2, g7, g8, g10, g11, g14, g34, g35, g36, g66, g67, hj, hji, hj2, hji2, hwj, d892, d289]; refine hR _ _ _ ?_; clear hR R)
    rw [seqX_nil]
    refine hK _ _ _ ?_; clear hK K
    refine hN34 _ _ _ ?_
    refine xc_iffalse (by simp [go_sem, z0, z1, z2, hi, hii, hw1, xindexAt, vload, hmz, hen.2.1, hx4, g1, g2, g7, g8, g10, g11, g14, g34, g35, g36, g66, g67, hj, hji, hj2, hji2, hwj, d892, d289]) ?_
    refine hN28 _ _ _ ?_
    refine xc_reg2 fun K hK => ?_
    simp only [rall, rsl, gres]
    iterate 2 (refine seqX_hide2 fun R hR => ?_; simp [go_sem, z0, z1, z2, hi, hii, hw1, xindexAt, vload, hmz, hen.2.1, hx4, g1, g2, g7, g8, g10, g11, g14, g34, g35, g36, g66, g67, hj, hji, hj2, hji2, hwj, d892, d289]; refine hR _ _ _ ?_; clear hR R)
    rw [seqX_nil]
    refine hK _ _ _ ?_; clear hK K
    refine hJ2 (ks.length - (j + 1)) _ _ _ (by omega) ⟨j + 1, D7, rfl, rfl, rfl, hP, by simp [go_sem, z0, z1, z2, hi, hii, hw1, xindexAt, vload, hmz, hen.2.1, hx4, g1, g2, g7, g8, g10, g11, g14, g34, g35, g36, g66, g67, hj, hji, hj2, hji2, hwj, d892, d289], by simp [go_sem, z0, z1, z2, hi, hii, hw1, xindexAt, vload, hmz, hen.2.1, hx4, g1, g2, g7, g8, g10, g11, g14, g34, g35, g36, g66, g67, hj, hji, hj2, hji2, hwj, d892, d289], by simp [go_sem, z0, z1, z2, hi, hii, hw1, xindexAt, vload, hmz, hen.2.1, hx4, g1, g2, g7, g8, g10, g11, g14, g34, g35, g36, g66, g67, hj, hji, hj2, hji2, hwj, d892, d289], by simp [go_sem, z0, z1, z2, hi, hii, hw1, xindexAt, vload, hmz, hen.2.1, hx4, g1, g2, g7, g8, g10, g11, g14, g34, g35, g36, g66, g67, hj, hji, hj2, hji2, hwj, d892, d289], by simp [go_sem, z0, z1, z2, hi, hii, hw1, xindexAt, vload, hmz, hen.2.1, hx4, g1, g2, g7, g8, g10, g11, g14, g34, g35, g36, g66, g67, hj, hji, hj2, hji2, hwj, d892, d289], by simp [go_sem, z0, z1, z2, hi, hii, hw1, xindexAt, vload, hmz, hen.2.1, hx4, g1, g2, g7, g8, g10, g11, g14, g34, g35, g36, g66, g67, hj, hji, hj2, hji2, hwj, d892, d289], by simp [go_sem, z0, z1, z2, hi, hii, hw1, xindexAt, vload, hmz, hen.2.1, hx4, g1, g2, g7, g8, g10, g11, g14, g34, g35, g36, g66, g67, hj, hji, hj2, hji2, hwj, d892, d289], by simp [go_sem, z0, z1, z2, hi, hii, hw1, xindexAt, vload, hmz, hen.2.1, hx4, g1, g2, g7, g8, g10, g11, g14, g34, g35, g36, g66, g67, hj, hji, hj2, hji2, hwj, d892, d289], by simp [go_sem, z0, z1, z2, hi, hii, hw1, xindexAt, vload, hmz, hen.2.1, hx4, g1, g2, g7, g8, g10, g11, g14, g34, g35, g36, g66, g67, hj, hji, hj2, hji2, hwj, d892, d289], by simp [go_sem, z0, z1, z2, hi, hii, hw1, xindexAt, vload, hmz, hen.2.1, hx4, g1, g2, g7, g8, g10, g11, g14, g34, g35, g36, g66, g67, hj, hji, hj2, hji2, hwj, d892, d289], by simp [go_sem, z0, z1, z2, hi, hii, hw1, xindexAt, vload, hmz, hen.2.1, hx4, g1, g2, g7, g8, g10, g11, g14, g34, g35, g36, g66, g67, hj, hji, hj2, hji2, hwj, d892, d289], by simp [go_sem, z0, z1, z2, hi, hii, hw1, xindexAt, vload, hmz, hen.2.1, hx4, g1, g2, g7, g8, g10, g11, g14, g34, g35, g36, g66, g67, hj, hji, hj2, hji2, hwj, d892, d289], by omega, hAw7, hO7, hrq8, hfm⟩
end Go.Proofs.YtpinamipjddobaaV

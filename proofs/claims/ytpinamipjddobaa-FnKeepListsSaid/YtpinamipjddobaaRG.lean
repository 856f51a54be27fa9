/- Trees: FieldSetter puts a text under a name into an empty mapping; SetField; tfLives. -/
import Derived.Test.YtpinamipjddobaaRF
import Derived.Test.YtpinamipjddobaaKE2
namespace Go.Proofs.YtpinamipjddobaaV
open Go.RowKit
set_option linter.unusedSimpArgs false
set_option linter.unusedVariables false
def mapE : Tr := mapN [] []
/-- A key as the setter makes it. -/
def keyT (nm : ByteArray) : Tr := .mk 8 0 e0 nm e0 e0 e0 e0 0 0 (-1) []
def oneF (nm : ByteArray) : Tr := .mk 4 0 tMap e0 e0 e0 e0 e0 0 0 (-1) [keyT nm, tn vRed]
theorem keep_block {B A A' : View} {e e' : TypeId} {n : Nat} {v v' : Value} {cs : List Value} {b : Nat} {c : Array Value} (h : eraseB A v ≤ eraseB A' v') (hO : Own B A e 1 v n cs) (hb : A b = some (.cells c e' (0, 0))) (he : e' ≠ e) : A' b = some (.cells c e' (0, 0)) := by
  have hne : blockOf v ≠ some b := by
    obtain ⟨h1, ⟨rfl, rfl⟩ | ⟨a, cap, rfl, hn⟩⟩ := hO
    · simp [blockOf]
    · obtain ⟨c', h3, _⟩ := sliceIn_block h1
      intro hx
      simp only [blockOf, Option.some.injEq] at hx
      rw [hx, hb] at h3
      injection h3 with h3
      injection h3 with h4 h5
      exact he h5
  have h2 := h b _ (by rw [eraseB_apart hne]; exact hb)
  exact (eraseB_some h2).2
theorem own_ty {B A : View} {e e' : TypeId} {n : Nat} {v : Value} {cs : List Value} {b : Nat} {c : Array Value} (hO : Own B A e 1 v n cs) (hb : A b = some (.cells c e' (0, 0))) (he : e' ≠ e) : blockOf v ≠ some b := by
  obtain ⟨h1, ⟨rfl, rfl⟩ | ⟨a, cap, rfl, hn⟩⟩ := hO
  · simp [blockOf]
  · obtain ⟨c', h3, _⟩ := sliceIn_block h1
    intro hx
    simp only [blockOf, Option.some.injEq] at hx
    rw [hx, hb] at h3
    injection h3 with h3
    injection h3 with h4 h5
    exact he h5
theorem row_zero {A B : View} {v : Value} {cs : List Value} (h : Row A 1 v 0 cs) : Row B 1 v 0 cs := by
  rcases h with ⟨a, cap, h1, h2⟩ | h
  · exact .inl ⟨a, cap, h1, by simpa [View.cells?] using h2⟩
  · exact .inr h
theorem setter_ne : (114 : TypeId) ≠ 90 ∧ (111 : TypeId) ≠ 90 := by decide
theorem meth_fm : meth Try.prog 88 "Filter" = some ⟨134, none⟩ := by kernel_rfl
theorem meth_fs : meth Try.prog 75 "Filter" = some ⟨112, none⟩ := by kernel_rfl
set_option maxRecDepth 20000 in
set_option maxHeartbeats 400000 in
theorem fset112 (A0 A : View) (q p qv pv : Nat) (nm : ByteArray) (H : TopR A0 A mapE q p) (hqv : A qv = some (.cells (rnc pv) 111 (0, 0))) (hyv : IsYn A (tn vRed) pv) (hpp : pv ≠ p) (hqq : qv ≠ p) (hnm : nm ≠ e0) :
    VCalls Try.prog 112 #[.agg #[.string ⟨#[]⟩, .string nm, .string ⟨#[]⟩, .string ⟨#[]⟩, .string ⟨#[]⟩, ptr0 qv, .string ⟨#[]⟩, .bool false, .int .u32 0], ptr0 q] A fun r A' => ∃ x : Option Nat, r = .tuple #[(match x with | none => .pointer none | some b => ptr0 b), .nilIface] ∧ ((match x with | none => .pointer none | some b => ptr0 b) = ptr0 qv ∧ IsRn A' (oneF nm) q ∧ IsRn A' (tn vRed) qv ∧ A0 ≤ A') := by
  have hrv : IsRn A (tn vRed) qv := ⟨pv, hqv, hyv⟩
  have hrn := H.rn
  obtain ⟨hq, hqp, HT⟩ := H
  obtain ⟨B, cv, ps, b1, b2, b3, b4, b5, b6, b7, b8⟩ := HT
  replace b5 : Own B A 90 1 cv 0 (ps.map ptr0) := b5
  obtain ⟨cvv, psv, hpv, hrowv, hplv, -⟩ := IsYn.open hyv
  have v1 := cell_of (i := 1) hpv rfl
  have hn1 := (ne_empty hnm).1
  have hn2 := (ne_empty hnm).2
  obtain ⟨cb, cc, rfl⟩ := b5.shape
  refine xcalls Try.func112 rfl (by simp [Try.ntmps112]) ?_
  simp only [Try.f112]
  have hP : Priv A (addrs []) := Priv.nil A
  show xc _ _ _ _ _ _ (ov A [])
  refine xc_two fun N1 hN1 => ?_
  refine xc_reg2 fun K hK => ?_
  simp only [rall, rsl, gres]
  refine seqX_hide2 fun R hR => ?_
  simp [go_sem, hn1, hn2]
  intro q2 hq2
  replace hP := hP.cons hq2
  clear hq2
  refine hR _ _ _ ?_; clear hR R
  iterate 2 (refine seqX_hide2 fun R hR => ?_; simp [go_sem, hn1, hn2]; refine hR _ _ _ ?_; clear hR R)
  rw [seqX_nil]
  refine hK _ _ _ ?_; clear hK K
  refine hN1 _ _ _ ?_
  refine xc_two fun N2 hN2 => ?_
  refine xc_two fun N3 hN3 => ?_
  refine xc_reg2 fun K hK => ?_
  simp only [rall, rsl, gres]
  iterate 8 (refine seqX_hide2 fun R hR => ?_; simp [go_sem, hn1, hn2]; refine hR _ _ _ ?_; clear hR R)
  rw [seqX_nil]
  refine hK _ _ _ ?_; clear hK K
  refine hN3 _ _ _ ?_
  refine xc_iffalse (by simp [go_sem, hn1, hn2]) ?_
  refine hN2 _ _ _ ?_
  refine xc_two fun N4 hN4 => ?_
  refine xc_two fun N5 hN5 => ?_
  refine xc_reg2 fun K hK => ?_
  simp only [rall, rsl, gres]
  iterate 2 (refine seqX_hide2 fun R hR => ?_; simp [go_sem, hn1, hn2]; refine hR _ _ _ ?_; clear hR R)
  refine seqX_hide2 fun R hR => ?_
  simp [go_sem, hn1, hn2]
  refine call_same hP (strVal113 A vRed qv hrv) ?_
  rintro _ rfl
  refine hR _ _ _ ?_; clear hR R
  iterate 8 (refine seqX_hide2 fun R hR => ?_; simp [go_sem, hn1, hn2]; refine hR _ _ _ ?_; clear hR R)
  refine seqX_hide2 fun R hR => ?_
  simp [go_sem, hn1, hn2]
  refine call_same hP (ynode48 A qv pv 8 0 tStr vRed e0 cvv e0 e0 e0 0 0 hqv hpv (by decide)) ?_
  rintro _ rfl
  refine hR _ _ _ ?_; clear hR R
  iterate 8 (refine seqX_hide2 fun R hR => ?_; simp [go_sem, hn1, hn2, bc hP v1]; refine hR _ _ _ ?_; clear hR R)
  refine seqX_hide2 fun R hR => ?_
  simp [go_sem, hn1, hn2, bc hP v1]
  refine call_same hP (ynode48 A qv pv 8 0 tStr vRed e0 cvv e0 e0 e0 0 0 hqv hpv (by decide)) ?_
  rintro _ rfl
  refine hR _ _ _ ?_; clear hR R
  refine seqX_hide2 fun R hR => ?_
  simp [go_sem, hn1, hn2]
  refine call_same hP (yaml114 A pv hyv) ?_
  rintro _ rfl
  refine hR _ _ _ ?_; clear hR R
  (refine seqX_hide2 fun R hR => ?_; simp [go_sem, hn1, hn2]; refine hR _ _ _ ?_; clear hR R)
  rw [seqX_nil]
  refine hK _ _ _ ?_; clear hK K
  refine hN5 _ _ _ ?_
  refine xc_iffalse (by simp [go_sem, hn1, hn2]) ?_
  refine hN4 _ _ _ ?_
  refine xc_two fun N6 hN6 => ?_
  refine xc_two fun N7 hN7 => ?_
  refine xc_reg2 fun K hK => ?_
  simp only [rall, rsl, gres]
  iterate 3 (refine seqX_hide2 fun R hR => ?_; simp [go_sem, hn1, hn2]; refine hR _ _ _ ?_; clear hR R)
  rw [seqX_nil]
  refine hK _ _ _ ?_; clear hK K
  refine hN7 _ _ _ ?_
  refine xc_iffalse (by simp [go_sem, hn1, hn2]) ?_
  refine hN6 _ _ _ ?_
  refine xc_two fun N8 hN8 => ?_
  refine xc_two fun N9 hN9 => ?_
  refine xc_reg2 fun K hK => ?_
  simp only [rall, rsl, gres]
  iterate 6 (refine seqX_hide2 fun R hR => ?_; simp [go_sem, hn1, hn2]; refine hR _ _ _ ?_; clear hR R)
  refine seqX_hide2 fun R hR => ?_
  simp [go_sem, hn1, hn2]
  refine call_same hP (tagNull116 A vRed qv hrv) ?_
  rintro _ rfl
  refine hR _ _ _ ?_; clear hR R
  iterate 9 (refine seqX_hide2 fun R hR => ?_; simp [go_sem, hn1, hn2]; refine hR _ _ _ ?_; clear hR R)
  rw [seqX_nil]
  refine hK _ _ _ ?_; clear hK K
  refine hN9 _ _ _ ?_
  refine xc_iffalse (by simp [go_sem, hn1, hn2]) ?_
  refine hN8 _ _ _ ?_
  refine xc_two fun N10 hN10 => ?_
  refine xc_reg2 fun K hK => ?_
  simp only [rall, rsl, gres]
  iterate 5 (refine seqX_hide2 fun R hR => ?_; simp [go_sem, hn1, hn2]; refine hR _ _ _ ?_; clear hR R)
  refine seqX_hide2 fun R hR => ?_
  simp [go_sem, hn1, hn2]
  intro q121 hq121
  replace hP := hP.cons hq121
  clear hq121
  have d1212 : q121 ≠ q2 := (hP.ne q2 (by simp [addrs])).1
  have d2121 : q2 ≠ q121 := (hP.ne q2 (by simp [addrs])).2
  refine hR _ _ _ ?_; clear hR R
  refine seqX_hide2 fun R hR => ?_
  simp [go_sem, hn1, hn2, d1212, d2121]
  obtain ⟨eq121, hPn, nq121⟩ := sinkI (A := A) (L := [(q121, .cells #[.iface 88 (.agg #[.string ⟨#[]⟩, .string nm, .pointer none, .string ⟨#[]⟩, .string ⟨#[]⟩, .pointer none])] 116 (0, 0)), (q2, .cells #[.string ⟨#[]⟩, .string nm, .string ⟨#[]⟩, .string ⟨#[]⟩, .string ⟨#[]⟩, ptr0 qv, .string ⟨#[]⟩, .bool false, .int .u32 0] 75 (0, 0))]) 0 hP rfl
  rw [eq121]
  clear eq121 hP; have hP := hPn; clear hPn
  simp only [List.eraseIdx_cons_zero, List.eraseIdx_cons_succ, addrs_cons, addrs_nil] at hP ⊢
  have lq : A ≤ A.set q121 (.cells #[.iface 88 (.agg #[.string ⟨#[]⟩, .string nm, .pointer none, .string ⟨#[]⟩, .string ⟨#[]⟩, .pointer none])] 116 (0, 0)) := le_set nq121
  have hrow : Row (A.set q121 (.cells #[.iface 88 (.agg #[.string ⟨#[]⟩, .string nm, .pointer none, .string ⟨#[]⟩, .string ⟨#[]⟩, .pointer none])] 116 (0, 0))) 1 (.slice (some ⟨q121, 0, none⟩) 1 1) 1 [.iface 88 (.agg #[.string ⟨#[]⟩, .string nm, .pointer none, .string ⟨#[]⟩, .string ⟨#[]⟩, .pointer none])] := .inl ⟨_, 1, rfl, cells_block (set_at _ _ _) rfl⟩
  generalize A.set q121 (.cells #[.iface 88 (.agg #[.string ⟨#[]⟩, .string nm, .pointer none, .string ⟨#[]⟩, .string ⟨#[]⟩, .pointer none])] 116 (0, 0)) = A1 at hP lq hrow ⊢
  refine call_ov hP (pipe1 A1 q p 88 134 (.agg #[.string ⟨#[]⟩, .string nm, .pointer none, .string ⟨#[]⟩, .string ⟨#[]⟩, .pointer none]) (.slice (some ⟨q121, 0, none⟩) 1 1) 4 0 tMap e0 e0 (.slice cb 0 cc) e0 e0 e0 0 0 (lq _ _ hq) (lq _ _ b4) (by decide) meth_fm (by kernel_rfl) hrow (fun x A' => RP (fld mapE.kids nm) x A' ∧ A1 ≤ A') (match134 A1 mapE q nm (hrn.le lq) rfl (by show tMap ≠ tNull; decide) rfl (by show 0 ≤ 1000000; decide) hnm)) ?_
  clear hP
  rintro _ A2 ⟨x, rfl, hx, hA2⟩ hP
  have hA := View.le_trans lq hA2
  cases x with
  | some b =>
    have hx2 : ptr0 b = .pointer none := hx
    cases hx2
  | none =>
  refine hR _ _ _ ?_; clear hR R
  iterate 5 (refine seqX_hide2 fun R hR => ?_; simp [go_sem, hn1, hn2, d1212, d2121]; refine hR _ _ _ ?_; clear hR R)
  rw [seqX_nil]
  refine hK _ _ _ ?_; clear hK K
  refine hN10 _ _ _ ?_
  refine xc_two fun N11 hN11 => ?_
  refine xc_two fun N12 hN12 => ?_
  refine xc_reg2 fun K hK => ?_
  simp only [rall, rsl, gres]
  iterate 2 (refine seqX_hide2 fun R hR => ?_; simp [go_sem, hn1, hn2, d1212, d2121]; refine hR _ _ _ ?_; clear hR R)
  rw [seqX_nil]
  refine hK _ _ _ ?_; clear hK K
  refine hN12 _ _ _ ?_
  refine xc_iffalse (by simp [go_sem, hn1, hn2, d1212, d2121]) ?_
  refine hN11 _ _ _ ?_
  refine xc_two fun N13 hN13 => ?_
  refine xc_two fun N14 hN14 => ?_
  refine xc_reg2 fun K hK => ?_
  simp only [rall, rsl, gres]
  iterate 2 (refine seqX_hide2 fun R hR => ?_; simp [go_sem, hn1, hn2, d1212, d2121]; refine hR _ _ _ ?_; clear hR R)
  rw [seqX_nil]
  refine hK _ _ _ ?_; clear hK K
  refine hN14 _ _ _ ?_
  refine xc_iffalse (by simp [go_sem, hn1, hn2, d1212, d2121]) ?_
  refine hN13 _ _ _ ?_
  refine xc_two fun N15 hN15 => ?_
  rw [xc_draws]
  refine vdrawK [(0, true), (1, true), (2, true), (3, true), (4, true), (5, true), (6, true), (7, true), (8, true), (9, true), (10, true), (11, true), (12, true), (13, true), (14, true), (15, true), (16, true), (17, true), (18, true), (19, true), (20, true), (22, true), (23, true), (24, true), (21, true), (25, true), (26, false), (27, true), (28, true), (29, false)] (ov A2 [(q2, .cells #[.string ⟨#[]⟩, .string nm, .string ⟨#[]⟩, .string ⟨#[]⟩, .string ⟨#[]⟩, ptr0 qv, .string ⟨#[]⟩, .bool false, .int .u32 0] 75 (0, 0))]) mixed (by kernel_rfl) (View.le_refl _) fun K hK => ?_
  simp only [rsl, gres]
  (refine seqR_hide fun R hR => ?_; simp [go_sem, hn1, hn2, d1212, d2121]; refine hR _ _ _ ?_; clear hR R)
  refine seqR_hide fun R hR => ?_
  simp [go_sem, hn1, hn2, d1212, d2121]
  have hq' := hA _ _ hq
  have hp' := hA _ _ b4
  have hqv' := hA _ _ hqv
  have hpv' := hA _ _ hpv
  have hO := b5.le hA
  have c6 := cell_of (i := 6) hp' rfl
  refine call_same hP (ynode48 A2 q p 4 0 tMap e0 e0 (.slice cb 0 cc) e0 e0 e0 0 0 hq' hp' (by decide)) ?_
  rintro _ rfl
  refine ⟨View.le_refl _, hR _ _ _ ?_⟩; clear hR R
  (refine seqR_hide fun R hR => ?_; simp [go_sem, hn1, hn2, d1212, d2121]; refine hR _ _ _ ?_; clear hR R)
  refine seqR_hide fun R hR => ?_
  simp [go_sem, hn1, hn2, d1212, d2121]
  refine call_same hP (ynode48 A2 q p 4 0 tMap e0 e0 (.slice cb 0 cc) e0 e0 e0 0 0 hq' hp' (by decide)) ?_
  rintro _ rfl
  refine ⟨View.le_refl _, hR _ _ _ ?_⟩; clear hR R
  iterate 19 (refine seqR_hide fun R hR => ?_; simp [go_sem, hn1, hn2, d1212, d2121, bc hP c6]; refine hR _ _ _ ?_; clear hR R)
  refine seqR_hide fun R hR => ?_
  simp [go_sem, hn1, hn2, d1212, d2121, bc hP c6]
  refine call_same hP (ynode48 A2 qv pv 8 0 tStr vRed e0 cvv e0 e0 e0 0 0 hqv' hpv' (by decide)) ?_
  rintro _ rfl
  refine ⟨View.le_refl _, hR _ _ _ ?_⟩; clear hR R
  refine seqR_hide fun R hR => ?_
  simp [go_sem, hn1, hn2, d1212, d2121, bc hP c6]
  intro q178 hq178
  replace hP := hP.cons hq178
  clear hq178
  have d1782 : q178 ≠ q2 := (hP.ne q2 (by simp [addrs])).1
  have d2178 : q2 ≠ q178 := (hP.ne q2 (by simp [addrs])).2
  refine hR _ _ _ ?_; clear hR R
  refine seqR_hide fun R hR => ?_
  simp [go_sem, hn1, hn2, d1212, d2121, bc hP c6, d1782, d2178]
  intro q182 hq182
  replace hP := hP.cons hq182
  clear hq182
  have d182178 : q182 ≠ q178 := (hP.ne q178 (by simp [addrs])).1
  have d178182 : q178 ≠ q182 := (hP.ne q178 (by simp [addrs])).2
  have d1822 : q182 ≠ q2 := (hP.ne q2 (by simp [addrs])).1
  have d2182 : q2 ≠ q182 := (hP.ne q2 (by simp [addrs])).2
  refine hR _ _ _ ?_; clear hR R
  refine seqR_hide fun R hR => ?_
  simp [go_sem, hn1, hn2, d1212, d2121, bc hP c6, d1782, d2178, d182178, d178182, d1822, d2182]
  obtain rfl : ps = [] := List.eq_nil_of_length_eq_zero b7
  have e1 : p ≠ q182 := fun hx => by have := hP.1; rw [← hx, hp'] at this; cases this
  have e2 : p ≠ q178 := fun hx => by have := hP.2.2.1; rw [← hx, hp'] at this; cases this
  have e3 : p ≠ q2 := fun hx => by have := hP.2.2.2.2.1; rw [← hx, hp'] at this; cases this
  refine append_ov (cs := [ptr0 q178, ptr0 pv]) (m := 2) hP ti100 ti100 (fun k => by simp) ti90 rfl (by decide) hO (View.le_trans b2 hA) (by simp [appended, View.cells?, go_sem]) (by simp [isStr]) (fun v hv => by simp only [List.mem_cons, List.not_mem_nil, or_false] at hv; rcases hv with rfl | rfl <;> rfl) (by decide) ?_
  clear hP
  rintro v4 A4 h4 hO4 h4e hP
  simp only [addrs_cons, addrs_nil] at hP
  have hp4 := keep_block h4e hO hp' setter_ne.1
  have hq4 := keep_block h4e hO hq' setter_ne.2
  have hqv4 := keep_block h4e hO hqv' setter_ne.2
  have hpv4 := keep_block h4e hO hpv' setter_ne.1
  obtain ⟨wb, wc, rfl⟩ := hO4.shape
  have hs := cstoreF (L := [(q182, .cells #[ptr0 q178, ptr0 pv] 90 (0, 0)), (q178, .cells #[.int .u32 8, .int .u32 0, .string ⟨#[]⟩, .string nm, .string ⟨#[]⟩, .pointer none, .slice none 0 0, .string ⟨#[]⟩, .string ⟨#[]⟩, .string ⟨#[]⟩, .int .i64 0, .int .i64 0] 114 (0, 0)), (q2, .cells #[.string ⟨#[]⟩, .string nm, .string ⟨#[]⟩, .string ⟨#[]⟩, .string ⟨#[]⟩, ptr0 qv, .string ⟨#[]⟩, .bool false, .int .u32 0] 75 (0, 0))]) hP ti100 hp4 (i := 6) (u := .slice wb 2 wc) (c' := ync 4 0 tMap e0 e0 (.slice wb 2 wc) e0 e0 e0 0 0) (by show 6 < 12; decide) rfl rfl
  have hsa := hs.1
  refine hR _ _ _ ?_; clear hR R
  iterate 2 (refine seqR_hide fun R hR => ?_; simp [go_sem, hn1, hn2, d1212, d2121, d1782, d2178, d182178, d178182, d1822, d2182, e1, e2, e3, hsa]; refine hR _ _ _ ?_; clear hR R)
  refine seqR_hide fun R hR => ?_
  simp [go_sem, hn1, hn2, d1212, d2121, d1782, d2178, d182178, d178182, d1822, d2182, e1, e2, e3, hsa]
  refine hR _ _ _ ?_; clear hR R
  rw [seqR_nil]
  refine hK _ _ _ ?_; clear hK K
  refine hN15 _ _ _ ?_
  refine xc_two fun N16 hN16 => ?_
  refine xc_reg2 fun K hK => ?_
  simp only [rall, rsl, gres]
  iterate 4 (refine seqX_hide2 fun R hR => ?_; simp [go_sem, hn1, hn2, d1212, d2121, d1782, d2178, d182178, d178182, d1822, d2182, e1, e2, e3, hsa]; refine hR _ _ _ ?_; clear hR R)
  rw [seqX_nil]
  refine hK _ _ _ ?_; clear hK K
  refine hN16 _ _ _ ?_
  simp [go_sem, hn1, hn2, d1212, d2121, d1782, d2178, d182178, d178182, d1822, d2182, e1, e2, e3, hsa]
  have hP2 := hs.2
  have lB : B ≤ A4.set p (.cells (ync 4 0 tMap e0 e0 (.slice wb 2 wc) e0 e0 e0 0 0) 114 (0, 0)) := le_set0 h4 b3
  have hrow4 : Row (A4.set p (.cells (ync 4 0 tMap e0 e0 (.slice wb 2 wc) e0 e0 e0 0 0) 114 (0, 0))) 1 (.slice wb 2 wc) 2 [ptr0 q178, ptr0 pv] := by
    have hne := own_ty hO4 hp4 setter_ne.1
    refine (own_move (D' := B) hO4 fun k o k1 k2 k3 => ⟨k1, ?_⟩).row
    rw [set_other (fun hx => hne (by rw [← hx]; exact k2))]
    exact k3
  have hq5 := (set_other (A := A4) (o := .cells (ync 4 0 tMap e0 e0 (.slice wb 2 wc) e0 e0 e0 0 0) 114 (0, 0)) hqp).trans hq4
  have hqv5 := (set_other (A := A4) (o := .cells (ync 4 0 tMap e0 e0 (.slice wb 2 wc) e0 e0 e0 0 0) 114 (0, 0)) hqq).trans hqv4
  have hpv5 := (set_other (A := A4) (o := .cells (ync 4 0 tMap e0 e0 (.slice wb 2 wc) e0 e0 e0 0 0) 114 (0, 0)) hpp).trans hpv4
  have hp5 : (A4.set p (.cells (ync 4 0 tMap e0 e0 (.slice wb 2 wc) e0 e0 e0 0 0) 114 (0, 0))) p = some (.cells (ync 4 0 tMap e0 e0 (.slice wb 2 wc) e0 e0 e0 0 0) 114 (0, 0)) := set_at _ _ _
  generalize A4.set p (.cells (ync 4 0 tMap e0 e0 (.slice wb 2 wc) e0 e0 e0 0 0) 114 (0, 0)) = A5 at hP2 lB hrow4 hq5 hqv5 hpv5 hp5 ⊢
  have hle5 := le_ov hP2
  have hyv5 : IsYn A5 (tn vRed) pv := by
    rw [tn, IsYn]
    exact ⟨cvv, psv, hpv5, row_zero hrowv, hplv, fun j hj => absurd hj (Nat.not_lt_zero _)⟩
  refine ⟨some qv, rfl, rfl, ⟨p, hle5 _ _ hq5, ?_⟩, ⟨pv, hle5 _ _ hqv5, hyv5.le hle5⟩, View.le_trans b1 (View.le_trans lB hle5)⟩
  rw [oneF, IsYn]
  refine ⟨.slice wb 2 wc, [q178, pv], hle5 _ _ hp5, hrow4.le hle5, rfl, fun j hj => ?_⟩
  replace hj : j < 2 := hj
  match j, hj with
  | 0, _ =>
    refine ⟨q178, rfl, ?_⟩
    show IsYn _ (keyT nm) q178
    rw [keyT, IsYn]
    exact ⟨.slice none 0 0, [], by first | exact ov_at_here _ _ _ _ | exact (set_other (by assumption)).trans (ov_at_here _ _ _ _) | (show (View.set _ q182 _) q178 = _; rw [set_other (fun hx => d182178 hx.symm)]; exact ov_at_here _ _ _ _), .inr ⟨rfl, rfl, rfl⟩, rfl, fun j hj => absurd hj (Nat.not_lt_zero _)⟩
  | 1, _ => exact ⟨pv, rfl, hyv5.le hle5⟩
end Go.Proofs.YtpinamipjddobaaV

/- Trees: SetField of a field that is there. -/
import Derived.Test.YtpinamipjddobaaHE
import Derived.Test.YtpinamipjddobaaRI
namespace Go.Proofs.YtpinamipjddobaaV
open Go.RowKit
set_option linter.unusedSimpArgs false
set_option linter.unusedVariables false
def Tr.setKid : Tr → Nat → Tr → Tr
  | .mk k st tag val an h l f row col al ks, j, x => .mk k st tag val an h l f row col al (ks.set j x)
theorem Tr.setKid_kids (t : Tr) (j : Nat) (x : Tr) : (t.setKid j x).kids = t.kids.set j x := by
  obtain ⟨k, st, tag, val, an, hh, ln, f, row, col, al, kids, rfl⟩ := t.ex
  rfl
theorem Tr.setKid_kind (t : Tr) (j : Nat) (x : Tr) : (t.setKid j x).kind = t.kind := by
  obtain ⟨k, st, tag, val, an, hh, ln, f, row, col, al, kids, rfl⟩ := t.ex
  rfl
theorem Tr.setKid_tag (t : Tr) (j : Nat) (x : Tr) : (t.setKid j x).tag = t.tag := by
  obtain ⟨k, st, tag, val, an, hh, ln, f, row, col, al, kids, rfl⟩ := t.ex
  rfl
theorem PT.setKid {lv : Nat} {t x : Tr} (h : PT lv t) (hx : PT (lv - 1) x) (j : Nat) : PT lv (t.setKid j x) := by
  obtain ⟨k, st, tag, val, an, hh, ln, f, row, col, al, kids, rfl⟩ := t.ex
  rw [PT] at h
  rw [Tr.setKid, PT]
  refine ⟨h.1, h.2.1, h.2.2.1, fun i hi => ?_⟩
  rw [List.length_set] at hi
  by_cases e : j = i
  · subst e
    rw [List.getElem_set_self]
    exact hx
  · rw [List.getElem_set_ne e]
    exact h.2.2.2 i hi
theorem sum_set (f : Tr → Nat) (x : Tr) : ∀ (l : List Tr) (j : Nat), ((l.set j x).map f).sum ≤ (l.map f).sum + f x
  | [], j => by simp
  | y :: l, 0 => by simp; omega
  | y :: l, j + 1 => by
    have := sum_set f x l j
    simp only [List.set_cons_succ, List.map_cons, List.sum_cons]
    omega
theorem nds_setKid (t : Tr) (j : Nat) (x : Tr) : nds (t.setKid j x) ≤ nds t + nds x := by
  obtain ⟨k, st, tag, val, an, hh, ln, f, row, col, al, kids, rfl⟩ := t.ex
  rw [Tr.setKid, nds_mk, nds_mk]
  have := sum_set nds x kids j
  omega
theorem fldI_set (x : Tr) (s : ByteArray) : ∀ (l : List Tr) (j : Nat), j % 2 = 1 → fldI (l.set j x) s = fldI l s
  | [], j, _ => by simp
  | [a], j, h => by
    cases j with
    | zero => cases h
    | succ j => rfl
  | a :: b :: l, 0, h => by cases h
  | a :: b :: l, 1, _ => by
    show fldI (a :: x :: l) s = _
    rw [fldI, fldI]
  | a :: b :: l, j + 2, h => by
    show fldI (a :: b :: l.set j x) s = _
    rw [fldI, fldI, fldI_set x s l j (by omega)]
theorem PT.sty {lv : Nat} {t : Tr} (h : PT lv t) : t.sty = 0 := by
  obtain ⟨k, st, tag, val, an, hh, ln, f, row, col, al, kids, rfl⟩ := t.ex
  rw [PT] at h
  exact h.2.1.1
set_option maxRecDepth 20000 in
set_option maxHeartbeats 4000000 in
theorem rmaybeH (A : View) (t : Tr) (lv : Nat) (l : Value) (hl : Trs A l [t]) (hpt : PT lv t) (hnd : nds t ≤ 400) (hlv : lv ≤ 40) : VCalls Try.prog 48 #[l] A fun r A' => ∃ q, r = .tuple #[ptr0 q, .bool true] ∧ NewR A A' t q := by
  obtain ⟨vb, vc, rfl⟩ := hl.slice
  obtain ⟨bs', cap', f1, hel⟩ := hl
  simp only [Value.slice.injEq, true_and] at f1
  obtain ⟨rfl, rfl⟩ := f1
  obtain ⟨a1, ci, rfl, u1, hci⟩ := hel 0 (by simp)
  rw [show a1.add (0 * 12) = a1 from if_pos rfl] at u1
  have hz := hci.size
  have ho := hci.ones
  refine xcalls Try.func48 rfl (by simp [Try.ntmps48]) ?_
  simp only [Try.f48]
  have hP : Priv A (addrs []) := Priv.nil A
  show xc _ _ _ _ _ _ (ov A [])
  refine xc_two fun N1 hN1 => ?_
  refine xc_reg2 fun K hK => ?_
  simp only [rall, rsl, gres]
  iterate 2 (refine seqX_hide2 fun R hR => ?_; simp [go_sem, hz, ho, bcs hP u1]; refine hR _ _ _ ?_; clear hR R)
  rw [seqX_nil]
  refine hK _ _ _ ?_; clear hK K
  refine hN1 _ _ _ ?_
  refine xc_two fun N2 hN2 => ?_
  refine xc_two fun N3 hN3 => ?_
  refine xc_reg2 fun K hK => ?_
  simp only [rall, rsl, gres]
  iterate 3 (refine seqX_hide2 fun R hR => ?_; simp [go_sem, hz, ho, bcs hP u1]; refine hR _ _ _ ?_; clear hR R)
  rw [seqX_nil]
  refine hK _ _ _ ?_; clear hK K
  refine hN3 _ _ _ ?_
  refine xc_iffalse (by simp [go_sem, hz, ho, bcs hP u1]) ?_
  refine hN2 _ _ _ ?_
  refine xc_two fun N4 hN4 => ?_
  refine xc_reg2 fun K hK => ?_
  simp only [rall, rsl, gres]
  iterate 3 (refine seqX_hide2 fun R hR => ?_; simp [go_sem, hz, ho, bcs hP u1]; refine hR _ _ _ ?_; clear hR R)
  refine seqX_hide2 fun R hR => ?_
  simp [go_sem, hz, ho, bcs hP u1]
  refine call_ov hP (rootedH A t lv ci hci hpt hnd hlv) ?_
  clear hP
  rintro _ A2 ⟨q, rfl, hn⟩ hP
  refine hR _ _ _ ?_; clear hR R
  iterate 5 (refine seqX_hide2 fun R hR => ?_; simp [go_sem, hz, ho]; refine hR _ _ _ ?_; clear hR R)
  rw [seqX_nil]
  refine hK _ _ _ ?_; clear hK K
  refine hN4 _ _ _ ?_
  refine xc_two fun N5 hN5 => ?_
  refine xc_reg2 fun K hK => ?_
  simp only [rall, rsl, gres]
  iterate 9 (refine seqX_hide2 fun R hR => ?_; simp [go_sem, hz, ho]; refine hR _ _ _ ?_; clear hR R)
  rw [seqX_nil]
  refine hK _ _ _ ?_; clear hK K
  refine hN5 _ _ _ ?_
  simp [go_sem, hz, ho]
  exact hn
set_option maxRecDepth 20000 in
set_option maxHeartbeats 400000 in
theorem setFieldP (A : View) (t x : Tr) (lv : Nat) (c : Array Value) (nm : ByteArray) (l : Value) (j : Nat) (hc : IsTr A t c) (hl : Trs A l [x]) (hpt : PT lv t) (hnd : nds t ≤ 400) (hlv : lv ≤ 40) (hptx : PT (lv - 1) x) (hndx : nds x ≤ 400) (hk : t.kind = 4) (ht : t.tag ≠ tNull) (hev : t.kids.length % 2 = 0) (hkk : ∀ y ∈ t.kids, y.kind ≠ 1) (hnm : nm ≠ e0) (hk' : x.kind ≠ 1) (ht' : x.tag ≠ tNull) (ht0 : x.tag ≠ e0) (hwd : x.kind = 8 → x.tag = tStr → Wd x.value) (hj : fldI t.kids nm = some j) :
    VCalls Try.prog 17 #[.agg c, .string nm, l, .bool false, .int .i64 0] A fun r A' => ∃ c1 fv, r = .tuple #[.agg c1, fv, .int .i64 0] ∧ IsTr A' (t.setKid j x) c1 ∧ Trs A' fv [x] ∧ A ≤ A' := by
  have hcz := hc.size
  have hco := hc.ones
  have hw0 : IntKind.u32.wrap 0 = 0 := by decide
  have hw64 : IntKind.i64.wrap 0 = 0 := by decide
  have hcs := conv_st 0
  rw [hw0] at hcs
  obtain ⟨-, hjl, -, -⟩ := fldI_some hj
  have hpts := hpt.setKid hptx j
  have hnds := nds_setKid t j x
  have hsty := (hpt.kid (List.getElem_mem hjl)).sty
  have hkl : t.kids.length ≤ 1000000 := by
    obtain ⟨k, st, tag, val, an, hh, ln, f, row, col, al, kids, rfl⟩ := t.ex
    rw [nds_mk] at hnd
    have := nds_len kids
    show kids.length ≤ _
    omega
  obtain ⟨k, st, tag, val, an, h, ln, f, row, col, al, kids, rfl⟩ := t.ex
  obtain ⟨k', st', tag', val', an', h', l', f', row', col', al', kk, rfl⟩ := x.ex
  obtain rfl : st' = 0 := hptx.sty
  have hk1 : k ≠ 1 := by have : k = 4 := hk; omega
  refine xcallsD Try.func17 rfl (by simp [Try.ntmps17]) ?_
  simp only [Try.f17]
  have hP : Priv A (addrs []) := Priv.nil A
  show xc _ _ _ _ _ _ (ov A [])
  refine xc_two fun N1 hN1 => ?_
  refine xc_reg2 fun K hK => ?_
  simp only [rall, rsl, gres]
  refine seqX_hide2 fun R hR => ?_
  simp [go_sem, hcz, hco, hw64, hw0]
  intro q5 hq5
  replace hP := hP.cons hq5
  clear hq5
  refine hR _ _ _ ?_; clear hR R
  refine seqX_hide2 fun R hR => ?_
  simp [go_sem, hcz, hco, hw64, hw0]
  intro q10 hq10
  replace hP := hP.cons hq10
  clear hq10
  have d105 : q10 ≠ q5 := (hP.ne q5 (by simp [addrs])).1
  have d510 : q5 ≠ q10 := (hP.ne q5 (by simp [addrs])).2
  refine hR _ _ _ ?_; clear hR R
  refine seqX_hide2 fun R hR => ?_
  simp [go_sem, hcz, hco, hw64, hw0, d105, d510]
  intro q11 hq11
  replace hP := hP.cons hq11
  clear hq11
  have d1110 : q11 ≠ q10 := (hP.ne q10 (by simp [addrs])).1
  have d1011 : q10 ≠ q11 := (hP.ne q10 (by simp [addrs])).2
  have d115 : q11 ≠ q5 := (hP.ne q5 (by simp [addrs])).1
  have d511 : q5 ≠ q11 := (hP.ne q5 (by simp [addrs])).2
  refine hR _ _ _ ?_; clear hR R
  refine seqX_hide2 fun R hR => ?_
  simp [go_sem, hcz, hco, hw64, hw0, d105, d510, d1110, d1011, d115, d511]
  intro q12 hq12
  replace hP := hP.cons hq12
  clear hq12
  have d1211 : q12 ≠ q11 := (hP.ne q11 (by simp [addrs])).1
  have d1112 : q11 ≠ q12 := (hP.ne q11 (by simp [addrs])).2
  have d1210 : q12 ≠ q10 := (hP.ne q10 (by simp [addrs])).1
  have d1012 : q10 ≠ q12 := (hP.ne q10 (by simp [addrs])).2
  have d125 : q12 ≠ q5 := (hP.ne q5 (by simp [addrs])).1
  have d512 : q5 ≠ q12 := (hP.ne q5 (by simp [addrs])).2
  refine hR _ _ _ ?_; clear hR R
  rw [seqX_nil]
  refine hK _ _ _ ?_; clear hK K
  refine hN1 _ _ _ ?_
  refine xc_two fun N2 hN2 => ?_
  refine xc_reg2 fun K hK => ?_
  simp only [rall, rsl, gres]
  (refine seqX_hide2 fun R hR => ?_; simp [go_sem, hcz, hco, hw64, hw0, d105, d510, d1110, d1011, d115, d511, d1211, d1112, d1210, d1012, d125, d512]; refine hR _ _ _ ?_; clear hR R)
  refine seqX_hide2 fun R hR => ?_
  simp [go_sem, hcz, hco, hw64, hw0, d105, d510, d1110, d1011, d115, d511, d1211, d1112, d1210, d1012, d125, d512, toDefer]
  refine hR _ _ _ ?_; clear hR R
  rw [seqX_nil]
  refine hK _ _ _ ?_; clear hK K
  refine hN2 _ _ _ ?_
  refine xc_two fun N3 hN3 => ?_
  refine xc_reg2 fun K hK => ?_
  simp only [rall, rsl, gres]
  (refine seqX_hide2 fun R hR => ?_; simp [go_sem, hcz, hco, hw64, hw0, d105, d510, d1110, d1011, d115, d511, d1211, d1112, d1210, d1012, d125, d512]; refine hR _ _ _ ?_; clear hR R)
  refine seqX_hide2 fun R hR => ?_
  simp [go_sem, hcz, hco, hw64, hw0, d105, d510, d1110, d1011, d115, d511, d1211, d1112, d1210, d1012, d125, d512]
  refine call_ov hP (rootedH A _ lv c hc hpt hnd hlv) ?_
  clear hP
  rintro _ A2 ⟨q, rfl, p, H, y1, y2, y3, y4, y5, y6, y7⟩ hP
  refine hR _ _ _ ?_; clear hR R
  iterate 5 (refine seqX_hide2 fun R hR => ?_; simp [go_sem, hcz, hco, hw64, hw0, d105, d510, d1110, d1011, d115, d511, d1211, d1112, d1210, d1012, d125, d512]; refine hR _ _ _ ?_; clear hR R)
  rw [seqX_nil]
  refine hK _ _ _ ?_; clear hK K
  refine hN3 _ _ _ ?_
  refine xc_two fun N4 hN4 => ?_
  refine xc_reg2 fun K hK => ?_
  simp only [rall, rsl, gres]
  (refine seqX_hide2 fun R hR => ?_; simp [go_sem, hcz, hco, hw64, hw0, d105, d510, d1110, d1011, d115, d511, d1211, d1112, d1210, d1012, d125, d512]; refine hR _ _ _ ?_; clear hR R)
  refine seqX_hide2 fun R hR => ?_
  simp [go_sem, hcz, hco, hw64, hw0, d105, d510, d1110, d1011, d115, d511, d1211, d1112, d1210, d1012, d125, d512]
  refine call_ov hP (rmaybeH A2 _ (lv - 1) l (hl.le y4) hptx hndx (by omega)) ?_
  clear hP
  rintro _ A3 ⟨qv, rfl, pv, G, z1, z2, z3, z4, z5, z6, z7⟩ hP
  refine hR _ _ _ ?_; clear hR R
  iterate 5 (refine seqX_hide2 fun R hR => ?_; simp [go_sem, hcz, hco, hw64, hw0, d105, d510, d1110, d1011, d115, d511, d1211, d1112, d1210, d1012, d125, d512]; refine hR _ _ _ ?_; clear hR R)
  rw [seqX_nil]
  refine hK _ _ _ ?_; clear hK K
  refine hN4 _ _ _ ?_
  refine xc_two fun N5 hN5 => ?_
  refine xc_two fun N6 hN6 => ?_
  refine xc_reg2 fun K hK => ?_
  simp only [rall, rsl, gres]
  iterate 6 (refine seqX_hide2 fun R hR => ?_; simp [go_sem, hcz, hco, hw64, hw0, d105, d510, d1110, d1011, d115, d511, d1211, d1112, d1210, d1012, d125, d512]; refine hR _ _ _ ?_; clear hR R)
  rw [seqX_nil]
  refine hK _ _ _ ?_; clear hK K
  refine hN6 _ _ _ ?_
  refine xc_iffalse (by simp [go_sem, hcz, hco, hw64, hw0, d105, d510, d1110, d1011, d115, d511, d1211, d1112, d1210, d1012, d125, d512]) ?_
  refine hN5 _ _ _ ?_
  refine xc_two fun N7 hN7 => ?_
  refine xc_reg2 fun K hK => ?_
  simp only [rall, rsl, gres]
  iterate 6 (refine seqX_hide2 fun R hR => ?_; simp [go_sem, hcz, hco, hw64, hw0, d105, d510, d1110, d1011, d115, d511, d1211, d1112, d1210, d1012, d125, d512]; refine hR _ _ _ ?_; clear hR R)
  refine seqX_hide2 fun R hR => ?_
  simp [go_sem, hcz, hco, hw64, hw0, d105, d510, d1110, d1011, d115, d511, d1211, d1112, d1210, d1012, d125, d512]
  refine hR _ _ _ ?_; clear hR R
  iterate 2 (refine seqX_hide2 fun R hR => ?_; simp [go_sem, hcz, hco, hw64, hw0, d105, d510, d1110, d1011, d115, d511, d1211, d1112, d1210, d1012, d125, d512, hcs]; refine hR _ _ _ ?_; clear hR R)
  refine seqX_hide2 fun R hR => ?_
  simp [go_sem, hcz, hco, hw64, hw0, d105, d510, d1110, d1011, d115, d511, d1211, d1112, d1210, d1012, d125, d512, hcs]
  intro q47 hq47
  replace hP := hP.cons hq47
  clear hq47
  have d4712 : q47 ≠ q12 := (hP.ne q12 (by simp [addrs])).1
  have d1247 : q12 ≠ q47 := (hP.ne q12 (by simp [addrs])).2
  have d4711 : q47 ≠ q11 := (hP.ne q11 (by simp [addrs])).1
  have d1147 : q11 ≠ q47 := (hP.ne q11 (by simp [addrs])).2
  have d4710 : q47 ≠ q10 := (hP.ne q10 (by simp [addrs])).1
  have d1047 : q10 ≠ q47 := (hP.ne q10 (by simp [addrs])).2
  have d475 : q47 ≠ q5 := (hP.ne q5 (by simp [addrs])).1
  have d547 : q5 ≠ q47 := (hP.ne q5 (by simp [addrs])).2
  refine hR _ _ _ ?_; clear hR R
  refine seqX_hide2 fun R hR => ?_
  simp [go_sem, hcz, hco, hw64, hw0, d105, d510, d1110, d1011, d115, d511, d1211, d1112, d1210, d1012, d125, d512, hcs, d4712, d1247, d4711, d1147, d4710, d1047, d475, d547]
  obtain ⟨eq47, hPn, nq47⟩ := sinkI (A := A3) (L := [(q47, .cells #[.iface 75 (.agg #[.string ⟨#[]⟩, .string nm, .string ⟨#[]⟩, .string ⟨#[]⟩, .string ⟨#[]⟩, ptr0 qv, .string ⟨#[]⟩, .bool false, .int .u32 0])] 116 (0, 0)), (q12, .cells #[.int .i64 0] 3 (0, 0)), (q11, .cells #[.slice none 0 0] 22 (0, 0)), (q10, .cells (trc 0 0 ⟨#[]⟩ ⟨#[]⟩ ⟨#[]⟩ ⟨#[]⟩ ⟨#[]⟩ ⟨#[]⟩ 0 0 0 (.slice none 0 0)) 24 (0, 0)), (q5, .cells c 24 (0, 0))]) 0 hP rfl
  rw [eq47]
  clear eq47 hP; have hP := hPn; clear hPn
  simp only [List.eraseIdx_cons_zero, List.eraseIdx_cons_succ, addrs_cons, addrs_nil] at hP ⊢
  have lq : A3 ≤ A3.set q47 (.cells #[.iface 75 (.agg #[.string ⟨#[]⟩, .string nm, .string ⟨#[]⟩, .string ⟨#[]⟩, .string ⟨#[]⟩, ptr0 qv, .string ⟨#[]⟩, .bool false, .int .u32 0])] 116 (0, 0)) := le_set nq47
  have hrow : Row (A3.set q47 (.cells #[.iface 75 (.agg #[.string ⟨#[]⟩, .string nm, .string ⟨#[]⟩, .string ⟨#[]⟩, .string ⟨#[]⟩, ptr0 qv, .string ⟨#[]⟩, .bool false, .int .u32 0])] 116 (0, 0))) 1 (.slice (some ⟨q47, 0, none⟩) 1 1) 1 [.iface 75 (.agg #[.string ⟨#[]⟩, .string nm, .string ⟨#[]⟩, .string ⟨#[]⟩, .string ⟨#[]⟩, ptr0 qv, .string ⟨#[]⟩, .bool false, .int .u32 0])] := .inl ⟨_, 1, rfl, cells_block (set_at _ _ _) rfl⟩
  generalize A3.set q47 (.cells #[.iface 75 (.agg #[.string ⟨#[]⟩, .string nm, .string ⟨#[]⟩, .string ⟨#[]⟩, .string ⟨#[]⟩, ptr0 qv, .string ⟨#[]⟩, .bool false, .int .u32 0])] 116 (0, 0)) = A4 at hP lq hrow ⊢
  have hA24 := View.le_trans z4 lq
  have hH4 := View.le_trans y7 hA24
  have hG4 := View.le_trans z7 lq
  have hGH : Apt G H := z6.le (View.le_refl _) y7
  have hHF : Apt H (vsub (vsub A4 H) G) := (apt_vsub A4 H).symm.le (View.le_refl _) (vsub_le _ _)
  have hGF : Apt G (vsub (vsub A4 H) G) := (apt_vsub _ G).symm
  have hFA : (vsub (vsub A4 H) G) ≤ A4 := View.le_trans (vsub_le _ _) (vsub_le _ _)
  have hGq : G q = none := by
    rcases z6 q with g | g
    · exact g
    · rw [y1] at g; cases g
  have hqF : (vsub (vsub A4 H) G) q = some (.cells (rnc p) 111 (0, 0)) := by
    rw [vsub_at hGq, vsub_at y3]
    exact hA24 _ _ y1
  have hqvF : (vsub (vsub A4 H) G) qv = some (.cells (rnc pv) 111 (0, 0)) := by
    rw [vsub_at z3, vsub_at (none_le y7 z2)]
    exact lq _ _ z1
  have hAF : A ≤ (vsub (vsub A4 H) G) := le_vsub (le_vsub (View.le_trans y4 hA24) y6.symm) (z6.le (View.le_refl _) y4).symm
  obtain ⟨cvp, psp, Hsp, o1, -⟩ := y5.open
  have hfs := fsetP (vsub (vsub A4 H) G) A4 H G q p qv pv k st tag val an h ln f row col al kids k' tag' val' an' h' l' f' row' col' al' kk nm j hqF hqvF y5 hH4 z5 hG4 hFA hHF hGF hGH hk ht hev hkl hkk hnm hk' ht' ht0 hwd hj hjl
  replace hsty : (kids[j]'hjl).sty = 0 := hsty
  rw [hsty] at hfs
  refine call_ov hP (pipe1 A4 q p 75 112 (.agg #[.string ⟨#[]⟩, .string nm, .string ⟨#[]⟩, .string ⟨#[]⟩, .string ⟨#[]⟩, ptr0 qv, .string ⟨#[]⟩, .bool false, .int .u32 0]) (.slice (some ⟨q47, 0, none⟩) 1 1) k st tag val an cvp h ln f row col (hFA _ _ hqF) (hH4 _ _ o1) hk1 meth_fs (by kernel_rfl) hrow (QF (vsub (vsub A4 H) G) (.mk k st tag val an h ln f row col al (kids.set j (.mk k' 0 tag' val' an' h' l' f' row' col' al' kk))) (.mk k' 0 tag' val' an' h' l' f' row' col' al' kk) p) hfs) ?_
  clear hP
  rintro _ A5 ⟨x, rfl, r1, H', rn, r2, r3, r4, r5, r6⟩ hP
  rw [r2]
  have hr1 : IsRn A5 (.mk k st tag val an h ln f row col al (kids.set j (.mk k' 0 tag' val' an' h' l' f' row' col' al' kk))) q := ⟨p, r1 _ _ hqF, IsYn.le r3 _ _ r5.yn⟩
  refine hR _ _ _ ?_; clear hR R
  iterate 5 (refine seqX_hide2 fun R hR => ?_; simp [go_sem, hcz, hco, hw64, hw0, d105, d510, d1110, d1011, d115, d511, d1211, d1112, d1210, d1012, d125, d512, hcs, d4712, d1247, d4711, d1147, d4710, d1047, d475, d547]; refine hR _ _ _ ?_; clear hR R)
  rw [seqX_nil]
  refine hK _ _ _ ?_; clear hK K
  refine hN7 _ _ _ ?_
  refine xc_two fun N8 hN8 => ?_
  refine xc_two fun N9 hN9 => ?_
  refine xc_reg2 fun K hK => ?_
  simp only [rall, rsl, gres]
  iterate 2 (refine seqX_hide2 fun R hR => ?_; simp [go_sem, hcz, hco, hw64, hw0, d105, d510, d1110, d1011, d115, d511, d1211, d1112, d1210, d1012, d125, d512, hcs, d4712, d1247, d4711, d1147, d4710, d1047, d475, d547]; refine hR _ _ _ ?_; clear hR R)
  rw [seqX_nil]
  refine hK _ _ _ ?_; clear hK K
  refine hN9 _ _ _ ?_
  refine xc_iffalse (by simp [go_sem, hcz, hco, hw64, hw0, d105, d510, d1110, d1011, d115, d511, d1211, d1112, d1210, d1012, d125, d512, hcs, d4712, d1247, d4711, d1147, d4710, d1047, d475, d547]) ?_
  refine hN8 _ _ _ ?_
  refine xc_two fun N10 hN10 => ?_
  refine xc_reg2 fun K hK => ?_
  simp only [rall, rsl, gres]
  (refine seqX_hide2 fun R hR => ?_; simp [go_sem, hcz, hco, hw64, hw0, d105, d510, d1110, d1011, d115, d511, d1211, d1112, d1210, d1012, d125, d512, hcs, d4712, d1247, d4711, d1147, d4710, d1047, d475, d547]; refine hR _ _ _ ?_; clear hR R)
  refine seqX_hide2 fun R hR => ?_
  simp [go_sem, hcz, hco, hw64, hw0, d105, d510, d1110, d1011, d115, d511, d1211, d1112, d1210, d1012, d125, d512, hcs, d4712, d1247, d4711, d1147, d4710, d1047, d475, d547]
  refine call_ov hP (treeOf28 A5 _ q hr1 hpts.nt (Nat.le_trans hnds (by omega))) ?_
  clear hP
  rintro _ A6 ⟨c1, rfl, hc1, hA6⟩ hP
  have hcz1 := hc1.size
  have hco1 := hc1.ones
  refine hR _ _ _ ?_; clear hR R
  (refine seqX_hide2 fun R hR => ?_; simp [go_sem, hcz, hco, hw64, hw0, d105, d510, d1110, d1011, d115, d511, d1211, d1112, d1210, d1012, d125, d512, hcs, d4712, d1247, d4711, d1147, d4710, d1047, d475, d547, hcz1, hco1]; refine hR _ _ _ ?_; clear hR R)
  refine seqX_hide2 fun R hR => ?_
  simp [go_sem, hcz, hco, hw64, hw0, d105, d510, d1110, d1011, d115, d511, d1211, d1112, d1210, d1012, d125, d512, hcs, d4712, d1247, d4711, d1147, d4710, d1047, d475, d547, hcz1, hco1]
  refine call_ov hP (foundOf51 A6 _ rn (r6.le hA6) hptx.nt (by omega)) ?_
  clear hP
  rintro fv A7 ⟨hfv, hA7⟩ hP
  obtain ⟨fb, fc, rfl⟩ := hfv.slice
  have hidle : Idle Try.prog { target := .fn (.func 46) #[.pointer (some ⟨q10, 0, none⟩), .pointer (some ⟨q11, 0, none⟩), .pointer (some ⟨q12, 0, none⟩)], args := #[] } := by
    intro w'
    exact ⟨_, _, 46, #[.pointer (some ⟨q10, 0, none⟩), .pointer (some ⟨q11, 0, none⟩), .pointer (some ⟨q12, 0, none⟩)], rfl, by simp [go_sem, invoke], caught46 _ _ _ _⟩
  refine hR _ _ _ ?_; clear hR R
  refine seqX_hide2 fun R hR => ?_
  simp [go_sem, hcz, hco, hw64, hw0, d105, d510, d1110, d1011, d115, d511, d1211, d1112, d1210, d1012, d125, d512, hcs, d4712, d1247, d4711, d1147, d4710, d1047, d475, d547, hcz1, hco1]
  refine hR _ _ _ ?_; clear hR R
  refine seqX_hide2 fun R hR => ?_
  simp [go_sem, hcz, hco, hw64, hw0, d105, d510, d1110, d1011, d115, d511, d1211, d1112, d1210, d1012, d125, d512, hcs, d4712, d1247, d4711, d1147, d4710, d1047, d475, d547, hcz1, hco1]
  refine hR _ _ _ ?_; clear hR R
  refine seqX_hide2 fun R hR => ?_
  simp [go_sem, hcz, hco, hw64, hw0, d105, d510, d1110, d1011, d115, d511, d1211, d1112, d1210, d1012, d125, d512, hcs, d4712, d1247, d4711, d1147, d4710, d1047, d475, d547, hcz1, hco1]
  refine hR _ _ _ ?_; clear hR R
  rw [seqX_nil]
  refine hK _ _ _ ?_; clear hK K
  refine hN10 _ _ _ ?_
  simp [go_sem, hcz, hco, hw64, hw0, d105, d510, d1110, d1011, d115, d511, d1211, d1112, d1210, d1012, d125, d512, hcs, d4712, d1247, d4711, d1147, d4710, d1047, d475, d547, hcz1, hco1]
  refine ⟨hidle, c1, _, ⟨rfl, rfl⟩, hc1.le ?_, hfv.le ?_, View.le_trans hAF (View.le_trans r1 (View.le_trans hA6 (View.le_trans hA7 ?_)))⟩
  · refine View.le_trans hA7 ?_
    exact le_ov hP
  · exact le_ov hP
  · exact le_ov hP
end Go.Proofs.YtpinamipjddobaaV

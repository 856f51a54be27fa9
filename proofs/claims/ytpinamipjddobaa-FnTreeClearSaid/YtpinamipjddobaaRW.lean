/- Trees: law 6 (FnTreeClear). -/
import Derived.Test.YtpinamipjddobaaRV
import Derived.Test.YtpinamipjddobaaRM
namespace Go.Proofs.YtpinamipjddobaaV
open Go.RowKit
set_option linter.unusedSimpArgs false
set_option linter.unusedVariables false
theorem PL.ev2 {t : Tr} {lv : Nat} (h : PL lv t) (hk : t.kind = 4) : t.tag = tMap ∧ t.kids.length % 2 = 0 ∧ ∀ s i j, PlcAt t.kids s i → PlcAt t.kids s j → i = j := by
  obtain ⟨k, st, tag, val, an, hh, l, f, row, col, al, kids, rfl⟩ := t.ex
  rw [PL] at h
  replace hk : k = 4 := hk
  obtain ⟨-, -, h, -⟩ := h
  rcases h with h | h | h
  · omega
  · omega
  · refine ⟨h.2.1, h.2.2.2.1, fun s i j hi hj => ?_⟩
    obtain ⟨-, ht, -, -, -, hu⟩ := h
    obtain ⟨i1, i2, i3⟩ := hi
    obtain ⟨j1, j2, j3⟩ := hj
    replace i1 : i + 1 < kids.length := i1
    replace j1 : j + 1 < kids.length := j1
    rcases Nat.lt_trichotomy i j with h | h | h
    · exact absurd (i3.trans j3.symm) (hu j i (by omega) h j2 i2)
    · exact h
    · exact absurd (j3.trans i3.symm) (hu i j (by omega) h i2 j2)
theorem Hit.plc {kids : List Tr} {nm : ByteArray} {ie : Bool} {i : Nat} (h : Hit kids nm ie i) : PlcAt kids nm i := ⟨h.1, h.2.1, h.2.2.1⟩
theorem nds_kl (t : Tr) : t.kids.length ≤ nds t := by
  obtain ⟨k, st, tag, val, an, hh, l, f, row, col, al, kids, rfl⟩ := t.ex
  rw [nds_mk]
  have := nds_len kids
  show kids.length ≤ _
  omega
set_option maxRecDepth 20000 in
set_option maxHeartbeats 400000 in
theorem clear6 (A : View) (c : Array Value) (t : Tr) (nm : ByteArray) (ie : Bool) (hh : (IsTr A t c ∧ SB t) ∧ ∀ bs m cap, c.toList[11]? = some (.slice bs m cap) → m ≤ cap) : VCalls Try.prog 6 #[.agg c, .string nm, .bool ie] A fun r A' => r = .bool true ∧ A ≤ A' := by
  obtain ⟨⟨hc, hsb⟩, hcap⟩ := hh
  have hcz := hc.size
  have hco := hc.ones
  refine xcalls Try.func6 rfl (by simp [Try.ntmps6]) ?_
  simp only [Try.f6]
  have hP : Priv A (addrs []) := Priv.nil A
  show xc _ _ _ _ _ _ (ov A [])
  refine xc_two fun N1 hN1 => ?_
  refine xc_reg1 2 rfl fun K hK => ?_
  simp only [show (List.range 2).map (·, true) = [(0, true), (1, true)] from rfl, rslv_cons, rslv_nil, List.getElem?_toArray, List.getElem?_cons_zero, List.getElem?_cons_succ, gres]
  refine seqX_hide2 fun R hR => ?_
  simp [go_sem, hcz, hco]
  intro q3 hq3
  replace hP := hP.cons hq3
  clear hq3
  refine hR _ _ _ ?_; clear hR R
  (refine seqX_hide2 fun R hR => ?_; simp [go_sem, hcz, hco]; refine hR _ _ _ ?_; clear hR R)
  rw [seqX_nil]
  refine hK _ _ _ ?_; clear hK K
  refine hN1 _ _ _ ?_
  refine xc_two fun N2 hN2 => ?_
  refine xc_two fun N3 hN3 => ?_
  refine xc_reg1 8 rfl fun K hK => ?_
  simp only [show (List.range 8).map (·, true) = [(0, true), (1, true), (2, true), (3, true), (4, true), (5, true), (6, true), (7, true)] from rfl, rslv_cons, rslv_nil, List.getElem?_toArray, List.getElem?_cons_zero, List.getElem?_cons_succ, gres]
  (refine seqX_hide2 fun R hR => ?_; simp [go_sem, hcz, hco]; refine hR _ _ _ ?_; clear hR R)
  refine seqX_hide2 fun R hR => ?_
  simp [go_sem, hcz, hco]
  refine call_ov hP (fits8 A t c hc) ?_
  clear hP
  rintro _ A1 ⟨⟨b, rfl, -⟩, hA1⟩ hP
  cases b with
  | false =>
    refine hR _ _ _ ?_; clear hR R
    iterate 6 (refine seqX_hide2 fun R hR => ?_; simp [go_sem, hcz, hco]; refine hR _ _ _ ?_; clear hR R)
    rw [seqX_nil]
    refine hK _ _ _ ?_; clear hK K
    refine hN3 _ _ _ ?_
    refine xc_iftrue (by simp [go_sem, hcz, hco]) ?_
    refine xc_two fun N4 hN4 => ?_
    refine xc_reg1 1 rfl fun K hK => ?_
    simp only [show (List.range 1).map (·, true) = [(0, true)] from rfl, rslv_cons, rslv_nil, List.getElem?_toArray, List.getElem?_cons_zero, List.getElem?_cons_succ, gres]
    (refine seqX_hide2 fun R hR => ?_; simp [go_sem, hcz, hco]; refine hR _ _ _ ?_; clear hR R)
    rw [seqX_nil]
    refine hK _ _ _ ?_; clear hK K
    refine hN4 _ _ _ ?_
    simp [go_sem, hcz, hco]
    exact View.le_trans hA1 (le_ov hP)
  | true =>
  by_cases h1 : nm.size ≤ 2147483647
  rotate_left
  · have z1 : (2147483647 : Int) < nm.size := by omega
    refine hR _ _ _ ?_; clear hR R
    iterate 6 (refine seqX_hide2 fun R hR => ?_; simp [go_sem, hcz, hco, z1]; refine hR _ _ _ ?_; clear hR R)
    rw [seqX_nil]
    refine hK _ _ _ ?_; clear hK K
    refine hN3 _ _ _ ?_
    refine xc_iftrue (by simp [go_sem, hcz, hco, z1]) ?_
    refine xc_two fun N4 hN4 => ?_
    refine xc_reg1 1 rfl fun K hK => ?_
    simp only [show (List.range 1).map (·, true) = [(0, true)] from rfl, rslv_cons, rslv_nil, List.getElem?_toArray, List.getElem?_cons_zero, List.getElem?_cons_succ, gres]
    (refine seqX_hide2 fun R hR => ?_; simp [go_sem, hcz, hco, z1]; refine hR _ _ _ ?_; clear hR R)
    rw [seqX_nil]
    refine hK _ _ _ ?_; clear hK K
    refine hN4 _ _ _ ?_
    simp [go_sem, hcz, hco, z1]
    exact View.le_trans hA1 (le_ov hP)
  have z1 : ¬ (2147483647 : Int) < nm.size := by omega
  refine hR _ _ _ ?_; clear hR R
  iterate 6 (refine seqX_hide2 fun R hR => ?_; simp [go_sem, hcz, hco, z1]; refine hR _ _ _ ?_; clear hR R)
  rw [seqX_nil]
  refine hK _ _ _ ?_; clear hK K
  refine hN3 _ _ _ ?_
  refine xc_iffalse (by simp [go_sem, hcz, hco, z1]) ?_
  refine hN2 _ _ _ ?_
  refine xc_two fun N4 hN4 => ?_
  refine xc_two fun N5 hN5 => ?_
  refine xc_reg1 8 rfl fun K hK => ?_
  simp only [show (List.range 8).map (·, true) = [(0, true), (1, true), (2, true), (3, true), (4, true), (5, true), (6, true), (7, true)] from rfl, rslv_cons, rslv_nil, List.getElem?_toArray, List.getElem?_cons_zero, List.getElem?_cons_succ, gres]
  (refine seqX_hide2 fun R hR => ?_; simp [go_sem, hcz, hco, z1]; refine hR _ _ _ ?_; clear hR R)
  refine seqX_hide2 fun R hR => ?_
  simp [go_sem, hcz, hco, z1]
  refine call_ov hP (tfIs13 A1 t c 4 (hc.le hA1) hsb) ?_
  clear hP
  rintro _ A2 ⟨⟨b, rfl, hb⟩, hA2⟩ hP
  have hA := View.le_trans hA1 hA2
  cases b with
  | false =>
    refine hR _ _ _ ?_; clear hR R
    iterate 3 (refine seqX_hide2 fun R hR => ?_; simp [go_sem, hcz, hco, z1]; refine hR _ _ _ ?_; clear hR R)
    refine seqX_hide2 fun R hR => ?_
    simp [go_sem, hcz, hco, z1]
    refine hR _ _ _ ?_; clear hR R
    iterate 2 (refine seqX_hide2 fun R hR => ?_; simp [go_sem, hcz, hco, z1]; refine hR _ _ _ ?_; clear hR R)
    rw [seqX_nil]
    refine hK _ _ _ ?_; clear hK K
    refine hN5 _ _ _ ?_
    refine xc_iftrue (by simp [go_sem, hcz, hco, z1]) ?_
    refine xc_two fun N6 hN6 => ?_
    refine xc_reg1 1 rfl fun K hK => ?_
    simp only [show (List.range 1).map (·, true) = [(0, true)] from rfl, rslv_cons, rslv_nil, List.getElem?_toArray, List.getElem?_cons_zero, List.getElem?_cons_succ, gres]
    (refine seqX_hide2 fun R hR => ?_; simp [go_sem, hcz, hco, z1]; refine hR _ _ _ ?_; clear hR R)
    rw [seqX_nil]
    refine hK _ _ _ ?_; clear hK K
    refine hN6 _ _ _ ?_
    simp [go_sem, hcz, hco, z1]
    exact View.le_trans hA (le_ov hP)
  | true =>
  obtain ⟨hk, hpl, hnd⟩ := hb rfl
  refine hR _ _ _ ?_; clear hR R
  iterate 3 (refine seqX_hide2 fun R hR => ?_; simp [go_sem, hcz, hco, z1]; refine hR _ _ _ ?_; clear hR R)
  refine seqX_hide2 fun R hR => ?_
  simp [go_sem, hcz, hco, z1]
  refine call_same hP (word6 A2 nm (by omega)) ?_
  rintro _ ⟨b, rfl, hbn⟩
  cases b with
  | false =>
    refine hR _ _ _ ?_; clear hR R
    iterate 2 (refine seqX_hide2 fun R hR => ?_; simp [go_sem, hcz, hco, z1]; refine hR _ _ _ ?_; clear hR R)
    rw [seqX_nil]
    refine hK _ _ _ ?_; clear hK K
    refine hN5 _ _ _ ?_
    refine xc_iftrue (by simp [go_sem, hcz, hco, z1]) ?_
    refine xc_two fun N6 hN6 => ?_
    refine xc_reg1 1 rfl fun K hK => ?_
    simp only [show (List.range 1).map (·, true) = [(0, true)] from rfl, rslv_cons, rslv_nil, List.getElem?_toArray, List.getElem?_cons_zero, List.getElem?_cons_succ, gres]
    (refine seqX_hide2 fun R hR => ?_; simp [go_sem, hcz, hco, z1]; refine hR _ _ _ ?_; clear hR R)
    rw [seqX_nil]
    refine hK _ _ _ ?_; clear hK K
    refine hN6 _ _ _ ?_
    simp [go_sem, hcz, hco, z1]
    exact View.le_trans hA (le_ov hP)
  | true =>
  obtain ⟨htag, hev, huq⟩ := hpl.ev2 hk
  have hkl : t.kids.length ≤ 1000000 := by have := nds_kl t; omega
  have hkk : ∀ x ∈ t.kids, x.kids.length ≤ 1000000 := fun x hx => by
    have h1 := nds_kl x
    have h2 := nds_kid' hx
    omega
  refine hR _ _ _ ?_; clear hR R
  iterate 2 (refine seqX_hide2 fun R hR => ?_; simp [go_sem, hcz, hco, z1]; refine hR _ _ _ ?_; clear hR R)
  rw [seqX_nil]
  refine hK _ _ _ ?_; clear hK K
  refine hN5 _ _ _ ?_
  refine xc_iffalse (by simp [go_sem, hcz, hco, z1]) ?_
  refine hN4 _ _ _ ?_
  refine xc_two fun N6 hN6 => ?_
  refine xc_reg1 12 rfl fun K hK => ?_
  simp only [show (List.range 12).map (·, true) = [(0, true), (1, true), (2, true), (3, true), (4, true), (5, true), (6, true), (7, true), (8, true), (9, true), (10, true), (11, true)] from rfl, rslv_cons, rslv_nil, List.getElem?_toArray, List.getElem?_cons_zero, List.getElem?_cons_succ, gres]
  iterate 3 (refine seqX_hide2 fun R hR => ?_; simp [go_sem, hcz, hco, z1]; refine hR _ _ _ ?_; clear hR R)
  refine seqX_hide2 fun R hR => ?_
  simp [go_sem, hcz, hco, z1]
  refine call_ov hP (clearField29 A2 t 12 c nm ie (hc.le hA) hpl.pt (by omega) (by omega) hk (by rw [htag]; decide) hev hkl hkk) ?_
  clear hP
  rintro _ A5 ⟨c1, fv, rfl, hcr, hA5⟩ hP
  have hA := View.le_trans hA hA5
  have hcz1 : c1.size = 12 := by
    rcases hcr with ⟨-, g, -⟩ | ⟨i, hi, -, -, g, -⟩
    · exact g.size
    · exact g.size
  have hco1 : ones c1 = true := by
    rcases hcr with ⟨-, g, -⟩ | ⟨i, hi, -, -, g, -⟩
    · exact g.ones
    · exact g.ones
  obtain ⟨fb, fn, fc, rfl⟩ : ∃ fb fn fc, fv = .slice fb fn fc := by
    rcases hcr with ⟨-, -, g⟩ | ⟨i, hi, -, -, -, g⟩
    · obtain ⟨b, c, e⟩ := g.slice; exact ⟨_, _, _, e⟩
    · obtain ⟨b, c, e⟩ := g.slice; exact ⟨_, _, _, e⟩
  refine hR _ _ _ ?_; clear hR R
  iterate 4 (refine seqX_hide2 fun R hR => ?_; simp [go_sem, hcz, hco, z1, hcz1, hco1]; refine hR _ _ _ ?_; clear hR R)
  refine seqX_hide2 fun R hR => ?_
  simp [go_sem, hcz, hco, z1, hcz1, hco1]
  intro q7 hq7
  replace hP := hP.cons hq7
  clear hq7
  have d73 : q7 ≠ q3 := (hP.ne q3 (by simp [addrs])).1
  have d37 : q3 ≠ q7 := (hP.ne q3 (by simp [addrs])).2
  refine hR _ _ _ ?_; clear hR R
  refine seqX_hide2 fun R hR => ?_
  simp [go_sem, hcz, hco, z1, hcz1, hco1, d73, d37]
  refine hR _ _ _ ?_; clear hR R
  iterate 2 (refine seqX_hide2 fun R hR => ?_; simp [go_sem, hcz, hco, z1, hcz1, hco1, d73, d37]; refine hR _ _ _ ?_; clear hR R)
  rw [seqX_nil]
  refine hK _ _ _ ?_; clear hK K
  refine hN6 _ _ _ ?_
  refine xc_two fun N7 hN7 => ?_
  rw [xc_draws]
  refine vdrawK [(0, true), (1, true), (2, true), (3, true), (4, false), (5, true), (6, false), (7, true), (8, false), (9, true)] (ov A5 [(q7, .cells c1 24 (0, 0)), (q3, .cells c 24 (0, 0))]) mixed (by kernel_rfl) (View.le_refl _) fun K hK => ?_
  simp only [rslv_cons, rslv_nil, List.getElem?_toArray, List.getElem?_cons_zero, List.getElem?_cons_succ, gres]
  iterate 2 (refine seqR_hide fun R hR => ?_; simp [go_sem, hcz, hco, z1, hcz1, hco1, d73, d37]; refine hR _ _ _ ?_; clear hR R)
  refine seqR_hide fun R hR => ?_
  simp [go_sem, hcz, hco, z1, hcz1, hco1, d73, d37]
  refine call_ov hP (fieldLess30 A5 t c nm (hc.le hA) hk hkl hcap) ?_
  clear hP
  rintro _ A6 ⟨cl, rfl, hls, hA6⟩ hP
  have hczl : cl.size = 12 := by
    rcases hls with ⟨-, -, g⟩ | ⟨i, hi, -, -, g⟩
    · exact g.size
    · exact g.size
  have hcol : ones cl = true := by
    rcases hls with ⟨-, -, g⟩ | ⟨i, hi, -, -, g⟩
    · exact g.ones
    · exact g.ones
  refine ⟨ov_mono hA6, hR _ _ _ ?_⟩; clear hR R
  (refine seqR_hide fun R hR => ?_; simp [go_sem, hcz, hco, z1, hcz1, hco1, d73, d37, hczl, hcol]; refine hR _ _ _ ?_; clear hR R)
  refine seqR_hide fun R hR => ?_
  simp [go_sem, hcz, hco, z1, hcz1, hco1, d73, d37, hczl, hcol]
  refine call_ov hP (one11 A6 t c (hc.le (View.le_trans hA hA6))) ?_
  clear hP
  rintro v1 A7 ⟨hv1, hA7⟩ hP
  refine hR _ _ _ ?_; clear hR R
  (refine seqR_hide fun R hR => ?_; simp [go_sem, hcz, hco, z1, hcz1, hco1, d73, d37, hczl, hcol]; refine hR _ _ _ ?_; clear hR R)
  refine seqR_hide fun R hR => ?_
  simp [go_sem, hcz, hco, z1, hcz1, hco1, d73, d37, hczl, hcol]
  refine call_ov hP (field10 A7 [t] v1 nm hv1 (by simp) (fun x hx => by rw [List.mem_singleton] at hx; subst hx; omega)) ?_
  clear hP
  rintro v7 A8 ⟨hv7, hA8⟩ hP
  have hA68 := View.le_trans hA7 hA8
  have hA58 := View.le_trans hA6 hA68
  rw [ffl_one, show fldOf t nm = fld t.kids nm from if_pos hk] at hv7
  rcases hls with ⟨hf, hno, hcl⟩ | ⟨i, hi, hpi, hf, hcl⟩
  · rw [hf] at hv7
    obtain ⟨hc1, hfv⟩ : IsTr A5 t c1 ∧ Trs A5 (.slice fb fn fc) [] := by
      rcases hcr with ⟨-, g1, g2⟩ | ⟨j, hj, hh, -, -, -⟩
      · exact ⟨g1, g2⟩
      · exact absurd hh.plc (hno j)
    obtain ⟨wb, wc, rfl⟩ := hv7.slice
    cases ie with
    | false =>
      refine hR _ _ _ ?_; clear hR R
      refine seqR_hide fun R hR => ?_
      simp [go_sem, hcz, hco, z1, hcz1, hco1, d73, d37, hczl, hcol]
      intro q10 hq10
      replace hP := hP.cons hq10
      clear hq10
      have d107 : q10 ≠ q7 := (hP.ne q7 (by simp [addrs])).1
      have d710 : q7 ≠ q10 := (hP.ne q7 (by simp [addrs])).2
      have d103 : q10 ≠ q3 := (hP.ne q3 (by simp [addrs])).1
      have d310 : q3 ≠ q10 := (hP.ne q3 (by simp [addrs])).2
      refine hR _ _ _ ?_; clear hR R
      refine seqR_hide fun R hR => ?_
      simp [go_sem, hcz, hco, z1, hcz1, hco1, d73, d37, hczl, hcol, d107, d710, d103, d310]
      refine hR _ _ _ ?_; clear hR R
      (refine seqR_hide fun R hR => ?_; simp [go_sem, hcz, hco, z1, hcz1, hco1, d73, d37, hczl, hcol, d107, d710, d103, d310]; refine hR _ _ _ ?_; clear hR R)
      rw [seqR_nil]
      refine hK _ _ _ ?_; clear hK K
      refine hN7 _ _ _ ?_
      refine xc_two fun N8 hN8 => ?_
      refine xc_two fun N9 hN9 => ?_
      refine xc_reg1 14 rfl fun K hK => ?_
      simp only [show (List.range 14).map (·, true) = [(0, true), (1, true), (2, true), (3, true), (4, true), (5, true), (6, true), (7, true), (8, true), (9, true), (10, true), (11, true), (12, true), (13, true)] from rfl, rslv_cons, rslv_nil, List.getElem?_toArray, List.getElem?_cons_zero, List.getElem?_cons_succ, gres]
      iterate 14 (refine seqX_hide2 fun R hR => ?_; simp [go_sem, hcz, hco, z1, hcz1, hco1, d73, d37, hczl, hcol, d107, d710, d103, d310]; refine hR _ _ _ ?_; clear hR R)
      rw [seqX_nil]
      refine hK _ _ _ ?_; clear hK K
      refine hN9 _ _ _ ?_
      refine xc_iffalse (by simp [go_sem, hcz, hco, z1, hcz1, hco1, d73, d37, hczl, hcol, d107, d710, d103, d310]) ?_
      refine hN8 _ _ _ ?_
      refine xc_two fun N10 hN10 => ?_
      refine xc_reg1 16 rfl fun K hK => ?_
      simp only [show (List.range 16).map (·, true) = [(0, true), (1, true), (2, true), (3, true), (4, true), (5, true), (6, true), (7, true), (8, true), (9, true), (10, true), (11, true), (12, true), (13, true), (14, true), (15, true)] from rfl, rslv_cons, rslv_nil, List.getElem?_toArray, List.getElem?_cons_zero, List.getElem?_cons_succ, gres]
      iterate 5 (refine seqX_hide2 fun R hR => ?_; simp [go_sem, hcz, hco, z1, hcz1, hco1, d73, d37, hczl, hcol, d107, d710, d103, d310]; refine hR _ _ _ ?_; clear hR R)
      refine seqX_hide2 fun R hR => ?_
      simp [go_sem, hcz, hco, z1, hcz1, hco1, d73, d37, hczl, hcol, d107, d710, d103, d310]
      refine call_ov hP (same14 t A8 t c1 cl (hc1.le hA58) (hcl.le hA68) (Same.refl _) (by have := hnd; omega)) ?_
      clear hP
      rintro _ A9 ⟨rfl, hA9⟩ hP
      refine hR _ _ _ ?_; clear hR R
      iterate 4 (refine seqX_hide2 fun R hR => ?_; simp [go_sem, hcz, hco, z1, hcz1, hco1, d73, d37, hczl, hcol, d107, d710, d103, d310]; refine hR _ _ _ ?_; clear hR R)
      refine seqX_hide2 fun R hR => ?_
      simp [go_sem, hcz, hco, z1, hcz1, hco1, d73, d37, hczl, hcol, d107, d710, d103, d310]
      refine call_ov hP (sames27 A9 _ _ [] ((hfv.le hA58).le hA9) (hv7.le hA9) (by simp) (fun x hx => by cases hx)) ?_
      clear hP
      rintro _ B1 ⟨rfl, hB1⟩ hP
      refine hR _ _ _ ?_; clear hR R
      iterate 2 (refine seqX_hide2 fun R hR => ?_; simp [go_sem, hcz, hco, z1, hcz1, hco1, d73, d37, hczl, hcol, d107, d710, d103, d310]; refine hR _ _ _ ?_; clear hR R)
      refine seqX_hide2 fun R hR => ?_
      simp [go_sem, hcz, hco, z1, hcz1, hco1, d73, d37, hczl, hcol, d107, d710, d103, d310]
      refine call_ov hP (lives28 B1) ?_
      clear hP
      rintro _ B2 ⟨rfl, hB2⟩ hP
      refine hR _ _ _ ?_; clear hR R
      iterate 2 (refine seqX_hide2 fun R hR => ?_; simp [go_sem, hcz, hco, z1, hcz1, hco1, d73, d37, hczl, hcol, d107, d710, d103, d310]; refine hR _ _ _ ?_; clear hR R)
      rw [seqX_nil]
      refine hK _ _ _ ?_; clear hK K
      refine hN10 _ _ _ ?_
      simp [go_sem, hcz, hco, z1, hcz1, hco1, d73, d37, hczl, hcol, d107, d710, d103, d310]
      exact View.le_trans hA (View.le_trans hA58 (View.le_trans hA9 (View.le_trans hB1 (View.le_trans hB2 (le_ov hP)))))
    | true =>
      refine hR _ _ _ ?_; clear hR R
      refine seqR_hide fun R hR => ?_
      simp [go_sem, hcz, hco, z1, hcz1, hco1, d73, d37, hczl, hcol]
      intro q10 hq10
      replace hP := hP.cons hq10
      clear hq10
      have d107 : q10 ≠ q7 := (hP.ne q7 (by simp [addrs])).1
      have d710 : q7 ≠ q10 := (hP.ne q7 (by simp [addrs])).2
      have d103 : q10 ≠ q3 := (hP.ne q3 (by simp [addrs])).1
      have d310 : q3 ≠ q10 := (hP.ne q3 (by simp [addrs])).2
      refine hR _ _ _ ?_; clear hR R
      refine seqR_hide fun R hR => ?_
      simp [go_sem, hcz, hco, z1, hcz1, hco1, d73, d37, hczl, hcol, d107, d710, d103, d310]
      refine hR _ _ _ ?_; clear hR R
      (refine seqR_hide fun R hR => ?_; simp [go_sem, hcz, hco, z1, hcz1, hco1, d73, d37, hczl, hcol, d107, d710, d103, d310]; refine hR _ _ _ ?_; clear hR R)
      rw [seqR_nil]
      refine hK _ _ _ ?_; clear hK K
      refine hN7 _ _ _ ?_
      refine xc_two fun N8 hN8 => ?_
      refine xc_two fun N9 hN9 => ?_
      refine xc_reg1 14 rfl fun K hK => ?_
      simp only [show (List.range 14).map (·, true) = [(0, true), (1, true), (2, true), (3, true), (4, true), (5, true), (6, true), (7, true), (8, true), (9, true), (10, true), (11, true), (12, true), (13, true)] from rfl, rslv_cons, rslv_nil, List.getElem?_toArray, List.getElem?_cons_zero, List.getElem?_cons_succ, gres]
      iterate 14 (refine seqX_hide2 fun R hR => ?_; simp [go_sem, hcz, hco, z1, hcz1, hco1, d73, d37, hczl, hcol, d107, d710, d103, d310]; refine hR _ _ _ ?_; clear hR R)
      rw [seqX_nil]
      refine hK _ _ _ ?_; clear hK K
      refine hN9 _ _ _ ?_
      refine xc_iffalse (by simp [go_sem, hcz, hco, z1, hcz1, hco1, d73, d37, hczl, hcol, d107, d710, d103, d310]) ?_
      refine hN8 _ _ _ ?_
      refine xc_two fun N10 hN10 => ?_
      refine xc_reg1 16 rfl fun K hK => ?_
      simp only [show (List.range 16).map (·, true) = [(0, true), (1, true), (2, true), (3, true), (4, true), (5, true), (6, true), (7, true), (8, true), (9, true), (10, true), (11, true), (12, true), (13, true), (14, true), (15, true)] from rfl, rslv_cons, rslv_nil, List.getElem?_toArray, List.getElem?_cons_zero, List.getElem?_cons_succ, gres]
      iterate 5 (refine seqX_hide2 fun R hR => ?_; simp [go_sem, hcz, hco, z1, hcz1, hco1, d73, d37, hczl, hcol, d107, d710, d103, d310]; refine hR _ _ _ ?_; clear hR R)
      refine seqX_hide2 fun R hR => ?_
      simp [go_sem, hcz, hco, z1, hcz1, hco1, d73, d37, hczl, hcol, d107, d710, d103, d310]
      refine call_ov hP (same14 t A8 t c1 cl (hc1.le hA58) (hcl.le hA68) (Same.refl _) (by have := hnd; omega)) ?_
      clear hP
      rintro _ A9 ⟨rfl, hA9⟩ hP
      refine hR _ _ _ ?_; clear hR R
      iterate 4 (refine seqX_hide2 fun R hR => ?_; simp [go_sem, hcz, hco, z1, hcz1, hco1, d73, d37, hczl, hcol, d107, d710, d103, d310]; refine hR _ _ _ ?_; clear hR R)
      refine seqX_hide2 fun R hR => ?_
      simp [go_sem, hcz, hco, z1, hcz1, hco1, d73, d37, hczl, hcol, d107, d710, d103, d310]
      refine call_ov hP (sames27 A9 _ _ [] ((hfv.le hA58).le hA9) (hv7.le hA9) (by simp) (fun x hx => by cases hx)) ?_
      clear hP
      rintro _ B1 ⟨rfl, hB1⟩ hP
      refine hR _ _ _ ?_; clear hR R
      iterate 2 (refine seqX_hide2 fun R hR => ?_; simp [go_sem, hcz, hco, z1, hcz1, hco1, d73, d37, hczl, hcol, d107, d710, d103, d310]; refine hR _ _ _ ?_; clear hR R)
      refine seqX_hide2 fun R hR => ?_
      simp [go_sem, hcz, hco, z1, hcz1, hco1, d73, d37, hczl, hcol, d107, d710, d103, d310]
      refine call_ov hP (lives28 B1) ?_
      clear hP
      rintro _ B2 ⟨rfl, hB2⟩ hP
      refine hR _ _ _ ?_; clear hR R
      iterate 2 (refine seqX_hide2 fun R hR => ?_; simp [go_sem, hcz, hco, z1, hcz1, hco1, d73, d37, hczl, hcol, d107, d710, d103, d310]; refine hR _ _ _ ?_; clear hR R)
      rw [seqX_nil]
      refine hK _ _ _ ?_; clear hK K
      refine hN10 _ _ _ ?_
      simp [go_sem, hcz, hco, z1, hcz1, hco1, d73, d37, hczl, hcol, d107, d710, d103, d310]
      exact View.le_trans hA (View.le_trans hA58 (View.le_trans hA9 (View.le_trans hB1 (View.le_trans hB2 (le_ov hP)))))
  rw [hf] at hv7
  have hv70 : Trs A8 v7 [t.kids[i + 1]] := hv7
  obtain ⟨bs', cap', f1, hel2⟩ := hv7
  subst f1
  obtain ⟨a2, c2, rfl, w2, hc2⟩ := hel2 0 (by simp)
  rw [show a2.add (0 * 12) = a2 from if_pos rfl] at w2
  obtain ⟨k', st', tag', val', an', h', ln', f', row', col', al', kk', hkx⟩ := (t.kids[i + 1]).ex
  obtain ⟨bb, bc0, hc21, -⟩ := (hkx ▸ hc2 : IsTr A8 (.mk k' st' tag' val' an' h' ln' f' row' col' al' kk') c2).open
  have vk := cell_in w2 (j := 11) (by decide) (by decide) (show c2[11]? = some (.slice bb kk'.length bc0) by rw [hc21]; rfl)
  have hndl := nds_less t i
  have hndx : nds t.kids[i + 1] ≤ 1000000 := by have := nds_kid' (List.getElem_mem hi); omega
  have hkx2 : (t.kids[i + 1]).kids = kk' := by rw [hkx]; rfl
  cases ie with
  | false =>
    obtain ⟨hc1, hfv⟩ : IsTr A5 (t.less i) c1 ∧ Trs A5 (.slice fb fn fc) [t.kids[i + 1]] := by
      rcases hcr with ⟨g0, -, -⟩ | ⟨j, hj, hh, -, g1, g2⟩
      · exact absurd ⟨hpi.1, hpi.2.1, hpi.2.2, fun e => by cases e.1⟩ (g0 i)
      · obtain rfl := huq nm j i hh.plc hpi
        exact ⟨g1, g2⟩
    refine hR _ _ _ ?_; clear hR R
    refine seqR_hide fun R hR => ?_
    simp [go_sem, hcz, hco, z1, hcz1, hco1, d73, d37, hczl, hcol]
    intro q10 hq10
    replace hP := hP.cons hq10
    clear hq10
    have d107 : q10 ≠ q7 := (hP.ne q7 (by simp [addrs])).1
    have d710 : q7 ≠ q10 := (hP.ne q7 (by simp [addrs])).2
    have d103 : q10 ≠ q3 := (hP.ne q3 (by simp [addrs])).1
    have d310 : q3 ≠ q10 := (hP.ne q3 (by simp [addrs])).2
    refine hR _ _ _ ?_; clear hR R
    refine seqR_hide fun R hR => ?_
    simp [go_sem, hcz, hco, z1, hcz1, hco1, d73, d37, hczl, hcol, d107, d710, d103, d310]
    refine hR _ _ _ ?_; clear hR R
    (refine seqR_hide fun R hR => ?_; simp [go_sem, hcz, hco, z1, hcz1, hco1, d73, d37, hczl, hcol, d107, d710, d103, d310]; refine hR _ _ _ ?_; clear hR R)
    rw [seqR_nil]
    refine hK _ _ _ ?_; clear hK K
    refine hN7 _ _ _ ?_
    refine xc_two fun N8 hN8 => ?_
    refine xc_two fun N9 hN9 => ?_
    refine xc_reg1 14 rfl fun K hK => ?_
    simp only [show (List.range 14).map (·, true) = [(0, true), (1, true), (2, true), (3, true), (4, true), (5, true), (6, true), (7, true), (8, true), (9, true), (10, true), (11, true), (12, true), (13, true)] from rfl, rslv_cons, rslv_nil, List.getElem?_toArray, List.getElem?_cons_zero, List.getElem?_cons_succ, gres]
    iterate 14 (refine seqX_hide2 fun R hR => ?_; simp [go_sem, hcz, hco, z1, hcz1, hco1, d73, d37, hczl, hcol, d107, d710, d103, d310]; refine hR _ _ _ ?_; clear hR R)
    rw [seqX_nil]
    refine hK _ _ _ ?_; clear hK K
    refine hN9 _ _ _ ?_
    refine xc_iffalse (by simp [go_sem, hcz, hco, z1, hcz1, hco1, d73, d37, hczl, hcol, d107, d710, d103, d310]) ?_
    refine hN8 _ _ _ ?_
    refine xc_two fun N10 hN10 => ?_
    refine xc_reg1 16 rfl fun K hK => ?_
    simp only [show (List.range 16).map (·, true) = [(0, true), (1, true), (2, true), (3, true), (4, true), (5, true), (6, true), (7, true), (8, true), (9, true), (10, true), (11, true), (12, true), (13, true), (14, true), (15, true)] from rfl, rslv_cons, rslv_nil, List.getElem?_toArray, List.getElem?_cons_zero, List.getElem?_cons_succ, gres]
    iterate 5 (refine seqX_hide2 fun R hR => ?_; simp [go_sem, hcz, hco, z1, hcz1, hco1, d73, d37, hczl, hcol, d107, d710, d103, d310]; refine hR _ _ _ ?_; clear hR R)
    refine seqX_hide2 fun R hR => ?_
    simp [go_sem, hcz, hco, z1, hcz1, hco1, d73, d37, hczl, hcol, d107, d710, d103, d310]
    refine call_ov hP (same14 (t.less i) A8 (t.less i) c1 cl (hc1.le hA58) (hcl.le hA68) (Same.refl _) (by have := hndl; omega)) ?_
    clear hP
    rintro _ A9 ⟨rfl, hA9⟩ hP
    refine hR _ _ _ ?_; clear hR R
    iterate 4 (refine seqX_hide2 fun R hR => ?_; simp [go_sem, hcz, hco, z1, hcz1, hco1, d73, d37, hczl, hcol, d107, d710, d103, d310]; refine hR _ _ _ ?_; clear hR R)
    refine seqX_hide2 fun R hR => ?_
    simp [go_sem, hcz, hco, z1, hcz1, hco1, d73, d37, hczl, hcol, d107, d710, d103, d310]
    refine call_ov hP (sames27 A9 _ _ [t.kids[i + 1]] ((hfv.le hA58).le hA9) (hv70.le hA9) (by simp) (fun x hx => by rw [List.mem_singleton] at hx; subst hx; exact hndx)) ?_
    clear hP
    rintro _ B1 ⟨rfl, hB1⟩ hP
    refine hR _ _ _ ?_; clear hR R
    iterate 2 (refine seqX_hide2 fun R hR => ?_; simp [go_sem, hcz, hco, z1, hcz1, hco1, d73, d37, hczl, hcol, d107, d710, d103, d310]; refine hR _ _ _ ?_; clear hR R)
    refine seqX_hide2 fun R hR => ?_
    simp [go_sem, hcz, hco, z1, hcz1, hco1, d73, d37, hczl, hcol, d107, d710, d103, d310]
    refine call_ov hP (lives28 B1) ?_
    clear hP
    rintro _ B2 ⟨rfl, hB2⟩ hP
    refine hR _ _ _ ?_; clear hR R
    iterate 2 (refine seqX_hide2 fun R hR => ?_; simp [go_sem, hcz, hco, z1, hcz1, hco1, d73, d37, hczl, hcol, d107, d710, d103, d310]; refine hR _ _ _ ?_; clear hR R)
    rw [seqX_nil]
    refine hK _ _ _ ?_; clear hK K
    refine hN10 _ _ _ ?_
    simp [go_sem, hcz, hco, z1, hcz1, hco1, d73, d37, hczl, hcol, d107, d710, d103, d310]
    exact View.le_trans hA (View.le_trans hA58 (View.le_trans hA9 (View.le_trans hB1 (View.le_trans hB2 (le_ov hP)))))
  | true =>
  by_cases hke : kk' = []
  · obtain ⟨hc1, hfv⟩ : IsTr A5 (t.less i) c1 ∧ Trs A5 (.slice fb fn fc) [t.kids[i + 1]] := by
      rcases hcr with ⟨g0, -, -⟩ | ⟨j, hj, hh, -, g1, g2⟩
      · exact absurd ⟨hpi.1, hpi.2.1, hpi.2.2, fun e => e.2 (by rw [hkx2]; exact hke)⟩ (g0 i)
      · obtain rfl := huq nm j i hh.plc hpi
        exact ⟨g1, g2⟩
    have e1 : kk'.length = 0 := by rw [hke]; rfl
    have e2 : ¬ (0 : Int) < kk'.length := by omega
    have e3 : ¬ 0 < kk'.length := by omega
    refine hR _ _ _ ?_; clear hR R
    refine seqR_hide fun R hR => ?_
    simp [go_sem, hcz, hco, z1, hcz1, hco1, d73, d37, hczl, hcol, bc hP vk, hke]
    intro q10 hq10
    replace hP := hP.cons hq10
    clear hq10
    have d107 : q10 ≠ q7 := (hP.ne q7 (by simp [addrs])).1
    have d710 : q7 ≠ q10 := (hP.ne q7 (by simp [addrs])).2
    have d103 : q10 ≠ q3 := (hP.ne q3 (by simp [addrs])).1
    have d310 : q3 ≠ q10 := (hP.ne q3 (by simp [addrs])).2
    refine hR _ _ _ ?_; clear hR R
    refine seqR_hide fun R hR => ?_
    simp [go_sem, hcz, hco, z1, hcz1, hco1, d73, d37, hczl, hcol, bc hP vk, hke, d107, d710, d103, d310]
    refine hR _ _ _ ?_; clear hR R
    (refine seqR_hide fun R hR => ?_; simp [go_sem, hcz, hco, z1, hcz1, hco1, d73, d37, hczl, hcol, bc hP vk, hke, d107, d710, d103, d310]; refine hR _ _ _ ?_; clear hR R)
    rw [seqR_nil]
    refine hK _ _ _ ?_; clear hK K
    refine hN7 _ _ _ ?_
    refine xc_two fun N8 hN8 => ?_
    refine xc_two fun N9 hN9 => ?_
    refine xc_reg1 14 rfl fun K hK => ?_
    simp only [show (List.range 14).map (·, true) = [(0, true), (1, true), (2, true), (3, true), (4, true), (5, true), (6, true), (7, true), (8, true), (9, true), (10, true), (11, true), (12, true), (13, true)] from rfl, rslv_cons, rslv_nil, List.getElem?_toArray, List.getElem?_cons_zero, List.getElem?_cons_succ, gres]
    iterate 14 (refine seqX_hide2 fun R hR => ?_; simp [go_sem, hcz, hco, z1, hcz1, hco1, d73, d37, hczl, hcol, bc hP vk, hke, d107, d710, d103, d310]; refine hR _ _ _ ?_; clear hR R)
    rw [seqX_nil]
    refine hK _ _ _ ?_; clear hK K
    refine hN9 _ _ _ ?_
    refine xc_iffalse (by simp [go_sem, hcz, hco, z1, hcz1, hco1, d73, d37, hczl, hcol, bc hP vk, hke, d107, d710, d103, d310]) ?_
    refine hN8 _ _ _ ?_
    refine xc_two fun N10 hN10 => ?_
    refine xc_reg1 16 rfl fun K hK => ?_
    simp only [show (List.range 16).map (·, true) = [(0, true), (1, true), (2, true), (3, true), (4, true), (5, true), (6, true), (7, true), (8, true), (9, true), (10, true), (11, true), (12, true), (13, true), (14, true), (15, true)] from rfl, rslv_cons, rslv_nil, List.getElem?_toArray, List.getElem?_cons_zero, List.getElem?_cons_succ, gres]
    iterate 5 (refine seqX_hide2 fun R hR => ?_; simp [go_sem, hcz, hco, z1, hcz1, hco1, d73, d37, hczl, hcol, bc hP vk, hke, d107, d710, d103, d310]; refine hR _ _ _ ?_; clear hR R)
    refine seqX_hide2 fun R hR => ?_
    simp [go_sem, hcz, hco, z1, hcz1, hco1, d73, d37, hczl, hcol, bc hP vk, hke, d107, d710, d103, d310]
    refine call_ov hP (same14 (t.less i) A8 (t.less i) c1 cl (hc1.le hA58) (hcl.le hA68) (Same.refl _) (by have := hndl; omega)) ?_
    clear hP
    rintro _ A9 ⟨rfl, hA9⟩ hP
    refine hR _ _ _ ?_; clear hR R
    iterate 4 (refine seqX_hide2 fun R hR => ?_; simp [go_sem, hcz, hco, z1, hcz1, hco1, d73, d37, hczl, hcol, hke, d107, d710, d103, d310]; refine hR _ _ _ ?_; clear hR R)
    refine seqX_hide2 fun R hR => ?_
    simp [go_sem, hcz, hco, z1, hcz1, hco1, d73, d37, hczl, hcol, hke, d107, d710, d103, d310]
    refine call_ov hP (sames27 A9 _ _ [t.kids[i + 1]] ((hfv.le hA58).le hA9) (hv70.le hA9) (by simp) (fun x hx => by rw [List.mem_singleton] at hx; subst hx; exact hndx)) ?_
    clear hP
    rintro _ B1 ⟨rfl, hB1⟩ hP
    refine hR _ _ _ ?_; clear hR R
    iterate 2 (refine seqX_hide2 fun R hR => ?_; simp [go_sem, hcz, hco, z1, hcz1, hco1, d73, d37, hczl, hcol, hke, d107, d710, d103, d310]; refine hR _ _ _ ?_; clear hR R)
    refine seqX_hide2 fun R hR => ?_
    simp [go_sem, hcz, hco, z1, hcz1, hco1, d73, d37, hczl, hcol, hke, d107, d710, d103, d310]
    refine call_ov hP (lives28 B1) ?_
    clear hP
    rintro _ B2 ⟨rfl, hB2⟩ hP
    refine hR _ _ _ ?_; clear hR R
    iterate 2 (refine seqX_hide2 fun R hR => ?_; simp [go_sem, hcz, hco, z1, hcz1, hco1, d73, d37, hczl, hcol, hke, d107, d710, d103, d310]; refine hR _ _ _ ?_; clear hR R)
    rw [seqX_nil]
    refine hK _ _ _ ?_; clear hK K
    refine hN10 _ _ _ ?_
    simp [go_sem, hcz, hco, z1, hcz1, hco1, d73, d37, hczl, hcol, hke, d107, d710, d103, d310]
    exact View.le_trans hA (View.le_trans hA58 (View.le_trans hA9 (View.le_trans hB1 (View.le_trans hB2 (le_ov hP)))))
  obtain ⟨hc1, hfv⟩ : IsTr A5 t c1 ∧ Trs A5 (.slice fb fn fc) [] := by
    rcases hcr with ⟨-, g1, g2⟩ | ⟨j, hj, hh, -, -, -⟩
    · exact ⟨g1, g2⟩
    · obtain rfl := huq nm j i hh.plc hpi
      exact absurd ⟨rfl, by rw [hkx2]; exact hke⟩ hh.2.2.2
  have e1 : ¬ kk'.length = 0 := fun e => hke (List.eq_nil_of_length_eq_zero e)
  have e2 : (0 : Int) < kk'.length := by omega
  have e3 : 0 < kk'.length := by omega
  have hv0 : Trs A8 (.slice none 0 0) [] := Elems.nil _ _ _
  refine hR _ _ _ ?_; clear hR R
  refine seqR_hide fun R hR => ?_
  simp [go_sem, hcz, hco, z1, hcz1, hco1, d73, d37, hczl, hcol, bc hP vk, hke, e1, e2, e3]
  intro q10 hq10
  replace hP := hP.cons hq10
  clear hq10
  have d107 : q10 ≠ q7 := (hP.ne q7 (by simp [addrs])).1
  have d710 : q7 ≠ q10 := (hP.ne q7 (by simp [addrs])).2
  have d103 : q10 ≠ q3 := (hP.ne q3 (by simp [addrs])).1
  have d310 : q3 ≠ q10 := (hP.ne q3 (by simp [addrs])).2
  refine hR _ _ _ ?_; clear hR R
  refine seqR_hide fun R hR => ?_
  simp [go_sem, hcz, hco, z1, hcz1, hco1, d73, d37, hczl, hcol, bc hP vk, hke, e1, e2, e3, d107, d710, d103, d310]
  refine hR _ _ _ ?_; clear hR R
  (refine seqR_hide fun R hR => ?_; simp [go_sem, hcz, hco, z1, hcz1, hco1, d73, d37, hczl, hcol, bc hP vk, hke, e1, e2, e3, d107, d710, d103, d310]; refine hR _ _ _ ?_; clear hR R)
  rw [seqR_nil]
  refine hK _ _ _ ?_; clear hK K
  refine hN7 _ _ _ ?_
  refine xc_two fun N8 hN8 => ?_
  refine xc_two fun N9 hN9 => ?_
  refine xc_reg1 14 rfl fun K hK => ?_
  simp only [show (List.range 14).map (·, true) = [(0, true), (1, true), (2, true), (3, true), (4, true), (5, true), (6, true), (7, true), (8, true), (9, true), (10, true), (11, true), (12, true), (13, true)] from rfl, rslv_cons, rslv_nil, List.getElem?_toArray, List.getElem?_cons_zero, List.getElem?_cons_succ, gres]
  iterate 14 (refine seqX_hide2 fun R hR => ?_; simp [go_sem, hcz, hco, z1, hcz1, hco1, d73, d37, hczl, hcol, bc hP vk, hke, e1, e2, e3, d107, d710, d103, d310]; refine hR _ _ _ ?_; clear hR R)
  rw [seqX_nil]
  refine hK _ _ _ ?_; clear hK K
  refine hN9 _ _ _ ?_
  refine xc_iftrue (by simp [go_sem, hcz, hco, z1, hcz1, hco1, d73, d37, hczl, hcol, bc hP vk, hke, e1, e2, e3, d107, d710, d103, d310]) ?_
  refine xc_reg1 3 rfl fun K hK => ?_
  simp only [show (List.range 3).map (·, true) = [(0, true), (1, true), (2, true)] from rfl, rslv_cons, rslv_nil, List.getElem?_toArray, List.getElem?_cons_zero, List.getElem?_cons_succ, gres]
  (refine seqX_hide2 fun R hR => ?_; simp [go_sem, hcz, hco, z1, hcz1, hco1, d73, d37, hczl, hcol, bc hP vk, hke, e1, e2, e3, d107, d710, d103, d310]; refine hR _ _ _ ?_; clear hR R)
  refine seqX_hide2 fun R hR => ?_
  simp [go_sem, hcz, hco, z1, hcz1, hco1, d73, d37, hczl, hcol, bc hP vk, hke, e1, e2, e3, d107, d710, d103, d310]
  refine hR _ _ _ ?_; clear hR R
  (refine seqX_hide2 fun R hR => ?_; simp [go_sem, hcz, hco, z1, hcz1, hco1, d73, d37, hczl, hcol, bc hP vk, hke, e1, e2, e3, d107, d710, d103, d310]; refine hR _ _ _ ?_; clear hR R)
  rw [seqX_nil]
  refine hK _ _ _ ?_; clear hK K
  refine hN8 _ _ _ ?_
  refine xc_two fun N10 hN10 => ?_
  refine xc_reg1 16 rfl fun K hK => ?_
  simp only [show (List.range 16).map (·, true) = [(0, true), (1, true), (2, true), (3, true), (4, true), (5, true), (6, true), (7, true), (8, true), (9, true), (10, true), (11, true), (12, true), (13, true), (14, true), (15, true)] from rfl, rslv_cons, rslv_nil, List.getElem?_toArray, List.getElem?_cons_zero, List.getElem?_cons_succ, gres]
  iterate 5 (refine seqX_hide2 fun R hR => ?_; simp [go_sem, hcz, hco, z1, hcz1, hco1, d73, d37, hczl, hcol, bc hP vk, hke, e1, e2, e3, d107, d710, d103, d310]; refine hR _ _ _ ?_; clear hR R)
  refine seqX_hide2 fun R hR => ?_
  simp [go_sem, hcz, hco, z1, hcz1, hco1, d73, d37, hczl, hcol, bc hP vk, hke, e1, e2, e3, d107, d710, d103, d310]
  refine call_ov hP (same14 t A8 t c1 c (hc1.le hA58) (hc.le (View.le_trans hA hA58)) (Same.refl _) (by have := hnd; omega)) ?_
  clear hP
  rintro _ A9 ⟨rfl, hA9⟩ hP
  refine hR _ _ _ ?_; clear hR R
  iterate 4 (refine seqX_hide2 fun R hR => ?_; simp [go_sem, hcz, hco, z1, hcz1, hco1, d73, d37, hczl, hcol, hke, e1, e2, e3, d107, d710, d103, d310]; refine hR _ _ _ ?_; clear hR R)
  refine seqX_hide2 fun R hR => ?_
  simp [go_sem, hcz, hco, z1, hcz1, hco1, d73, d37, hczl, hcol, hke, e1, e2, e3, d107, d710, d103, d310]
  refine call_ov hP (sames27 A9 _ _ [] ((hfv.le hA58).le hA9) (hv0.le hA9) (by simp) (fun x hx => by cases hx)) ?_
  clear hP
  rintro _ B1 ⟨rfl, hB1⟩ hP
  refine hR _ _ _ ?_; clear hR R
  iterate 2 (refine seqX_hide2 fun R hR => ?_; simp [go_sem, hcz, hco, z1, hcz1, hco1, d73, d37, hczl, hcol, hke, e1, e2, e3, d107, d710, d103, d310]; refine hR _ _ _ ?_; clear hR R)
  refine seqX_hide2 fun R hR => ?_
  simp [go_sem, hcz, hco, z1, hcz1, hco1, d73, d37, hczl, hcol, hke, e1, e2, e3, d107, d710, d103, d310]
  refine call_ov hP (lives28 B1) ?_
  clear hP
  rintro _ B2 ⟨rfl, hB2⟩ hP
  refine hR _ _ _ ?_; clear hR R
  iterate 2 (refine seqX_hide2 fun R hR => ?_; simp [go_sem, hcz, hco, z1, hcz1, hco1, d73, d37, hczl, hcol, hke, e1, e2, e3, d107, d710, d103, d310]; refine hR _ _ _ ?_; clear hR R)
  rw [seqX_nil]
  refine hK _ _ _ ?_; clear hK K
  refine hN10 _ _ _ ?_
  simp [go_sem, hcz, hco, z1, hcz1, hco1, d73, d37, hczl, hcol, hke, e1, e2, e3, d107, d710, d103, d310]
  exact View.le_trans hA (View.le_trans hA58 (View.le_trans hA9 (View.le_trans hB1 (View.le_trans hB2 (le_ov hP)))))
theorem law6 (W : World) (c : Array Value) (t : Tr) (h : (IsTr (full W) t c ∧ SB t) ∧ ∀ bs m cap, c.toList[11]? = some (.slice bs m cap) → m ≤ cap) (nm : ByteArray) (hn : nm.size ≤ 140737488351232) (ie : Bool) : VCalls Try.prog 6 #[.agg c, .string nm, .bool ie] (full W) fun r A' => r = .bool true ∧ full W ≤ A' := clear6 (full W) c t nm ie h
end Go.Proofs.YtpinamipjddobaaV

/- Tables: FnTablesGlobals. -/
import Derived.Test.YtogfpbnbojhpoaaUV
import Derived.Test.YtogfpbnbojhpoaaUP
namespace Go.Proofs.YtogfpbnbojhpoaaV
open Go.RowKit
set_option linter.unusedSimpArgs false
set_option linter.unusedVariables false
theorem SrcG.deep {I : FP} {A : View} {w : RV} {r2 : Nat} {F2 : FP} (h : TF I A r2 (at' w) F2) (hd : ∀ b, F2 b → A b ≠ none ∧ ¬ I b) : ∃ Fs S R, SrcG I A w r2 Fs S R ∧ (∀ b, S b → F2 b) ∧ ∀ b, R b → F2 b := by
  obtain ⟨o2, f2, hA2, hm2, i2, w0, w1⟩ := h.get
  cases hw : at' w gkey with
  | none => exact ⟨fun _ _ => False, fun _ => False, fun _ => False, ⟨⟨o2, f2, hA2, hm2, w0 _, fun u hu => (by rw [hw] at hu; cases hu), fun u hu => (by rw [hw] at hu; cases hu)⟩, fun b hb => hb.elim⟩, fun b hb => hb.elim, fun b hb => hb.elim⟩
  | some u =>
    obtain ⟨y, G, e1, hou, hG, _⟩ := w1 _ u hw
    rcases hou.cls with ⟨h0, rfl⟩ | ⟨h0, h7, t, z, rfl, ht⟩ | ⟨h7, rg, rfl, hT⟩
    · exact ⟨fun _ _ => False, fun _ => False, fun _ => False, ⟨⟨o2, f2, hA2, hm2, w0 _, fun u' hu _ => ⟨_, e1, .inl rfl⟩, fun u' hu h7 => by rw [hw] at hu; cases hu; omega⟩, fun b hb => hb.elim⟩, fun b hb => hb.elim, fun b hb => hb.elim⟩
    · exact ⟨fun _ _ => False, fun _ => False, fun _ => False, ⟨⟨o2, f2, hA2, hm2, w0 _, fun u' hu _ => ⟨_, e1, .inr ⟨t, z, rfl, ht⟩⟩, fun u' hu h7' => by rw [hw] at hu; cases hu; exact absurd h7' h7⟩, fun b hb => hb.elim⟩, fun b hb => hb.elim, fun b hb => hb.elim⟩
    · obtain ⟨Fs, S, R, hGT, hS, hR⟩ := GT.deep hT fun b hb => hd b (hG b hb).1
      exact ⟨Fs, S, R, ⟨⟨o2, f2, hA2, hm2, w0 _, fun u' hu h => by rw [hw] at hu; cases hu; exact absurd h7 h, fun u' hu _ => by rw [hw] at hu; cases hu; exact ⟨rg, e1, hGT⟩⟩, hGT.dom⟩, fun b hb => (hG b (hS b hb)).1, fun b hb => (hG b (hR b hb)).1⟩
theorem caught52 (p q : Addr) (w : World) :
    CallsD Try.prog 52 #[.pointer (some p), .pointer (some q)] .returning w fun e u' w' => (∃ v, e = .returned v) ∧ u' = .returning ∧ w' = w := by
  refine callsD_of_wpS Try.func52 rfl fun c₀ cs hu => ?_
  apply wpS_seq
  apply wpS_region
  simp [wpOpsS, go_sem, recoverD, hu, Try.ntmps52, Exit.thenS]
  refine wpS_cond (t := false) (by simp [Act.eval, Array.replicate]) ?_
  simp only [Bool.false_eq_true, if_false]
  refine wpS_of_wp (wp_skip ?_)
  cases c₀
  simp_all [bodyPostS, results, Try.results52]
set_option maxRecDepth 20000 in
set_option maxHeartbeats 4000000 in
theorem globals53 (I : FP) (A : View) (v w : RV) (r1 r2 : Nat) (F1 F2 : FP) (hT1 : TF I A r1 (at' v) F1) (hT2 : TF I A r2 (at' w) F2) (hd : ∀ b, F1 b → ¬ F2 b) (hd1 : ∀ b, F1 b → A b ≠ none ∧ ¬ I b) (hd2 : ∀ b, F2 b → A b ≠ none ∧ ¬ I b) (hI : ∀ b, I b → A b ≠ none) (h71 : kindOf v = 7) (hG : Good v 50) (hG' : Good w 50) (hk : KB v) (hk' : KB w) :
    VCalls Try.prog 53 #[.map (some r1), .map (some r2)] A fun r A' => Out A A' F1 F2 ∧ ∃ F', TF I A' r1 (at' (globR v w)) F' := by
  obtain ⟨Fs, S, Q, hW, hS, hQ⟩ := SrcG.deep hT2 hd2
  refine xcalls Try.func53 rfl (by simp [Try.ntmps53]) ?_
  simp only [Try.f53]
  have hP : Priv A (addrs []) := Priv.nil A
  show xc _ _ _ _ _ _ (ov A [])
  refine xc_reg1 3 rfl fun K hK => ?_
  simp only [show (List.range 3).map (·, true) = [(0, true), (1, true), (2, true)] from rfl, rslv_cons, rslv_nil, List.getElem?_toArray, List.getElem?_cons_zero, List.getElem?_cons_succ, gres]
  iterate 2 (refine seqX_hide2 fun R hR => ?_; simp [go_sem]; refine hR _ _ _ ?_; clear hR R)
  refine seqX_hide2 fun R hR => ?_
  simp [go_sem]
  refine call_ov hP (coal71 I A v w r1 r2 F1 S Q Fs _ false hT1 hd1 hI hW (fun b h1 h2 => hd b h1 (hS b h2)) (fun b h1 h2 => hd b h1 (hQ b h2)) h71 hG hG' hk hk' (by decide)) ?_
  clear hP
  rintro _ A' ⟨hO, hdm, F', hT', hF'⟩ hP
  refine hR _ _ _ ?_; clear hR R
  rw [seqX_nil]
  refine hK _ _ _ ?_; clear hK K
  simp [go_sem]
  exact ⟨fun b o h h1 h2 => hO b o h h1 fun hs => h2 (hS b hs), F', hT'⟩
theorem kind_globR {v w : RV} (h7 : kindOf v = 7) : kindOf (globR v w) = 7 := by
  unfold globR
  split
  · rfl
  · exact h7
theorem good_globR {v w : RV} (h7 : kindOf v = 7) (hG : Good v 50) (hG' : Good w 50) : Good (globR v w) 50 ∧ nodes (globR v w) ≤ nodes v + nodes v + nodes w := by
  unfold globR
  split
  · rename_i h
    have h1 := good_gtab (s := gkey) hG (by decide)
    have h2 := good_gtab (s := gkey) hG' (by decide)
    obtain ⟨g1, g2⟩ := good_gM h.1 h1 h2
    have h3 := nodes_with (w := gM (gtab (at' v gkey)) (gtab (at' w gkey))) (s := gkey) h7 hG
    have h4 := nodes_gtab (v := v) (s := gkey)
    have h5 := nodes_gtab (v := w) (s := gkey)
    exact ⟨good_with h7 hG g1, by omega⟩
  · exact ⟨hG, by omega⟩
set_option maxRecDepth 20000 in
set_option maxHeartbeats 4000000 in
theorem join25o (A : View) (v w : RV) (c c' : Array Value) (hc : IsRV A v c) (hc' : IsRV A w c') (h71 : kindOf v = 7) (h72 : kindOf w = 7) (hG : Good v 50) (hG' : Good w 50) (hn : nodes v ≤ 1000) (hn' : nodes w ≤ 1000) (hk : KB v) (hk' : KB w) :
    VCalls Try.prog 25 #[.agg c, .agg c'] A fun r A' => ∃ c2, r = .tuple #[.agg c2, .int .i64 0] ∧ A ≤ A' ∧ IsRV A' (norm (globR v w)) c2 := by
  have hcz := hc.size
  have hco := hc.ones
  have hcz' := hc'.size
  have hco' := hc'.ones
  refine xcallsD Try.func25 rfl (by simp [Try.ntmps25]) ?_
  simp only [Try.f25]
  have hP : Priv A (addrs []) := Priv.nil A
  show xc _ _ _ _ _ _ (ov A [])
  refine xc_two fun N1 hN1 => ?_
  refine xc_reg1 4 rfl fun K hK => ?_
  simp only [show (List.range 4).map (·, true) = [(0, true), (1, true), (2, true), (3, true)] from rfl, rslv_cons, rslv_nil, List.getElem?_toArray, List.getElem?_cons_zero, List.getElem?_cons_succ, gres]
  refine seqX_hide2 fun R hR => ?_
  simp [go_sem, hcz, hco, hcz', hco']
  intro q2 hq2
  replace hP := hP.cons hq2
  clear hq2
  refine hR _ _ _ ?_; clear hR R
  refine seqX_hide2 fun R hR => ?_
  simp [go_sem, hcz, hco, hcz', hco']
  intro q3 hq3
  replace hP := hP.cons hq3
  clear hq3
  have d32 : q3 ≠ q2 := (hP.ne q2 (by simp [addrs])).1
  have d23 : q2 ≠ q3 := (hP.ne q2 (by simp [addrs])).2
  refine hR _ _ _ ?_; clear hR R
  refine seqX_hide2 fun R hR => ?_
  simp [go_sem, hcz, hco, hcz', hco', d32, d23]
  intro q4 hq4
  replace hP := hP.cons hq4
  clear hq4
  have d43 : q4 ≠ q3 := (hP.ne q3 (by simp [addrs])).1
  have d34 : q3 ≠ q4 := (hP.ne q3 (by simp [addrs])).2
  have d42 : q4 ≠ q2 := (hP.ne q2 (by simp [addrs])).1
  have d24 : q2 ≠ q4 := (hP.ne q2 (by simp [addrs])).2
  refine hR _ _ _ ?_; clear hR R
  refine seqX_hide2 fun R hR => ?_
  simp [go_sem, hcz, hco, hcz', hco', d32, d23, d43, d34, d42, d24]
  intro q5 hq5
  replace hP := hP.cons hq5
  clear hq5
  have d54 : q5 ≠ q4 := (hP.ne q4 (by simp [addrs])).1
  have d45 : q4 ≠ q5 := (hP.ne q4 (by simp [addrs])).2
  have d53 : q5 ≠ q3 := (hP.ne q3 (by simp [addrs])).1
  have d35 : q3 ≠ q5 := (hP.ne q3 (by simp [addrs])).2
  have d52 : q5 ≠ q2 := (hP.ne q2 (by simp [addrs])).1
  have d25 : q2 ≠ q5 := (hP.ne q2 (by simp [addrs])).2
  refine hR _ _ _ ?_; clear hR R
  rw [seqX_nil]
  refine hK _ _ _ ?_; clear hK K
  refine hN1 _ _ _ ?_
  refine xc_two fun N2 hN2 => ?_
  refine xc_reg1 2 rfl fun K hK => ?_
  simp only [show (List.range 2).map (·, true) = [(0, true), (1, true)] from rfl, rslv_cons, rslv_nil, List.getElem?_toArray, List.getElem?_cons_zero, List.getElem?_cons_succ, gres]
  (refine seqX_hide2 fun R hR => ?_; simp [go_sem, hcz, hco, hcz', hco', d32, d23, d43, d34, d42, d24, d54, d45, d53, d35, d52, d25]; refine hR _ _ _ ?_; clear hR R)
  refine seqX_hide2 fun R hR => ?_
  simp [go_sem, hcz, hco, hcz', hco', d32, d23, d43, d34, d42, d24, d54, d45, d53, d35, d52, d25, toDefer]
  refine hR _ _ _ ?_; clear hR R
  rw [seqX_nil]
  refine hK _ _ _ ?_; clear hK K
  refine hN2 _ _ _ ?_
  refine xc_two fun N3 hN3 => ?_
  refine xc_reg1 7 rfl fun K hK => ?_
  simp only [show (List.range 7).map (·, true) = [(0, true), (1, true), (2, true), (3, true), (4, true), (5, true), (6, true)] from rfl, rslv_cons, rslv_nil, List.getElem?_toArray, List.getElem?_cons_zero, List.getElem?_cons_succ, gres]
  (refine seqX_hide2 fun R hR => ?_; simp [go_sem, hcz, hco, hcz', hco', d32, d23, d43, d34, d42, d24, d54, d45, d53, d35, d52, d25]; refine hR _ _ _ ?_; clear hR R)
  refine seqX_hide2 fun R hR => ?_
  simp [go_sem, hcz, hco, hcz', hco', d32, d23, d43, d34, d42, d24, d54, d45, d53, d35, d52, d25]
  refine call_ov hP (table36o v A c 50 hc hG (by decide) (by omega) (.inr h71)) ?_
  clear hP
  rintro _ A1 ⟨x, rfl, hA1, hx⟩ hP
  obtain ⟨r1, F1, J1, rfl, hT1, hF1, hJ1⟩ := hx.tf h71
  refine hR _ _ _ ?_; clear hR R
  iterate 5 (refine seqX_hide2 fun R hR => ?_; simp [go_sem, hcz, hco, hcz', hco', d32, d23, d43, d34, d42, d24, d54, d45, d53, d35, d52, d25]; refine hR _ _ _ ?_; clear hR R)
  rw [seqX_nil]
  refine hK _ _ _ ?_; clear hK K
  refine hN3 _ _ _ ?_
  refine xc_two fun N4 hN4 => ?_
  refine xc_reg1 7 rfl fun K hK => ?_
  simp only [show (List.range 7).map (·, true) = [(0, true), (1, true), (2, true), (3, true), (4, true), (5, true), (6, true)] from rfl, rslv_cons, rslv_nil, List.getElem?_toArray, List.getElem?_cons_zero, List.getElem?_cons_succ, gres]
  (refine seqX_hide2 fun R hR => ?_; simp [go_sem, hcz, hco, hcz', hco', d32, d23, d43, d34, d42, d24, d54, d45, d53, d35, d52, d25]; refine hR _ _ _ ?_; clear hR R)
  refine seqX_hide2 fun R hR => ?_
  simp [go_sem, hcz, hco, hcz', hco', d32, d23, d43, d34, d42, d24, d54, d45, d53, d35, d52, d25]
  refine call_ov hP (table36o w A1 c' 50 (hc'.le hA1) hG' (by decide) (by omega) (.inr h72)) ?_
  clear hP
  rintro _ A2 ⟨x, rfl, hA2, hx⟩ hP
  obtain ⟨r2, F2, J2, rfl, hT2, hF2, hJ2⟩ := hx.tf h72
  refine hR _ _ _ ?_; clear hR R
  iterate 5 (refine seqX_hide2 fun R hR => ?_; simp [go_sem, hcz, hco, hcz', hco', d32, d23, d43, d34, d42, d24, d54, d45, d53, d35, d52, d25]; refine hR _ _ _ ?_; clear hR R)
  rw [seqX_nil]
  refine hK _ _ _ ?_; clear hK K
  refine hN4 _ _ _ ?_
  refine xc_two fun N5 hN5 => ?_
  refine xc_two fun N6 hN6 => ?_
  refine xc_reg1 10 rfl fun K hK => ?_
  simp only [show (List.range 10).map (·, true) = [(0, true), (1, true), (2, true), (3, true), (4, true), (5, true), (6, true), (7, true), (8, true), (9, true)] from rfl, rslv_cons, rslv_nil, List.getElem?_toArray, List.getElem?_cons_zero, List.getElem?_cons_succ, gres]
  iterate 10 (refine seqX_hide2 fun R hR => ?_; simp [go_sem, hcz, hco, hcz', hco', d32, d23, d43, d34, d42, d24, d54, d45, d53, d35, d52, d25]; refine hR _ _ _ ?_; clear hR R)
  rw [seqX_nil]
  refine hK _ _ _ ?_; clear hK K
  refine hN6 _ _ _ ?_
  refine xc_iffalse (by simp [go_sem, hcz, hco, hcz', hco', d32, d23, d43, d34, d42, d24, d54, d45, d53, d35, d52, d25]) ?_
  refine hN5 _ _ _ ?_
  refine xc_two fun N7 hN7 => ?_
  refine xc_reg1 3 rfl fun K hK => ?_
  simp only [show (List.range 3).map (·, true) = [(0, true), (1, true), (2, true)] from rfl, rslv_cons, rslv_nil, List.getElem?_toArray, List.getElem?_cons_zero, List.getElem?_cons_succ, gres]
  iterate 2 (refine seqX_hide2 fun R hR => ?_; simp [go_sem, hcz, hco, hcz', hco', d32, d23, d43, d34, d42, d24, d54, d45, d53, d35, d52, d25]; refine hR _ _ _ ?_; clear hR R)
  refine seqX_hide2 fun R hR => ?_
  simp [go_sem, hcz, hco, hcz', hco', d32, d23, d43, d34, d42, d24, d54, d45, d53, d35, d52, d25]
  refine call_ov hP (globals53 (fun b => J1 b ∨ J2 b) A2 v w r1 r2 F1 F2 ((hT1.le hA2).imm fun b h => .inl h) (hT2.imm fun b h => .inr h) (fun b h1 h2 => (hF1 b h1).2.1 (hF2 b h2).1) (fun b h1 => ⟨fun hz => (hF1 b h1).2.1 (none_le hA2 hz), fun h => h.elim (hF1 b h1).2.2 fun h => (hF1 b h1).2.1 (hJ2 b h).1⟩) (fun b h2 => ⟨(hF2 b h2).2.1, fun h => h.elim (fun h => (hJ1 b h).2 (hF2 b h2).1) (hF2 b h2).2.2⟩) (fun b h => h.elim (fun h hz => (hJ1 b h).2 (none_le hA2 hz)) fun h => (hJ2 b h).2) h71 hG hG' hk hk') ?_
  clear hP
  rintro _ A3 ⟨hO, F', hT'⟩ hP
  have hAA : A ≤ A3 := fun b o hb => hO b o (hA2 _ _ (hA1 _ _ hb)) (fun h => by rw [(hF1 b h).1] at hb; cases hb) (fun h => by have := (hF2 b h).1; rw [hA1 _ _ hb] at this; cases this)
  obtain ⟨hGc, hnc⟩ := good_globR h71 hG hG'
  have hany := OV.any _ _ F' 50 (TF.ov (kind_globR h71) hT') hGc
  refine hR _ _ _ ?_; clear hR R
  rw [seqX_nil]
  refine hK _ _ _ ?_; clear hK K
  refine hN7 _ _ _ ?_
  refine xc_two fun N8 hN8 => ?_
  refine xc_reg1 5 rfl fun K hK => ?_
  simp only [show (List.range 5).map (·, true) = [(0, true), (1, true), (2, true), (3, true), (4, true)] from rfl, rslv_cons, rslv_nil, List.getElem?_toArray, List.getElem?_cons_zero, List.getElem?_cons_succ, gres]
  iterate 2 (refine seqX_hide2 fun R hR => ?_; simp [go_sem, hcz, hco, hcz', hco', d32, d23, d43, d34, d42, d24, d54, d45, d53, d35, d52, d25]; refine hR _ _ _ ?_; clear hR R)
  refine seqX_hide2 fun R hR => ?_
  simp [go_sem, hcz, hco, hcz', hco', d32, d23, d43, d34, d42, d24, d54, d45, d53, d35, d52, d25]
  refine call_ov hP (value42 (globR v w) A3 _ 50 hany hGc (by omega)) ?_
  clear hP
  rintro _ A4 ⟨c2, rfl, hA4, hc2⟩ hP
  refine hR _ _ _ ?_; clear hR R
  refine seqX_hide2 fun R hR => ?_
  simp [go_sem, hcz, hco, hcz', hco', d32, d23, d43, d34, d42, d24, d54, d45, d53, d35, d52, d25, hc2.size, hc2.ones]
  refine hR _ _ _ ?_; clear hR R
  refine seqX_hide2 fun R hR => ?_
  simp [go_sem, hcz, hco, hcz', hco', d32, d23, d43, d34, d42, d24, d54, d45, d53, d35, d52, d25, hc2.size, hc2.ones]
  refine hR _ _ _ ?_; clear hR R
  rw [seqX_nil]
  refine hK _ _ _ ?_; clear hK K
  refine hN8 _ _ _ ?_
  have hidle : Idle Try.prog { target := .fn (.func 52) #[.pointer (some ⟨q4, 0, none⟩), .pointer (some ⟨q5, 0, none⟩)], args := #[] } := by
    intro w'
    exact ⟨_, _, 52, #[.pointer (some ⟨q4, 0, none⟩), .pointer (some ⟨q5, 0, none⟩)], rfl, by simp [go_sem, invoke], caught52 _ _ _⟩
  simp [go_sem, hcz, hco, hcz', hco', d32, d23, d43, d34, d42, d24, d54, d45, d53, d35, d52, d25, hc2.size, hc2.ones]
  refine ⟨hidle, View.le_trans hAA (View.le_trans hA4 ?_), hc2.le ?_⟩
  · exact le_ov hP
  · exact le_ov hP
set_option maxRecDepth 20000 in
set_option maxHeartbeats 4000000 in
theorem globals7 (A : View) (v w : RV) (c c' : Array Value) (hc : IsRV A v c) (hc' : IsRV A w c') (hk : KB v) (hk' : KB w) : VCalls Try.prog 7 #[.agg c, .agg c'] A fun r A' => r = .bool true ∧ A ≤ A' := by
  have hcz := hc.size
  have hco := hc.ones
  have hcz' := hc'.size
  have hco' := hc'.ones
  refine xcalls Try.func7 rfl (by simp [Try.ntmps7]) ?_
  simp only [Try.f7]
  have hP : Priv A (addrs []) := Priv.nil A
  show xc _ _ _ _ _ _ (ov A [])
  refine xc_two fun N1 hN1 => ?_
  refine xc_reg1 3 rfl fun K hK => ?_
  simp only [show (List.range 3).map (·, true) = [(0, true), (1, true), (2, true)] from rfl, rslv_cons, rslv_nil, List.getElem?_toArray, List.getElem?_cons_zero, List.getElem?_cons_succ, gres]
  refine seqX_hide2 fun R hR => ?_
  simp [go_sem, hcz, hco, hcz', hco']
  intro q2 hq2
  replace hP := hP.cons hq2
  clear hq2
  refine hR _ _ _ ?_; clear hR R
  refine seqX_hide2 fun R hR => ?_
  simp [go_sem, hcz, hco, hcz', hco']
  intro q3 hq3
  replace hP := hP.cons hq3
  clear hq3
  have d32 : q3 ≠ q2 := (hP.ne q2 (by simp [addrs])).1
  have d23 : q2 ≠ q3 := (hP.ne q2 (by simp [addrs])).2
  refine hR _ _ _ ?_; clear hR R
  (refine seqX_hide2 fun R hR => ?_; simp [go_sem, hcz, hco, hcz', hco', d32, d23]; refine hR _ _ _ ?_; clear hR R)
  rw [seqX_nil]
  refine hK _ _ _ ?_; clear hK K
  refine hN1 _ _ _ ?_
  refine xc_two fun N2 hN2 => ?_
  refine xc_two fun N3 hN3 => ?_
  refine xc_reg1 8 rfl fun K hK => ?_
  simp only [show (List.range 8).map (·, true) = [(0, true), (1, true), (2, true), (3, true), (4, true), (5, true), (6, true), (7, true)] from rfl, rslv_cons, rslv_nil, List.getElem?_toArray, List.getElem?_cons_zero, List.getElem?_cons_succ, gres]
  (refine seqX_hide2 fun R hR => ?_; simp [go_sem, hcz, hco, hcz', hco', d32, d23]; refine hR _ _ _ ?_; clear hR R)
  refine seqX_hide2 fun R hR => ?_
  simp [go_sem, hcz, hco, hcz', hco', d32, d23]
  refine call_ov hP (fits10 A v c hc) ?_
  clear hP
  rintro _ A1 ⟨⟨x, rfl⟩, hA1⟩ hP
  cases x with
  | false =>
    refine hR _ _ _ ?_; clear hR R
    iterate 3 (refine seqX_hide2 fun R hR => ?_; simp [go_sem, hcz, hco, hcz', hco', d32, d23]; refine hR _ _ _ ?_; clear hR R)
    refine seqX_hide2 fun R hR => ?_
    simp [go_sem, hcz, hco, hcz', hco', d32, d23]
    refine hR _ _ _ ?_; clear hR R
    iterate 2 (refine seqX_hide2 fun R hR => ?_; simp [go_sem, hcz, hco, hcz', hco', d32, d23]; refine hR _ _ _ ?_; clear hR R)
    rw [seqX_nil]
    refine hK _ _ _ ?_; clear hK K
    refine hN3 _ _ _ ?_
    refine xc_iftrue (by simp [go_sem, hcz, hco, hcz', hco', d32, d23]) ?_
    refine xc_two fun N4 hN4 => ?_
    refine xc_reg1 1 rfl fun K hK => ?_
    simp only [show (List.range 1).map (·, true) = [(0, true)] from rfl, rslv_cons, rslv_nil, List.getElem?_toArray, List.getElem?_cons_zero, List.getElem?_cons_succ, gres]
    (refine seqX_hide2 fun R hR => ?_; simp [go_sem, hcz, hco, hcz', hco', d32, d23]; refine hR _ _ _ ?_; clear hR R)
    rw [seqX_nil]
    refine hK _ _ _ ?_; clear hK K
    refine hN4 _ _ _ ?_
    simp [go_sem, hcz, hco, hcz', hco', d32, d23]
    exact View.le_trans hA1 (le_ov hP)
  | true =>
  refine hR _ _ _ ?_; clear hR R
  iterate 3 (refine seqX_hide2 fun R hR => ?_; simp [go_sem, hcz, hco, hcz', hco', d32, d23]; refine hR _ _ _ ?_; clear hR R)
  refine seqX_hide2 fun R hR => ?_
  simp [go_sem, hcz, hco, hcz', hco', d32, d23]
  refine call_ov hP (fits10 A1 w c' (hc'.le hA1)) ?_
  clear hP
  rintro _ A2 ⟨⟨x, rfl⟩, hA2⟩ hP
  cases x with
  | false =>
    refine hR _ _ _ ?_; clear hR R
    iterate 2 (refine seqX_hide2 fun R hR => ?_; simp [go_sem, hcz, hco, hcz', hco', d32, d23]; refine hR _ _ _ ?_; clear hR R)
    rw [seqX_nil]
    refine hK _ _ _ ?_; clear hK K
    refine hN3 _ _ _ ?_
    refine xc_iftrue (by simp [go_sem, hcz, hco, hcz', hco', d32, d23]) ?_
    refine xc_two fun N4 hN4 => ?_
    refine xc_reg1 1 rfl fun K hK => ?_
    simp only [show (List.range 1).map (·, true) = [(0, true)] from rfl, rslv_cons, rslv_nil, List.getElem?_toArray, List.getElem?_cons_zero, List.getElem?_cons_succ, gres]
    (refine seqX_hide2 fun R hR => ?_; simp [go_sem, hcz, hco, hcz', hco', d32, d23]; refine hR _ _ _ ?_; clear hR R)
    rw [seqX_nil]
    refine hK _ _ _ ?_; clear hK K
    refine hN4 _ _ _ ?_
    simp [go_sem, hcz, hco, hcz', hco', d32, d23]
    exact View.le_trans (View.le_trans hA1 hA2) (le_ov hP)
  | true =>
  refine hR _ _ _ ?_; clear hR R
  iterate 2 (refine seqX_hide2 fun R hR => ?_; simp [go_sem, hcz, hco, hcz', hco', d32, d23]; refine hR _ _ _ ?_; clear hR R)
  rw [seqX_nil]
  refine hK _ _ _ ?_; clear hK K
  refine hN3 _ _ _ ?_
  refine xc_iffalse (by simp [go_sem, hcz, hco, hcz', hco', d32, d23]) ?_
  refine hN2 _ _ _ ?_
  refine xc_two fun N4 hN4 => ?_
  refine xc_two fun N5 hN5 => ?_
  refine xc_reg1 8 rfl fun K hK => ?_
  simp only [show (List.range 8).map (·, true) = [(0, true), (1, true), (2, true), (3, true), (4, true), (5, true), (6, true), (7, true)] from rfl, rslv_cons, rslv_nil, List.getElem?_toArray, List.getElem?_cons_zero, List.getElem?_cons_succ, gres]
  (refine seqX_hide2 fun R hR => ?_; simp [go_sem, hcz, hco, hcz', hco', d32, d23]; refine hR _ _ _ ?_; clear hR R)
  refine seqX_hide2 fun R hR => ?_
  simp [go_sem, hcz, hco, hcz', hco', d32, d23]
  have hA := View.le_trans hA1 hA2
  refine call_ov hP (tbTable12 A2 v c (hc.le hA)) ?_
  clear hP
  rintro _ A3 ⟨⟨x, rfl, hx⟩, hA3⟩ hP
  have hA := View.le_trans hA hA3
  cases x with
  | false =>
    refine hR _ _ _ ?_; clear hR R
    iterate 3 (refine seqX_hide2 fun R hR => ?_; simp [go_sem, hcz, hco, hcz', hco', d32, d23]; refine hR _ _ _ ?_; clear hR R)
    refine seqX_hide2 fun R hR => ?_
    simp [go_sem, hcz, hco, hcz', hco', d32, d23]
    refine hR _ _ _ ?_; clear hR R
    iterate 2 (refine seqX_hide2 fun R hR => ?_; simp [go_sem, hcz, hco, hcz', hco', d32, d23]; refine hR _ _ _ ?_; clear hR R)
    rw [seqX_nil]
    refine hK _ _ _ ?_; clear hK K
    refine hN5 _ _ _ ?_
    refine xc_iftrue (by simp [go_sem, hcz, hco, hcz', hco', d32, d23]) ?_
    refine xc_two fun N6 hN6 => ?_
    refine xc_reg1 1 rfl fun K hK => ?_
    simp only [show (List.range 1).map (·, true) = [(0, true)] from rfl, rslv_cons, rslv_nil, List.getElem?_toArray, List.getElem?_cons_zero, List.getElem?_cons_succ, gres]
    (refine seqX_hide2 fun R hR => ?_; simp [go_sem, hcz, hco, hcz', hco', d32, d23]; refine hR _ _ _ ?_; clear hR R)
    rw [seqX_nil]
    refine hK _ _ _ ?_; clear hK K
    refine hN6 _ _ _ ?_
    simp [go_sem, hcz, hco, hcz', hco', d32, d23]
    exact View.le_trans hA (le_ov hP)
  | true =>
  obtain ⟨h71, hG, hn⟩ := hx rfl
  refine hR _ _ _ ?_; clear hR R
  iterate 3 (refine seqX_hide2 fun R hR => ?_; simp [go_sem, hcz, hco, hcz', hco', d32, d23]; refine hR _ _ _ ?_; clear hR R)
  refine seqX_hide2 fun R hR => ?_
  simp [go_sem, hcz, hco, hcz', hco', d32, d23]
  refine call_ov hP (tbTable12 A3 w c' (hc'.le hA)) ?_
  clear hP
  rintro _ A4 ⟨⟨x, rfl, hx⟩, hA4⟩ hP
  have hA := View.le_trans hA hA4
  cases x with
  | false =>
    refine hR _ _ _ ?_; clear hR R
    iterate 2 (refine seqX_hide2 fun R hR => ?_; simp [go_sem, hcz, hco, hcz', hco', d32, d23]; refine hR _ _ _ ?_; clear hR R)
    rw [seqX_nil]
    refine hK _ _ _ ?_; clear hK K
    refine hN5 _ _ _ ?_
    refine xc_iftrue (by simp [go_sem, hcz, hco, hcz', hco', d32, d23]) ?_
    refine xc_two fun N6 hN6 => ?_
    refine xc_reg1 1 rfl fun K hK => ?_
    simp only [show (List.range 1).map (·, true) = [(0, true)] from rfl, rslv_cons, rslv_nil, List.getElem?_toArray, List.getElem?_cons_zero, List.getElem?_cons_succ, gres]
    (refine seqX_hide2 fun R hR => ?_; simp [go_sem, hcz, hco, hcz', hco', d32, d23]; refine hR _ _ _ ?_; clear hR R)
    rw [seqX_nil]
    refine hK _ _ _ ?_; clear hK K
    refine hN6 _ _ _ ?_
    simp [go_sem, hcz, hco, hcz', hco', d32, d23]
    exact View.le_trans hA (le_ov hP)
  | true =>
  obtain ⟨h72, hG', hn'⟩ := hx rfl
  refine hR _ _ _ ?_; clear hR R
  iterate 2 (refine seqX_hide2 fun R hR => ?_; simp [go_sem, hcz, hco, hcz', hco', d32, d23]; refine hR _ _ _ ?_; clear hR R)
  rw [seqX_nil]
  refine hK _ _ _ ?_; clear hK K
  refine hN5 _ _ _ ?_
  refine xc_iffalse (by simp [go_sem, hcz, hco, hcz', hco', d32, d23]) ?_
  refine hN4 _ _ _ ?_
  refine xc_two fun N6 hN6 => ?_
  refine xc_reg1 9 rfl fun K hK => ?_
  simp only [show (List.range 9).map (·, true) = [(0, true), (1, true), (2, true), (3, true), (4, true), (5, true), (6, true), (7, true), (8, true)] from rfl, rslv_cons, rslv_nil, List.getElem?_toArray, List.getElem?_cons_zero, List.getElem?_cons_succ, gres]
  iterate 2 (refine seqX_hide2 fun R hR => ?_; simp [go_sem, hcz, hco, hcz', hco', d32, d23]; refine hR _ _ _ ?_; clear hR R)
  refine seqX_hide2 fun R hR => ?_
  simp [go_sem, hcz, hco, hcz', hco', d32, d23]
  refine call_ov hP (join25o A4 v w c c' (hc.le hA) (hc'.le hA) h71 h72 hG hG' (by omega) (by omega) hk hk') ?_
  clear hP
  rintro _ A5 ⟨c2, rfl, hA5, hc2⟩ hP
  have hA := View.le_trans hA hA5
  obtain ⟨hGc, hnc⟩ := good_globR h71 hG hG'
  have hnn := nodes_norm (globR v w)
  refine hR _ _ _ ?_; clear hR R
  iterate 3 (refine seqX_hide2 fun R hR => ?_; simp [go_sem, hcz, hco, hcz', hco', d32, d23, hc2.size, hc2.ones]; refine hR _ _ _ ?_; clear hR R)
  refine seqX_hide2 fun R hR => ?_
  simp [go_sem, hcz, hco, hcz', hco', d32, d23, hc2.size, hc2.ones]
  intro q5 hq5
  replace hP := hP.cons hq5
  clear hq5
  have d53 : q5 ≠ q3 := (hP.ne q3 (by simp [addrs])).1
  have d35 : q3 ≠ q5 := (hP.ne q3 (by simp [addrs])).2
  have d52 : q5 ≠ q2 := (hP.ne q2 (by simp [addrs])).1
  have d25 : q2 ≠ q5 := (hP.ne q2 (by simp [addrs])).2
  refine hR _ _ _ ?_; clear hR R
  refine seqX_hide2 fun R hR => ?_
  simp [go_sem, hcz, hco, hcz', hco', d32, d23, hc2.size, hc2.ones, d53, d35, d52, d25]
  refine hR _ _ _ ?_; clear hR R
  (refine seqX_hide2 fun R hR => ?_; simp [go_sem, hcz, hco, hcz', hco', d32, d23, hc2.size, hc2.ones, d53, d35, d52, d25]; refine hR _ _ _ ?_; clear hR R)
  rw [seqX_nil]
  refine hK _ _ _ ?_; clear hK K
  refine hN6 _ _ _ ?_
  refine xc_two fun N7 hN7 => ?_
  rw [xc_draws]
  refine vdrawK [(0, true), (1, true), (2, true), (3, true), (4, true), (5, false), (6, true)] (ov A5 [(q5, .cells c2 27 (0, 0)), (q3, .cells c' 27 (0, 0)), (q2, .cells c 27 (0, 0))]) mixed (by kernel_rfl) (View.le_refl _) fun K hK => ?_
  simp only [rslv_cons, rslv_nil, List.getElem?_toArray, List.getElem?_cons_zero, List.getElem?_cons_succ, gres]
  iterate 4 (refine seqR_hide fun R hR => ?_; simp [go_sem, hcz, hco, hcz', hco', d32, d23, hc2.size, hc2.ones, d53, d35, d52, d25]; refine hR _ _ _ ?_; clear hR R)
  refine seqR_hide fun R hR => ?_
  simp [go_sem, hcz, hco, hcz', hco', d32, d23, hc2.size, hc2.ones, d53, d35, d52, d25]
  refine call_ov hP (glob26 A5 v w c c' (hc.le hA) (hc'.le hA) hG hG' h71 (by omega) (by omega)) ?_
  clear hP
  rintro _ A6 ⟨c3, rfl, hA6, hc3⟩ hP
  refine ⟨ov_mono hA6, hR _ _ _ ?_⟩; clear hR R
  refine seqR_hide fun R hR => ?_
  simp [go_sem, hcz, hco, hcz', hco', d32, d23, hc2.size, hc2.ones, d53, d35, d52, d25]
  refine call_ov hP (tbGot17 A6 (norm (globR v w)) (globR v w) c2 c3 50 50 (hc2.le hA6) hc3 (good_norm _ 50 hGc) hGc (norm_norm _) (by omega)) ?_
  clear hP
  rintro _ A7 ⟨rfl, hA7⟩ hP
  refine hR _ _ _ ?_; clear hR R
  (refine seqR_hide fun R hR => ?_; simp [go_sem, hcz, hco, hcz', hco', d32, d23, hc2.size, hc2.ones, d53, d35, d52, d25]; refine hR _ _ _ ?_; clear hR R)
  rw [seqR_nil]
  refine hK _ _ _ ?_; clear hK K
  refine hN7 _ _ _ ?_
  simp [go_sem, hcz, hco, hcz', hco', d32, d23, hc2.size, hc2.ones, d53, d35, d52, d25]
  exact View.le_trans (View.le_trans hA (View.le_trans hA6 hA7)) (le_ov hP)
theorem law7 (W : World) (c : Array Value) (v : RV) (o : IsRV (full W) v c ∧ KB v) (c' : Array Value) (w : RV) (o' : IsRV (full W) w c' ∧ KB w) : VCalls Try.prog 7 #[.agg c, .agg c'] (full W) fun r A' => r = .bool true ∧ full W ≤ A' :=
  globals7 (full W) v w c c' o.1 o'.1 o.2 o'.2
end Go.Proofs.YtogfpbnbojhpoaaV

/- Tables: joins of two tables. -/
import Derived.Test.YtogfpbnbojhpoaaUM
import Derived.Test.YtogfpbnbojhpoaaTX
namespace Go.Proofs.YtogfpbnbojhpoaaV
open Go.RowKit
set_option linter.unusedSimpArgs false
set_option linter.unusedVariables false
theorem TabW.tf {A : View} {v : RV} {x : Value} {A' : View} (h : TabW A v x A') (h7 : kindOf v = 7) : ∃ r F J, x = .map (some r) ∧ TF J A' r (at' v) F ∧ (∀ b, F b → A b = none ∧ A' b ≠ none ∧ ¬ J b) ∧ ∀ b, J b → A b = none ∧ A' b ≠ none := by
  rcases h with ⟨h0, _⟩ | ⟨_, h⟩
  · omega
  · exact h
set_option maxRecDepth 20000 in
set_option maxHeartbeats 4000000 in
theorem tables43 (I : FP) (A : View) (v w : RV) (r1 r2 : Nat) (F1 F2 : FP) (hT1 : TF I A r1 (at' v) F1) (hT2 : TF I A r2 (at' w) F2) (hd : ∀ b, F1 b → ¬ F2 b) (hd1 : ∀ b, F1 b → A b ≠ none ∧ ¬ I b) (hd2 : ∀ b, F2 b → A b ≠ none ∧ ¬ I b) (hI : ∀ b, I b → A b ≠ none) (h71 : kindOf v = 7) (h72 : kindOf w = 7) (hG : Good v 50) (hG' : Good w 50) (hk : KB v) (hk' : KB w) :
    VCalls Try.prog 43 #[.map (some r1), .map (some r2)] A fun r A' => r = .map (some r1) ∧ Out A A' F1 F2 ∧ ∃ F', TF I A' r1 (at' (coalR v true w)) F' := by
  refine xcalls Try.func43 rfl (by simp [Try.ntmps43]) ?_
  simp only [Try.f43]
  have hP : Priv A (addrs []) := Priv.nil A
  show xc _ _ _ _ _ _ (ov A [])
  refine xc_two fun N1 hN1 => ?_
  refine xc_reg1 1 rfl fun K hK => ?_
  simp only [show (List.range 1).map (·, true) = [(0, true)] from rfl, rslv_cons, rslv_nil, List.getElem?_toArray, List.getElem?_cons_zero, List.getElem?_cons_succ, gres]
  (refine seqX_hide2 fun R hR => ?_; simp [go_sem]; refine hR _ _ _ ?_; clear hR R)
  rw [seqX_nil]
  refine hK _ _ _ ?_; clear hK K
  refine hN1 _ _ _ ?_
  refine xc_two fun N2 hN2 => ?_
  refine xc_reg1 4 rfl fun K hK => ?_
  simp only [show (List.range 4).map (·, true) = [(0, true), (1, true), (2, true), (3, true)] from rfl, rslv_cons, rslv_nil, List.getElem?_toArray, List.getElem?_cons_zero, List.getElem?_cons_succ, gres]
  iterate 2 (refine seqX_hide2 fun R hR => ?_; simp [go_sem]; refine hR _ _ _ ?_; clear hR R)
  refine seqX_hide2 fun R hR => ?_
  simp [go_sem]
  refine call_ov hP (coal67 w I A v r1 r2 F1 F2 _ true 50 50 hT1 hT2 hd hd1 hd2 hI h71 h72 hG hG' hk hk' (by decide) (Nat.zero_le _)) ?_
  clear hP
  rintro _ A' ⟨rfl, hO, hdm, F', hT', hF'⟩ hP
  refine hR _ _ _ ?_; clear hR R
  (refine seqX_hide2 fun R hR => ?_; simp [go_sem]; refine hR _ _ _ ?_; clear hR R)
  rw [seqX_nil]
  refine hK _ _ _ ?_; clear hK K
  refine hN2 _ _ _ ?_
  simp [go_sem]
  exact ⟨hO, F', hT'⟩
set_option maxRecDepth 20000 in
set_option maxHeartbeats 4000000 in
theorem join16o (A : View) (v w : RV) (c c' : Array Value) (hc : IsRV A v c) (hc' : IsRV A w c') (h71 : kindOf v = 7) (h72 : kindOf w = 7) (hG : Good v 50) (hG' : Good w 50) (hn : nodes v ≤ 1000) (hn' : nodes w ≤ 1000) (hk : KB v) (hk' : KB w) :
    VCalls Try.prog 16 #[.agg c, .agg c'] A fun r A' => ∃ c2, r = .tuple #[.agg c2, .int .i64 0] ∧ A ≤ A' ∧ IsRV A' (norm (coalR v true w)) c2 := by
  have hcz := hc.size
  have hco := hc.ones
  have hcz' := hc'.size
  have hco' := hc'.ones
  refine xcallsD Try.func16 rfl (by simp [Try.ntmps16]) ?_
  simp only [Try.f16]
  have hP : Priv A (addrs []) := Priv.nil A
  show xc _ _ _ _ _ _ (ov A [])
  refine xc_two fun N1 hN1 => ?_
  refine xc_reg1 4 rfl fun K hK => ?_
  simp only [show (List.range 4).map (·, true) = [(0, true), (1, true), (2, true), (3, true)] from rfl, rslv_cons, rslv_nil, List.getElem?_toArray, List.getElem?_cons_zero, List.getElem?_cons_succ, gres]
  refine seqX_hide2 fun R hR => ?_
  simp [go_sem, hcz, hco, hcz', hco']
  intro q2 hq2
  replace hP := hP.cons hq2
  clear hq2
  refine hR _ _ _ ?_; clear hR R
  refine seqX_hide2 fun R hR => ?_
  simp [go_sem, hcz, hco, hcz', hco']
  intro q3 hq3
  replace hP := hP.cons hq3
  clear hq3
  have d32 : q3 ≠ q2 := (hP.ne q2 (by simp [addrs])).1
  have d23 : q2 ≠ q3 := (hP.ne q2 (by simp [addrs])).2
  refine hR _ _ _ ?_; clear hR R
  refine seqX_hide2 fun R hR => ?_
  simp [go_sem, hcz, hco, hcz', hco', d32, d23]
  intro q4 hq4
  replace hP := hP.cons hq4
  clear hq4
  have d43 : q4 ≠ q3 := (hP.ne q3 (by simp [addrs])).1
  have d34 : q3 ≠ q4 := (hP.ne q3 (by simp [addrs])).2
  have d42 : q4 ≠ q2 := (hP.ne q2 (by simp [addrs])).1
  have d24 : q2 ≠ q4 := (hP.ne q2 (by simp [addrs])).2
  refine hR _ _ _ ?_; clear hR R
  refine seqX_hide2 fun R hR => ?_
  simp [go_sem, hcz, hco, hcz', hco', d32, d23, d43, d34, d42, d24]
  intro q5 hq5
  replace hP := hP.cons hq5
  clear hq5
  have d54 : q5 ≠ q4 := (hP.ne q4 (by simp [addrs])).1
  have d45 : q4 ≠ q5 := (hP.ne q4 (by simp [addrs])).2
  have d53 : q5 ≠ q3 := (hP.ne q3 (by simp [addrs])).1
  have d35 : q3 ≠ q5 := (hP.ne q3 (by simp [addrs])).2
  have d52 : q5 ≠ q2 := (hP.ne q2 (by simp [addrs])).1
  have d25 : q2 ≠ q5 := (hP.ne q2 (by simp [addrs])).2
  refine hR _ _ _ ?_; clear hR R
  rw [seqX_nil]
  refine hK _ _ _ ?_; clear hK K
  refine hN1 _ _ _ ?_
  refine xc_two fun N2 hN2 => ?_
  refine xc_reg1 2 rfl fun K hK => ?_
  simp only [show (List.range 2).map (·, true) = [(0, true), (1, true)] from rfl, rslv_cons, rslv_nil, List.getElem?_toArray, List.getElem?_cons_zero, List.getElem?_cons_succ, gres]
  (refine seqX_hide2 fun R hR => ?_; simp [go_sem, hcz, hco, hcz', hco', d32, d23, d43, d34, d42, d24, d54, d45, d53, d35, d52, d25]; refine hR _ _ _ ?_; clear hR R)
  refine seqX_hide2 fun R hR => ?_
  simp [go_sem, hcz, hco, hcz', hco', d32, d23, d43, d34, d42, d24, d54, d45, d53, d35, d52, d25, toDefer]
  refine hR _ _ _ ?_; clear hR R
  rw [seqX_nil]
  refine hK _ _ _ ?_; clear hK K
  refine hN2 _ _ _ ?_
  refine xc_two fun N3 hN3 => ?_
  refine xc_reg1 7 rfl fun K hK => ?_
  simp only [show (List.range 7).map (·, true) = [(0, true), (1, true), (2, true), (3, true), (4, true), (5, true), (6, true)] from rfl, rslv_cons, rslv_nil, List.getElem?_toArray, List.getElem?_cons_zero, List.getElem?_cons_succ, gres]
  (refine seqX_hide2 fun R hR => ?_; simp [go_sem, hcz, hco, hcz', hco', d32, d23, d43, d34, d42, d24, d54, d45, d53, d35, d52, d25]; refine hR _ _ _ ?_; clear hR R)
  refine seqX_hide2 fun R hR => ?_
  simp [go_sem, hcz, hco, hcz', hco', d32, d23, d43, d34, d42, d24, d54, d45, d53, d35, d52, d25]
  refine call_ov hP (table36o v A c 50 hc hG (by decide) (by omega) (.inr h71)) ?_
  clear hP
  rintro _ A1 ⟨x, rfl, hA1, hx⟩ hP
  obtain ⟨r1, F1, J1, rfl, hT1, hF1, hJ1⟩ := hx.tf h71
  refine hR _ _ _ ?_; clear hR R
  iterate 5 (refine seqX_hide2 fun R hR => ?_; simp [go_sem, hcz, hco, hcz', hco', d32, d23, d43, d34, d42, d24, d54, d45, d53, d35, d52, d25]; refine hR _ _ _ ?_; clear hR R)
  rw [seqX_nil]
  refine hK _ _ _ ?_; clear hK K
  refine hN3 _ _ _ ?_
  refine xc_two fun N4 hN4 => ?_
  refine xc_reg1 7 rfl fun K hK => ?_
  simp only [show (List.range 7).map (·, true) = [(0, true), (1, true), (2, true), (3, true), (4, true), (5, true), (6, true)] from rfl, rslv_cons, rslv_nil, List.getElem?_toArray, List.getElem?_cons_zero, List.getElem?_cons_succ, gres]
  (refine seqX_hide2 fun R hR => ?_; simp [go_sem, hcz, hco, hcz', hco', d32, d23, d43, d34, d42, d24, d54, d45, d53, d35, d52, d25]; refine hR _ _ _ ?_; clear hR R)
  refine seqX_hide2 fun R hR => ?_
  simp [go_sem, hcz, hco, hcz', hco', d32, d23, d43, d34, d42, d24, d54, d45, d53, d35, d52, d25]
  refine call_ov hP (table36o w A1 c' 50 (hc'.le hA1) hG' (by decide) (by omega) (.inr h72)) ?_
  clear hP
  rintro _ A2 ⟨x, rfl, hA2, hx⟩ hP
  obtain ⟨r2, F2, J2, rfl, hT2, hF2, hJ2⟩ := hx.tf h72
  refine hR _ _ _ ?_; clear hR R
  iterate 5 (refine seqX_hide2 fun R hR => ?_; simp [go_sem, hcz, hco, hcz', hco', d32, d23, d43, d34, d42, d24, d54, d45, d53, d35, d52, d25]; refine hR _ _ _ ?_; clear hR R)
  rw [seqX_nil]
  refine hK _ _ _ ?_; clear hK K
  refine hN4 _ _ _ ?_
  refine xc_two fun N5 hN5 => ?_
  refine xc_two fun N6 hN6 => ?_
  refine xc_reg1 6 rfl fun K hK => ?_
  simp only [show (List.range 6).map (·, true) = [(0, true), (1, true), (2, true), (3, true), (4, true), (5, true)] from rfl, rslv_cons, rslv_nil, List.getElem?_toArray, List.getElem?_cons_zero, List.getElem?_cons_succ, gres]
  iterate 6 (refine seqX_hide2 fun R hR => ?_; simp [go_sem, hcz, hco, hcz', hco', d32, d23, d43, d34, d42, d24, d54, d45, d53, d35, d52, d25]; refine hR _ _ _ ?_; clear hR R)
  rw [seqX_nil]
  refine hK _ _ _ ?_; clear hK K
  refine hN6 _ _ _ ?_
  refine xc_iffalse (by simp [go_sem, hcz, hco, hcz', hco', d32, d23, d43, d34, d42, d24, d54, d45, d53, d35, d52, d25]) ?_
  refine hN5 _ _ _ ?_
  refine xc_two fun N7 hN7 => ?_
  refine xc_reg1 7 rfl fun K hK => ?_
  simp only [show (List.range 7).map (·, true) = [(0, true), (1, true), (2, true), (3, true), (4, true), (5, true), (6, true)] from rfl, rslv_cons, rslv_nil, List.getElem?_toArray, List.getElem?_cons_zero, List.getElem?_cons_succ, gres]
  iterate 2 (refine seqX_hide2 fun R hR => ?_; simp [go_sem, hcz, hco, hcz', hco', d32, d23, d43, d34, d42, d24, d54, d45, d53, d35, d52, d25]; refine hR _ _ _ ?_; clear hR R)
  refine seqX_hide2 fun R hR => ?_
  simp [go_sem, hcz, hco, hcz', hco', d32, d23, d43, d34, d42, d24, d54, d45, d53, d35, d52, d25]
  refine call_ov hP (tables43 (fun b => J1 b ∨ J2 b) A2 v w r1 r2 F1 F2 ((hT1.le hA2).imm fun b h => .inl h) (hT2.imm fun b h => .inr h) (fun b h1 h2 => (hF1 b h1).2.1 (hF2 b h2).1) (fun b h1 => ⟨fun hz => (hF1 b h1).2.1 (none_le hA2 hz), fun h => h.elim (hF1 b h1).2.2 fun h => (hF1 b h1).2.1 (hJ2 b h).1⟩) (fun b h2 => ⟨(hF2 b h2).2.1, fun h => h.elim (fun h => (hJ1 b h).2 (hF2 b h2).1) (hF2 b h2).2.2⟩) (fun b h => h.elim (fun h hz => (hJ1 b h).2 (none_le hA2 hz)) fun h => (hJ2 b h).2) h71 h72 hG hG' hk hk') ?_
  clear hP
  rintro _ A3 ⟨rfl, hO, F', hT'⟩ hP
  have hAA : A ≤ A3 := fun b o hb => hO b o (hA2 _ _ (hA1 _ _ hb)) (fun h => by rw [(hF1 b h).1] at hb; cases hb) (fun h => by have := (hF2 b h).1; rw [hA1 _ _ hb] at this; cases this)
  obtain ⟨hGc, hnc⟩ := good_coalR true w v 50 h71 h72 hG hG'
  have hany := OV.any _ _ F' 50 (TF.ov (kind_coalR h71 h72 hG') hT') hGc
  refine hR _ _ _ ?_; clear hR R
  (refine seqX_hide2 fun R hR => ?_; simp [go_sem, hcz, hco, hcz', hco', d32, d23, d43, d34, d42, d24, d54, d45, d53, d35, d52, d25]; refine hR _ _ _ ?_; clear hR R)
  refine seqX_hide2 fun R hR => ?_
  simp [go_sem, hcz, hco, hcz', hco', d32, d23, d43, d34, d42, d24, d54, d45, d53, d35, d52, d25]
  refine call_ov hP (value42 (coalR v true w) A3 _ 50 hany hGc (by omega)) ?_
  clear hP
  rintro _ A4 ⟨c2, rfl, hA4, hc2⟩ hP
  refine hR _ _ _ ?_; clear hR R
  refine seqX_hide2 fun R hR => ?_
  simp [go_sem, hcz, hco, hcz', hco', d32, d23, d43, d34, d42, d24, d54, d45, d53, d35, d52, d25, hc2.size, hc2.ones]
  refine hR _ _ _ ?_; clear hR R
  refine seqX_hide2 fun R hR => ?_
  simp [go_sem, hcz, hco, hcz', hco', d32, d23, d43, d34, d42, d24, d54, d45, d53, d35, d52, d25, hc2.size, hc2.ones]
  refine hR _ _ _ ?_; clear hR R
  rw [seqX_nil]
  refine hK _ _ _ ?_; clear hK K
  refine hN7 _ _ _ ?_
  have hidle : Idle Try.prog { target := .fn (.func 41) #[.pointer (some ⟨q4, 0, none⟩), .pointer (some ⟨q5, 0, none⟩)], args := #[] } := by
    intro w'
    exact ⟨_, _, 41, #[.pointer (some ⟨q4, 0, none⟩), .pointer (some ⟨q5, 0, none⟩)], rfl, by simp [go_sem, invoke], caught41 _ _ _⟩
  simp [go_sem, hcz, hco, hcz', hco', d32, d23, d43, d34, d42, d24, d54, d45, d53, d35, d52, d25, hc2.size, hc2.ones]
  refine ⟨hidle, View.le_trans hAA (View.le_trans hA4 ?_), hc2.le ?_⟩
  · exact le_ov hP
  · exact le_ov hP
set_option maxRecDepth 20000 in
set_option maxHeartbeats 4000000 in
theorem tables51 (I : FP) (A : View) (v w : RV) (r1 r2 : Nat) (F1 F2 : FP) (hT1 : TF I A r1 (at' v) F1) (hT2 : TF I A r2 (at' w) F2) (hd : ∀ b, F1 b → ¬ F2 b) (hd1 : ∀ b, F1 b → A b ≠ none ∧ ¬ I b) (hd2 : ∀ b, F2 b → A b ≠ none ∧ ¬ I b) (hI : ∀ b, I b → A b ≠ none) (h71 : kindOf v = 7) (h72 : kindOf w = 7) (hG : Good v 50) (hG' : Good w 50) (hk : KB v) (hk' : KB w) :
    VCalls Try.prog 51 #[.map (some r1), .map (some r2)] A fun r A' => r = .map (some r1) ∧ Out A A' F1 F2 ∧ ∃ F', TF I A' r1 (at' (coalR v false w)) F' := by
  refine xcalls Try.func51 rfl (by simp [Try.ntmps51]) ?_
  simp only [Try.f51]
  have hP : Priv A (addrs []) := Priv.nil A
  show xc _ _ _ _ _ _ (ov A [])
  refine xc_two fun N1 hN1 => ?_
  refine xc_reg1 1 rfl fun K hK => ?_
  simp only [show (List.range 1).map (·, true) = [(0, true)] from rfl, rslv_cons, rslv_nil, List.getElem?_toArray, List.getElem?_cons_zero, List.getElem?_cons_succ, gres]
  (refine seqX_hide2 fun R hR => ?_; simp [go_sem]; refine hR _ _ _ ?_; clear hR R)
  rw [seqX_nil]
  refine hK _ _ _ ?_; clear hK K
  refine hN1 _ _ _ ?_
  refine xc_two fun N2 hN2 => ?_
  refine xc_reg1 4 rfl fun K hK => ?_
  simp only [show (List.range 4).map (·, true) = [(0, true), (1, true), (2, true), (3, true)] from rfl, rslv_cons, rslv_nil, List.getElem?_toArray, List.getElem?_cons_zero, List.getElem?_cons_succ, gres]
  iterate 2 (refine seqX_hide2 fun R hR => ?_; simp [go_sem]; refine hR _ _ _ ?_; clear hR R)
  refine seqX_hide2 fun R hR => ?_
  simp [go_sem]
  refine call_ov hP (coal67 w I A v r1 r2 F1 F2 _ false 50 50 hT1 hT2 hd hd1 hd2 hI h71 h72 hG hG' hk hk' (by decide) (Nat.zero_le _)) ?_
  clear hP
  rintro _ A' ⟨rfl, hO, hdm, F', hT', hF'⟩ hP
  refine hR _ _ _ ?_; clear hR R
  (refine seqX_hide2 fun R hR => ?_; simp [go_sem]; refine hR _ _ _ ?_; clear hR R)
  rw [seqX_nil]
  refine hK _ _ _ ?_; clear hK K
  refine hN2 _ _ _ ?_
  simp [go_sem]
  exact ⟨hO, F', hT'⟩
set_option maxRecDepth 20000 in
set_option maxHeartbeats 4000000 in
theorem join24o (A : View) (v w : RV) (c c' : Array Value) (hc : IsRV A v c) (hc' : IsRV A w c') (h71 : kindOf v = 7) (h72 : kindOf w = 7) (hG : Good v 50) (hG' : Good w 50) (hn : nodes v ≤ 1000) (hn' : nodes w ≤ 1000) (hk : KB v) (hk' : KB w) :
    VCalls Try.prog 24 #[.agg c, .agg c'] A fun r A' => ∃ c2, r = .tuple #[.agg c2, .int .i64 0] ∧ A ≤ A' ∧ IsRV A' (norm (coalR v false w)) c2 := by
  have hcz := hc.size
  have hco := hc.ones
  have hcz' := hc'.size
  have hco' := hc'.ones
  refine xcallsD Try.func24 rfl (by simp [Try.ntmps24]) ?_
  simp only [Try.f24]
  have hP : Priv A (addrs []) := Priv.nil A
  show xc _ _ _ _ _ _ (ov A [])
  refine xc_two fun N1 hN1 => ?_
  refine xc_reg1 4 rfl fun K hK => ?_
  simp only [show (List.range 4).map (·, true) = [(0, true), (1, true), (2, true), (3, true)] from rfl, rslv_cons, rslv_nil, List.getElem?_toArray, List.getElem?_cons_zero, List.getElem?_cons_succ, gres]
  refine seqX_hide2 fun R hR => ?_
  simp [go_sem, hcz, hco, hcz', hco']
  intro q2 hq2
  replace hP := hP.cons hq2
  clear hq2
  refine hR _ _ _ ?_; clear hR R
  refine seqX_hide2 fun R hR => ?_
  simp [go_sem, hcz, hco, hcz', hco']
  intro q3 hq3
  replace hP := hP.cons hq3
  clear hq3
  have d32 : q3 ≠ q2 := (hP.ne q2 (by simp [addrs])).1
  have d23 : q2 ≠ q3 := (hP.ne q2 (by simp [addrs])).2
  refine hR _ _ _ ?_; clear hR R
  refine seqX_hide2 fun R hR => ?_
  simp [go_sem, hcz, hco, hcz', hco', d32, d23]
  intro q4 hq4
  replace hP := hP.cons hq4
  clear hq4
  have d43 : q4 ≠ q3 := (hP.ne q3 (by simp [addrs])).1
  have d34 : q3 ≠ q4 := (hP.ne q3 (by simp [addrs])).2
  have d42 : q4 ≠ q2 := (hP.ne q2 (by simp [addrs])).1
  have d24 : q2 ≠ q4 := (hP.ne q2 (by simp [addrs])).2
  refine hR _ _ _ ?_; clear hR R
  refine seqX_hide2 fun R hR => ?_
  simp [go_sem, hcz, hco, hcz', hco', d32, d23, d43, d34, d42, d24]
  intro q5 hq5
  replace hP := hP.cons hq5
  clear hq5
  have d54 : q5 ≠ q4 := (hP.ne q4 (by simp [addrs])).1
  have d45 : q4 ≠ q5 := (hP.ne q4 (by simp [addrs])).2
  have d53 : q5 ≠ q3 := (hP.ne q3 (by simp [addrs])).1
  have d35 : q3 ≠ q5 := (hP.ne q3 (by simp [addrs])).2
  have d52 : q5 ≠ q2 := (hP.ne q2 (by simp [addrs])).1
  have d25 : q2 ≠ q5 := (hP.ne q2 (by simp [addrs])).2
  refine hR _ _ _ ?_; clear hR R
  rw [seqX_nil]
  refine hK _ _ _ ?_; clear hK K
  refine hN1 _ _ _ ?_
  refine xc_two fun N2 hN2 => ?_
  refine xc_reg1 2 rfl fun K hK => ?_
  simp only [show (List.range 2).map (·, true) = [(0, true), (1, true)] from rfl, rslv_cons, rslv_nil, List.getElem?_toArray, List.getElem?_cons_zero, List.getElem?_cons_succ, gres]
  (refine seqX_hide2 fun R hR => ?_; simp [go_sem, hcz, hco, hcz', hco', d32, d23, d43, d34, d42, d24, d54, d45, d53, d35, d52, d25]; refine hR _ _ _ ?_; clear hR R)
  refine seqX_hide2 fun R hR => ?_
  simp [go_sem, hcz, hco, hcz', hco', d32, d23, d43, d34, d42, d24, d54, d45, d53, d35, d52, d25, toDefer]
  refine hR _ _ _ ?_; clear hR R
  rw [seqX_nil]
  refine hK _ _ _ ?_; clear hK K
  refine hN2 _ _ _ ?_
  refine xc_two fun N3 hN3 => ?_
  refine xc_reg1 7 rfl fun K hK => ?_
  simp only [show (List.range 7).map (·, true) = [(0, true), (1, true), (2, true), (3, true), (4, true), (5, true), (6, true)] from rfl, rslv_cons, rslv_nil, List.getElem?_toArray, List.getElem?_cons_zero, List.getElem?_cons_succ, gres]
  (refine seqX_hide2 fun R hR => ?_; simp [go_sem, hcz, hco, hcz', hco', d32, d23, d43, d34, d42, d24, d54, d45, d53, d35, d52, d25]; refine hR _ _ _ ?_; clear hR R)
  refine seqX_hide2 fun R hR => ?_
  simp [go_sem, hcz, hco, hcz', hco', d32, d23, d43, d34, d42, d24, d54, d45, d53, d35, d52, d25]
  refine call_ov hP (table36o v A c 50 hc hG (by decide) (by omega) (.inr h71)) ?_
  clear hP
  rintro _ A1 ⟨x, rfl, hA1, hx⟩ hP
  obtain ⟨r1, F1, J1, rfl, hT1, hF1, hJ1⟩ := hx.tf h71
  refine hR _ _ _ ?_; clear hR R
  iterate 5 (refine seqX_hide2 fun R hR => ?_; simp [go_sem, hcz, hco, hcz', hco', d32, d23, d43, d34, d42, d24, d54, d45, d53, d35, d52, d25]; refine hR _ _ _ ?_; clear hR R)
  rw [seqX_nil]
  refine hK _ _ _ ?_; clear hK K
  refine hN3 _ _ _ ?_
  refine xc_two fun N4 hN4 => ?_
  refine xc_reg1 7 rfl fun K hK => ?_
  simp only [show (List.range 7).map (·, true) = [(0, true), (1, true), (2, true), (3, true), (4, true), (5, true), (6, true)] from rfl, rslv_cons, rslv_nil, List.getElem?_toArray, List.getElem?_cons_zero, List.getElem?_cons_succ, gres]
  (refine seqX_hide2 fun R hR => ?_; simp [go_sem, hcz, hco, hcz', hco', d32, d23, d43, d34, d42, d24, d54, d45, d53, d35, d52, d25]; refine hR _ _ _ ?_; clear hR R)
  refine seqX_hide2 fun R hR => ?_
  simp [go_sem, hcz, hco, hcz', hco', d32, d23, d43, d34, d42, d24, d54, d45, d53, d35, d52, d25]
  refine call_ov hP (table36o w A1 c' 50 (hc'.le hA1) hG' (by decide) (by omega) (.inr h72)) ?_
  clear hP
  rintro _ A2 ⟨x, rfl, hA2, hx⟩ hP
  obtain ⟨r2, F2, J2, rfl, hT2, hF2, hJ2⟩ := hx.tf h72
  refine hR _ _ _ ?_; clear hR R
  iterate 5 (refine seqX_hide2 fun R hR => ?_; simp [go_sem, hcz, hco, hcz', hco', d32, d23, d43, d34, d42, d24, d54, d45, d53, d35, d52, d25]; refine hR _ _ _ ?_; clear hR R)
  rw [seqX_nil]
  refine hK _ _ _ ?_; clear hK K
  refine hN4 _ _ _ ?_
  refine xc_two fun N5 hN5 => ?_
  refine xc_two fun N6 hN6 => ?_
  refine xc_reg1 6 rfl fun K hK => ?_
  simp only [show (List.range 6).map (·, true) = [(0, true), (1, true), (2, true), (3, true), (4, true), (5, true)] from rfl, rslv_cons, rslv_nil, List.getElem?_toArray, List.getElem?_cons_zero, List.getElem?_cons_succ, gres]
  iterate 6 (refine seqX_hide2 fun R hR => ?_; simp [go_sem, hcz, hco, hcz', hco', d32, d23, d43, d34, d42, d24, d54, d45, d53, d35, d52, d25]; refine hR _ _ _ ?_; clear hR R)
  rw [seqX_nil]
  refine hK _ _ _ ?_; clear hK K
  refine hN6 _ _ _ ?_
  refine xc_iffalse (by simp [go_sem, hcz, hco, hcz', hco', d32, d23, d43, d34, d42, d24, d54, d45, d53, d35, d52, d25]) ?_
  refine hN5 _ _ _ ?_
  refine xc_two fun N7 hN7 => ?_
  refine xc_reg1 7 rfl fun K hK => ?_
  simp only [show (List.range 7).map (·, true) = [(0, true), (1, true), (2, true), (3, true), (4, true), (5, true), (6, true)] from rfl, rslv_cons, rslv_nil, List.getElem?_toArray, List.getElem?_cons_zero, List.getElem?_cons_succ, gres]
  iterate 2 (refine seqX_hide2 fun R hR => ?_; simp [go_sem, hcz, hco, hcz', hco', d32, d23, d43, d34, d42, d24, d54, d45, d53, d35, d52, d25]; refine hR _ _ _ ?_; clear hR R)
  refine seqX_hide2 fun R hR => ?_
  simp [go_sem, hcz, hco, hcz', hco', d32, d23, d43, d34, d42, d24, d54, d45, d53, d35, d52, d25]
  refine call_ov hP (tables51 (fun b => J1 b ∨ J2 b) A2 v w r1 r2 F1 F2 ((hT1.le hA2).imm fun b h => .inl h) (hT2.imm fun b h => .inr h) (fun b h1 h2 => (hF1 b h1).2.1 (hF2 b h2).1) (fun b h1 => ⟨fun hz => (hF1 b h1).2.1 (none_le hA2 hz), fun h => h.elim (hF1 b h1).2.2 fun h => (hF1 b h1).2.1 (hJ2 b h).1⟩) (fun b h2 => ⟨(hF2 b h2).2.1, fun h => h.elim (fun h => (hJ1 b h).2 (hF2 b h2).1) (hF2 b h2).2.2⟩) (fun b h => h.elim (fun h hz => (hJ1 b h).2 (none_le hA2 hz)) fun h => (hJ2 b h).2) h71 h72 hG hG' hk hk') ?_
  clear hP
  rintro _ A3 ⟨rfl, hO, F', hT'⟩ hP
  have hAA : A ≤ A3 := fun b o hb => hO b o (hA2 _ _ (hA1 _ _ hb)) (fun h => by rw [(hF1 b h).1] at hb; cases hb) (fun h => by have := (hF2 b h).1; rw [hA1 _ _ hb] at this; cases this)
  obtain ⟨hGc, hnc⟩ := good_coalR false w v 50 h71 h72 hG hG'
  have hany := OV.any _ _ F' 50 (TF.ov (kind_coalR h71 h72 hG') hT') hGc
  refine hR _ _ _ ?_; clear hR R
  (refine seqX_hide2 fun R hR => ?_; simp [go_sem, hcz, hco, hcz', hco', d32, d23, d43, d34, d42, d24, d54, d45, d53, d35, d52, d25]; refine hR _ _ _ ?_; clear hR R)
  refine seqX_hide2 fun R hR => ?_
  simp [go_sem, hcz, hco, hcz', hco', d32, d23, d43, d34, d42, d24, d54, d45, d53, d35, d52, d25]
  refine call_ov hP (value42 (coalR v false w) A3 _ 50 hany hGc (by omega)) ?_
  clear hP
  rintro _ A4 ⟨c2, rfl, hA4, hc2⟩ hP
  refine hR _ _ _ ?_; clear hR R
  refine seqX_hide2 fun R hR => ?_
  simp [go_sem, hcz, hco, hcz', hco', d32, d23, d43, d34, d42, d24, d54, d45, d53, d35, d52, d25, hc2.size, hc2.ones]
  refine hR _ _ _ ?_; clear hR R
  refine seqX_hide2 fun R hR => ?_
  simp [go_sem, hcz, hco, hcz', hco', d32, d23, d43, d34, d42, d24, d54, d45, d53, d35, d52, d25, hc2.size, hc2.ones]
  refine hR _ _ _ ?_; clear hR R
  rw [seqX_nil]
  refine hK _ _ _ ?_; clear hK K
  refine hN7 _ _ _ ?_
  have hidle : Idle Try.prog { target := .fn (.func 50) #[.pointer (some ⟨q4, 0, none⟩), .pointer (some ⟨q5, 0, none⟩)], args := #[] } := by
    intro w'
    exact ⟨_, _, 50, #[.pointer (some ⟨q4, 0, none⟩), .pointer (some ⟨q5, 0, none⟩)], rfl, by simp [go_sem, invoke], caught50 _ _ _⟩
  simp [go_sem, hcz, hco, hcz', hco', d32, d23, d43, d34, d42, d24, d54, d45, d53, d35, d52, d25, hc2.size, hc2.ones]
  refine ⟨hidle, View.le_trans hAA (View.le_trans hA4 ?_), hc2.le ?_⟩
  · exact le_ov hP
  · exact le_ov hP
end Go.Proofs.YtogfpbnbojhpoaaV

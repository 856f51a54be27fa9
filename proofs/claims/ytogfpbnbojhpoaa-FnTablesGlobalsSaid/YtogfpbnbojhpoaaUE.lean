/- Tables: spec.Coalesced. -/
import Derived.Test.YtogfpbnbojhpoaaUD
import Derived.Test.YtogfpbnbojhpoaaTU
namespace Go.Proofs.YtogfpbnbojhpoaaV
open Go.RowKit
set_option linter.unusedSimpArgs false
set_option linter.unusedVariables false
def K07 (v : RV) : Prop := kindOf v = 0 ∨ kindOf v = 7
def A18 (w : RV) : Prop := ∀ (A : View) (v : RV) (c c' : Array Value) (lv lv' : Nat) (mg : Bool), IsRV A v c → IsRV A w c' → Good v lv → Good w lv' → nodes v ≤ 20000 → nodes w ≤ 20000 → K07 v → K07 w →
  VCalls Try.prog 18 #[.agg c, .agg c', .bool mg] A fun r A' => ∃ c2, r = .agg c2 ∧ A ≤ A' ∧ IsRV A' (coalR v mg w) c2
set_option maxRecDepth 20000 in
set_option maxHeartbeats 8000000 in
theorem coal18_step (k : Int) (b : Bool) (i : Int) (f : Nat) (t : ByteArray) (keys : List ByteArray) (list : List RV) (ih : ∀ j (h : j < list.length), A18 list[j]) : A18 (.mk k b i f t keys list) := by
  intro A v cv cw lv lv' mg hv hw hG hG' hn hn' hkv hkw
  have hvz := hv.size
  have hvo := hv.ones
  have hwz := hw.size
  have hwo := hw.ones
  have hlv := lenR_nodes v
  have hlw := lenR_nodes (.mk k b i f t keys list)
  simp only [lenR] at hlw
  obtain ⟨k1, b1, i1, f1, t1, keys1, list1⟩ := v
  have hv0 := hv
  rw [IsRV] at hv0
  obtain ⟨ks1, ls1, rfl, hks1, -, ⟨bl1, cl1, rfl⟩, -⟩ := hv0
  have hw0 := hw
  rw [IsRV] at hw0
  obtain ⟨ks, ls, rfl, hks, hkl, ⟨bl, cl, rfl⟩, hel⟩ := hw0
  obtain ⟨bk, ck, rfl⟩ := hks.slice
  have hkw' : k = 0 ∨ k = 7 := hkw
  have hkv' : k1 = 0 ∨ k1 = 7 := hkv
  have hone1 : one ks1 = true := by
    obtain ⟨b9, c9, rfl⟩ := hks1.slice
    rfl
  refine xcalls Try.func18 rfl (by simp [Try.ntmps18]) ?_
  simp only [Try.f18]
  have hP : Priv A (addrs []) := Priv.nil A
  show xc _ _ _ _ _ _ (ov A [])
  rcases hkw' with rfl | rfl
  · skip
    refine xc_two fun N1 hN1 => ?_
    refine xc_reg1 3 rfl fun K hK => ?_
    simp only [show (List.range 3).map (·, true) = [(0, true), (1, true), (2, true)] from rfl, rslv_cons, rslv_nil, List.getElem?_toArray, List.getElem?_cons_zero, List.getElem?_cons_succ, gres]
    refine seqX_hide2 fun R hR => ?_
    simp [go_sem, hvz, hvo, hwz, hwo, hone1]
    intro q3 hq3
    replace hP := hP.cons hq3
    clear hq3
    refine hR _ _ _ ?_; clear hR R
    refine seqX_hide2 fun R hR => ?_
    simp [go_sem, hvz, hvo, hwz, hwo, hone1]
    intro q4 hq4
    replace hP := hP.cons hq4
    clear hq4
    have d43 : q4 ≠ q3 := (hP.ne q3 (by simp [addrs])).1
    have d34 : q3 ≠ q4 := (hP.ne q3 (by simp [addrs])).2
    refine hR _ _ _ ?_; clear hR R
    refine seqX_hide2 fun R hR => ?_
    simp [go_sem, hvz, hvo, hwz, hwo, hone1, d43, d34]
    intro q6 hq6
    replace hP := hP.cons hq6
    clear hq6
    have d64 : q6 ≠ q4 := (hP.ne q4 (by simp [addrs])).1
    have d46 : q4 ≠ q6 := (hP.ne q4 (by simp [addrs])).2
    have d63 : q6 ≠ q3 := (hP.ne q3 (by simp [addrs])).1
    have d36 : q3 ≠ q6 := (hP.ne q3 (by simp [addrs])).2
    refine hR _ _ _ ?_; clear hR R
    rw [seqX_nil]
    refine hK _ _ _ ?_; clear hK K
    refine hN1 _ _ _ ?_
    refine xc_two fun N2 hN2 => ?_
    refine xc_two fun N3 hN3 => ?_
    refine xc_reg1 3 rfl fun K hK => ?_
    simp only [show (List.range 3).map (·, true) = [(0, true), (1, true), (2, true)] from rfl, rslv_cons, rslv_nil, List.getElem?_toArray, List.getElem?_cons_zero, List.getElem?_cons_succ, gres]
    iterate 3 (refine seqX_hide2 fun R hR => ?_; simp [go_sem, hvz, hvo, hwz, hwo, hone1, d43, d34, d64, d46, d63, d36]; refine hR _ _ _ ?_; clear hR R)
    rw [seqX_nil]
    refine hK _ _ _ ?_; clear hK K
    refine hN3 _ _ _ ?_
    refine xc_iftrue (by simp [go_sem, hvz, hvo, hwz, hwo, hone1, d43, d34, d64, d46, d63, d36]) ?_
    refine xc_two fun N4 hN4 => ?_
    refine xc_reg1 2 rfl fun K hK => ?_
    simp only [show (List.range 2).map (·, true) = [(0, true), (1, true)] from rfl, rslv_cons, rslv_nil, List.getElem?_toArray, List.getElem?_cons_zero, List.getElem?_cons_succ, gres]
    (refine seqX_hide2 fun R hR => ?_; simp [go_sem, hvz, hvo, hwz, hwo, hone1, d43, d34, d64, d46, d63, d36]; refine hR _ _ _ ?_; clear hR R)
    refine seqX_hide2 fun R hR => ?_
    simp [go_sem, hvz, hvo, hwz, hwo, hone1, d43, d34, d64, d46, d63, d36]
    refine hR _ _ _ ?_; clear hR R
    rw [seqX_nil]
    refine hK _ _ _ ?_; clear hK K
    refine hN4 _ _ _ ?_
    simp [go_sem, hvz, hvo, hwz, hwo, hone1, d43, d34, d64, d46, d63, d36]
    rw [coalR, if_pos rfl]
    refine ⟨?_, hv.le ?_⟩
    · exact le_ov hP
    · exact le_ov hP
  rcases hkv' with rfl | rfl
  · skip
    refine xc_two fun N1 hN1 => ?_
    refine xc_reg1 3 rfl fun K hK => ?_
    simp only [show (List.range 3).map (·, true) = [(0, true), (1, true), (2, true)] from rfl, rslv_cons, rslv_nil, List.getElem?_toArray, List.getElem?_cons_zero, List.getElem?_cons_succ, gres]
    refine seqX_hide2 fun R hR => ?_
    simp [go_sem, hvz, hvo, hwz, hwo, hone1]
    intro q3 hq3
    replace hP := hP.cons hq3
    clear hq3
    refine hR _ _ _ ?_; clear hR R
    refine seqX_hide2 fun R hR => ?_
    simp [go_sem, hvz, hvo, hwz, hwo, hone1]
    intro q4 hq4
    replace hP := hP.cons hq4
    clear hq4
    have d43 : q4 ≠ q3 := (hP.ne q3 (by simp [addrs])).1
    have d34 : q3 ≠ q4 := (hP.ne q3 (by simp [addrs])).2
    refine hR _ _ _ ?_; clear hR R
    refine seqX_hide2 fun R hR => ?_
    simp [go_sem, hvz, hvo, hwz, hwo, hone1, d43, d34]
    intro q6 hq6
    replace hP := hP.cons hq6
    clear hq6
    have d64 : q6 ≠ q4 := (hP.ne q4 (by simp [addrs])).1
    have d46 : q4 ≠ q6 := (hP.ne q4 (by simp [addrs])).2
    have d63 : q6 ≠ q3 := (hP.ne q3 (by simp [addrs])).1
    have d36 : q3 ≠ q6 := (hP.ne q3 (by simp [addrs])).2
    refine hR _ _ _ ?_; clear hR R
    rw [seqX_nil]
    refine hK _ _ _ ?_; clear hK K
    refine hN1 _ _ _ ?_
    refine xc_two fun N2 hN2 => ?_
    refine xc_two fun N3 hN3 => ?_
    refine xc_reg1 3 rfl fun K hK => ?_
    simp only [show (List.range 3).map (·, true) = [(0, true), (1, true), (2, true)] from rfl, rslv_cons, rslv_nil, List.getElem?_toArray, List.getElem?_cons_zero, List.getElem?_cons_succ, gres]
    iterate 3 (refine seqX_hide2 fun R hR => ?_; simp [go_sem, hvz, hvo, hwz, hwo, hone1, d43, d34, d64, d46, d63, d36]; refine hR _ _ _ ?_; clear hR R)
    rw [seqX_nil]
    refine hK _ _ _ ?_; clear hK K
    refine hN3 _ _ _ ?_
    refine xc_iffalse (by simp [go_sem, hvz, hvo, hwz, hwo, hone1, d43, d34, d64, d46, d63, d36]) ?_
    refine hN2 _ _ _ ?_
    refine xc_two fun N4 hN4 => ?_
    refine xc_two fun N5 hN5 => ?_
    refine xc_reg1 3 rfl fun K hK => ?_
    simp only [show (List.range 3).map (·, true) = [(0, true), (1, true), (2, true)] from rfl, rslv_cons, rslv_nil, List.getElem?_toArray, List.getElem?_cons_zero, List.getElem?_cons_succ, gres]
    iterate 3 (refine seqX_hide2 fun R hR => ?_; simp [go_sem, hvz, hvo, hwz, hwo, hone1, d43, d34, d64, d46, d63, d36]; refine hR _ _ _ ?_; clear hR R)
    rw [seqX_nil]
    refine hK _ _ _ ?_; clear hK K
    refine hN5 _ _ _ ?_
    refine xc_iftrue (by simp [go_sem, hvz, hvo, hwz, hwo, hone1, d43, d34, d64, d46, d63, d36]) ?_
    refine xc_two fun N6 hN6 => ?_
    refine xc_reg1 2 rfl fun K hK => ?_
    simp only [show (List.range 2).map (·, true) = [(0, true), (1, true)] from rfl, rslv_cons, rslv_nil, List.getElem?_toArray, List.getElem?_cons_zero, List.getElem?_cons_succ, gres]
    (refine seqX_hide2 fun R hR => ?_; simp [go_sem, hvz, hvo, hwz, hwo, hone1, d43, d34, d64, d46, d63, d36]; refine hR _ _ _ ?_; clear hR R)
    refine seqX_hide2 fun R hR => ?_
    simp [go_sem, hvz, hvo, hwz, hwo, hone1, d43, d34, d64, d46, d63, d36]
    refine hR _ _ _ ?_; clear hR R
    rw [seqX_nil]
    refine hK _ _ _ ?_; clear hK K
    refine hN6 _ _ _ ?_
    simp [go_sem, hvz, hvo, hwz, hwo, hone1, d43, d34, d64, d46, d63, d36]
    rw [coalR, if_neg (by decide), if_pos (show kindOf (.mk 0 b1 i1 f1 t1 keys1 list1) = 0 from rfl)]
    refine ⟨?_, hw.le ?_⟩
    · exact le_ov hP
    · exact le_ov hP
  have hpl : Pl (.mk 7 b1 i1 f1 t1 keys1 list1) := good_pl rfl hG (by omega)
  have hplw : Pl (.mk 7 b i f t keys list) := good_pl rfl hG' (by simp only [lenR]; omega)
  have hlen : keys.length = list.length := hplw.1
  have hwk0 : coalR (.mk 7 b1 i1 f1 t1 keys1 list1) mg (.mk 7 b i f t keys list) = coalL (.mk 7 b1 i1 f1 t1 keys1 list1) mg (.mk 7 b1 i1 f1 t1 keys1 list1) keys list := by
    rw [coalR, if_neg (by decide)]
    exact if_neg (show ¬ (7 : Int) = 0 by decide)
  rw [hwk0]
  rw [Good] at hG'
  obtain ⟨-, -, -, -, hGs'⟩ := hG'
  have hSn : list.length ≤ 20000 := by omega
  rw [nodes_mk] at hn'
  refine xc_two fun N1 hN1 => ?_
  refine xc_reg1 3 rfl fun K hK => ?_
  simp only [show (List.range 3).map (·, true) = [(0, true), (1, true), (2, true)] from rfl, rslv_cons, rslv_nil, List.getElem?_toArray, List.getElem?_cons_zero, List.getElem?_cons_succ, gres]
  refine seqX_hide2 fun R hR => ?_
  simp [go_sem, hvz, hvo, hwz, hwo, hone1]
  intro q3 hq3
  replace hP := hP.cons hq3
  clear hq3
  refine hR _ _ _ ?_; clear hR R
  refine seqX_hide2 fun R hR => ?_
  simp [go_sem, hvz, hvo, hwz, hwo, hone1]
  intro q4 hq4
  replace hP := hP.cons hq4
  clear hq4
  have d43 : q4 ≠ q3 := (hP.ne q3 (by simp [addrs])).1
  have d34 : q3 ≠ q4 := (hP.ne q3 (by simp [addrs])).2
  refine hR _ _ _ ?_; clear hR R
  refine seqX_hide2 fun R hR => ?_
  simp [go_sem, hvz, hvo, hwz, hwo, hone1, d43, d34]
  intro q6 hq6
  replace hP := hP.cons hq6
  clear hq6
  have d64 : q6 ≠ q4 := (hP.ne q4 (by simp [addrs])).1
  have d46 : q4 ≠ q6 := (hP.ne q4 (by simp [addrs])).2
  have d63 : q6 ≠ q3 := (hP.ne q3 (by simp [addrs])).1
  have d36 : q3 ≠ q6 := (hP.ne q3 (by simp [addrs])).2
  refine hR _ _ _ ?_; clear hR R
  rw [seqX_nil]
  refine hK _ _ _ ?_; clear hK K
  refine hN1 _ _ _ ?_
  refine xc_two fun N2 hN2 => ?_
  refine xc_two fun N3 hN3 => ?_
  refine xc_reg1 3 rfl fun K hK => ?_
  simp only [show (List.range 3).map (·, true) = [(0, true), (1, true), (2, true)] from rfl, rslv_cons, rslv_nil, List.getElem?_toArray, List.getElem?_cons_zero, List.getElem?_cons_succ, gres]
  iterate 3 (refine seqX_hide2 fun R hR => ?_; simp [go_sem, hvz, hvo, hwz, hwo, hone1, d43, d34, d64, d46, d63, d36]; refine hR _ _ _ ?_; clear hR R)
  rw [seqX_nil]
  refine hK _ _ _ ?_; clear hK K
  refine hN3 _ _ _ ?_
  refine xc_iffalse (by simp [go_sem, hvz, hvo, hwz, hwo, hone1, d43, d34, d64, d46, d63, d36]) ?_
  refine hN2 _ _ _ ?_
  refine xc_two fun N4 hN4 => ?_
  refine xc_two fun N5 hN5 => ?_
  refine xc_reg1 3 rfl fun K hK => ?_
  simp only [show (List.range 3).map (·, true) = [(0, true), (1, true), (2, true)] from rfl, rslv_cons, rslv_nil, List.getElem?_toArray, List.getElem?_cons_zero, List.getElem?_cons_succ, gres]
  iterate 3 (refine seqX_hide2 fun R hR => ?_; simp [go_sem, hvz, hvo, hwz, hwo, hone1, d43, d34, d64, d46, d63, d36]; refine hR _ _ _ ?_; clear hR R)
  rw [seqX_nil]
  refine hK _ _ _ ?_; clear hK K
  refine hN5 _ _ _ ?_
  refine xc_iffalse (by simp [go_sem, hvz, hvo, hwz, hwo, hone1, d43, d34, d64, d46, d63, d36]) ?_
  refine hN4 _ _ _ ?_
  refine xc_two fun N6 hN6 => ?_
  refine xc_reg1 3 rfl fun K hK => ?_
  simp only [show (List.range 3).map (·, true) = [(0, true), (1, true), (2, true)] from rfl, rslv_cons, rslv_nil, List.getElem?_toArray, List.getElem?_cons_zero, List.getElem?_cons_succ, gres]
  (refine seqX_hide2 fun R hR => ?_; simp [go_sem, hvz, hvo, hwz, hwo, hone1, d43, d34, d64, d46, d63, d36]; refine hR _ _ _ ?_; clear hR R)
  refine seqX_hide2 fun R hR => ?_
  simp [go_sem, hvz, hvo, hwz, hwo, hone1, d43, d34, d64, d46, d63, d36]
  intro q7 hq7
  replace hP := hP.cons hq7
  clear hq7
  have d76 : q7 ≠ q6 := (hP.ne q6 (by simp [addrs])).1
  have d67 : q6 ≠ q7 := (hP.ne q6 (by simp [addrs])).2
  have d74 : q7 ≠ q4 := (hP.ne q4 (by simp [addrs])).1
  have d47 : q4 ≠ q7 := (hP.ne q4 (by simp [addrs])).2
  have d73 : q7 ≠ q3 := (hP.ne q3 (by simp [addrs])).1
  have d37 : q3 ≠ q7 := (hP.ne q3 (by simp [addrs])).2
  refine hR _ _ _ ?_; clear hR R
  refine seqX_hide2 fun R hR => ?_
  simp [go_sem, hvz, hvo, hwz, hwo, hone1, d43, d34, d64, d46, d63, d36, d76, d67, d74, d47, d73, d37]
  refine hR _ _ _ ?_; clear hR R
  rw [seqX_nil]
  refine hK _ _ _ ?_; clear hK K
  refine hN6 _ _ _ ?_
  refine xc_two fun N7 hN7 => ?_
  refine xc_two fun N8 hN8 => ?_
  refine xc_reg1 4 rfl fun K hK => ?_
  simp only [show (List.range 4).map (·, true) = [(0, true), (1, true), (2, true), (3, true)] from rfl, rslv_cons, rslv_nil, List.getElem?_toArray, List.getElem?_cons_zero, List.getElem?_cons_succ, gres]
  iterate 4 (refine seqX_hide2 fun R hR => ?_; simp [go_sem, hvz, hvo, hwz, hwo, hone1, d43, d34, d64, d46, d63, d36, d76, d67, d74, d47, d73, d37]; refine hR _ _ _ ?_; clear hR R)
  rw [seqX_nil]
  refine hK _ _ _ ?_; clear hK K
  refine hN8 _ _ _ ?_
  rw [xc_block]
  generalize hv7 : RV.mk 7 b1 i1 f1 t1 keys1 list1 = v at hv hG hn hkv hlv hpl ⊢
  rw [xc_loop]
  refine vloopK (fun k' e ds A' => ∃ (j : Nat) (D : View) (out : RV) (co : Array Value), k' = keys.length - j ∧ ds = [] ∧ A' = ov D [(q7, .cells co 27 (0, 0)), (q6, .cells zc 27 (0, 0)), (q4, .cells (rvc 7 b i f t (.slice bk keys.length ck) (.slice bl list.length cl)) 27 (0, 0)), (q3, .cells (rvc 7 b1 i1 f1 t1 ks1 (.slice bl1 list1.length cl1)) 27 (0, 0))] ∧ Priv D [q7, q6, q4, q3] ∧ e 2 = .bool mg ∧ e 3 = .pointer (some ⟨q3, 0, none⟩) ∧ e 4 = .pointer (some ⟨q4, 0, none⟩) ∧ e 6 = .pointer (some ⟨q6, 0, none⟩) ∧ e 7 = .pointer (some ⟨q7, 0, none⟩) ∧ e 22 = .slice bk keys.length ck ∧ e 23 = .int .i64 keys.length ∧ e 24 = .int .i64 j ∧ (j ≤ keys.length) ∧ (A ≤ D) ∧ (IsRV D out co) ∧ (Pl out) ∧ (lenR out ≤ lenR v + j) ∧ (coalL v mg out (keys.drop j) (list.drop j) = coalL v mg v keys list)) _ ⟨0, A, v, (rvc 7 b1 i1 f1 t1 ks1 (.slice bl1 list1.length cl1)), rfl, rfl, rfl, hP, by simp [go_sem, hvz, hvo, hwz, hwo, hone1, d43, d34, d64, d46, d63, d36, d76, d67, d74, d47, d73, d37], by simp [go_sem, hvz, hvo, hwz, hwo, hone1, d43, d34, d64, d46, d63, d36, d76, d67, d74, d47, d73, d37], by simp [go_sem, hvz, hvo, hwz, hwo, hone1, d43, d34, d64, d46, d63, d36, d76, d67, d74, d47, d73, d37], by simp [go_sem, hvz, hvo, hwz, hwo, hone1, d43, d34, d64, d46, d63, d36, d76, d67, d74, d47, d73, d37], by simp [go_sem, hvz, hvo, hwz, hwo, hone1, d43, d34, d64, d46, d63, d36, d76, d67, d74, d47, d73, d37], by simp [go_sem, hvz, hvo, hwz, hwo, hone1, d43, d34, d64, d46, d63, d36, d76, d67, d74, d47, d73, d37], by simp [go_sem, hvz, hvo, hwz, hwo, hone1, d43, d34, d64, d46, d63, d36, d76, d67, d74, d47, d73, d37], by simp [go_sem, hvz, hvo, hwz, hwo, hone1, d43, d34, d64, d46, d63, d36, d76, d67, d74, d47, d73, d37], by omega, View.le_refl _, hv, hpl, by omega, by simp⟩ ?_
  clear hP
  rintro k' e ds _ ⟨j, D, out, co, rfl, rfl, rfl, hP, g2, g3, g4, g6, g7, g22, g23, g24, hjl, hAD, hco, hpo, hlo, hwk⟩ J1 X1 hJ1 hX1
  refine xc_sound _ ?_
  have hw1 := wrap_nat (i := j) (by omega)
  by_cases hj : j < keys.length
  · obtain ⟨a, cap, f1, u1⟩ := hks.at' hj
    simp only [Value.slice.injEq] at f1
    obtain ⟨rfl, -, rfl⟩ := f1
    obtain ⟨a2, cap2, cj, f2, u2, hcj⟩ := hel j (by omega)
    simp only [Value.slice.injEq] at f2
    obtain ⟨rfl, -, rfl⟩ := f2
    have hj2 : j < list.length := by omega
    have x1 := le_cell hAD u1
    have ihj := ih j hj2
    have hGj := hGs' j hj2
    have hnj : nodes list[j] ≤ 20000 := by
      have h4 := S_mono list (j + 1) list.length hj2
      have h5 := S_succ list j hj2
      rw [S_all] at h4
      omega
    rw [List.drop_eq_getElem_cons hj, List.drop_eq_getElem_cons hj2, coalL_cons] at hwk
    have hplS := pl_coalS (dst := v) (mg := mg) (s := keys[j]) (x := list[j]) hpo (by omega)
    have hllS := lenR_coalS v mg out keys[j] list[j]
    refine xc_two fun N9 hN9 => ?_
    refine xc_reg1 1 rfl fun K hK => ?_
    simp only [show (List.range 1).map (·, true) = [(0, true)] from rfl, rslv_cons, rslv_nil, List.getElem?_toArray, List.getElem?_cons_zero, List.getElem?_cons_succ, gres]
    (refine seqX_hide2 fun R hR => ?_; simp [go_sem, hvz, hvo, hwz, hwo, hone1, d43, d34, d64, d46, d63, d36, d76, d67, d74, d47, d73, d37, g2, g3, g4, g6, g7, g22, g23, g24, hj, hj2, hw1, bc hP x1, hcj.size, hcj.ones]; refine hR _ _ _ ?_; clear hR R)
    rw [seqX_nil]
    refine hK _ _ _ ?_; clear hK K
    refine hN9 _ _ _ ?_
    refine xc_two fun N10 hN10 => ?_
    refine xc_iftrue (by simp [go_sem, hvz, hvo, hwz, hwo, hone1, d43, d34, d64, d46, d63, d36, d76, d67, d74, d47, d73, d37, g2, g3, g4, g6, g7, g22, g23, g24, hj, hj2, hw1, bc hP x1, hcj.size, hcj.ones]) ?_
    refine hN10 _ _ _ ?_
    refine xc_two fun N11 hN11 => ?_
    rw [xc_block]
    refine xc_two fun N12 hN12 => ?_
    refine xc_reg1 5 rfl fun K hK => ?_
    simp only [show (List.range 5).map (·, true) = [(0, true), (1, true), (2, true), (3, true), (4, true)] from rfl, rslv_cons, rslv_nil, List.getElem?_toArray, List.getElem?_cons_zero, List.getElem?_cons_succ, gres]
    iterate 5 (refine seqX_hide2 fun R hR => ?_; simp [go_sem, hvz, hvo, hwz, hwo, hone1, d43, d34, d64, d46, d63, d36, d76, d67, d74, d47, d73, d37, g2, g3, g4, g6, g7, g22, g23, g24, hj, hj2, hw1, bc hP x1, hcj.size, hcj.ones]; refine hR _ _ _ ?_; clear hR R)
    rw [seqX_nil]
    refine hK _ _ _ ?_; clear hK K
    refine hN12 _ _ _ ?_
    refine xc_two fun N13 hN13 => ?_
    refine xc_reg1 9 rfl fun K hK => ?_
    simp only [show (List.range 9).map (·, true) = [(0, true), (1, true), (2, true), (3, true), (4, true), (5, true), (6, true), (7, true), (8, true)] from rfl, rslv_cons, rslv_nil, List.getElem?_toArray, List.getElem?_cons_zero, List.getElem?_cons_succ, gres]
    iterate 2 (refine seqX_hide2 fun R hR => ?_; simp [go_sem, hvz, hvo, hwz, hwo, hone1, d43, d34, d64, d46, d63, d36, d76, d67, d74, d47, d73, d37, g2, g3, g4, g6, g7, g22, g23, g24, hj, hj2, hw1, bc hP x1, hcj.size, hcj.ones]; refine hR _ _ _ ?_; clear hR R)
    refine seqX_hide2 fun R hR => ?_
    simp [go_sem, hvz, hvo, hwz, hwo, hone1, d43, d34, d64, d46, d63, d36, d76, d67, d74, d47, d73, d37, g2, g3, g4, g6, g7, g22, g23, g24, hj, hj2, hw1, bc hP x1, hcj.size, hcj.ones]
    refine call_ov hP (at40 D v (rvc 7 b1 i1 f1 t1 ks1 (.slice bl1 list1.length cl1)) lv keys[j] (hv.le hAD) hG) ?_
    clear hP
    rintro r D1 ⟨hF, hD1⟩ hP
    have hA1 := View.le_trans hAD hD1
    have hv1 := hv.le hA1
    have hcj1 := hcj.le hA1
    have hco1 := hco.le hD1
    have hcz := hco.size
    have hcoo := hco.ones
    have x2 := le_cells hA1 _ _ _ u2
    have x3 := kind_cell hcj1 x2
    have hF2 : ∃ (cy : Array Value) (y : RV) (z : Bool), r = .tuple #[.agg cy, .bool z] ∧ IsRV D1 y cy ∧ ((z = true ∧ at' v keys[j] = some y) ∨ (z = false ∧ at' v keys[j] = none)) := by
      rcases hF with ⟨u, c', h1, rfl, h3⟩ | ⟨h1, rfl⟩
      · exact ⟨c', u, true, rfl, h3, .inl ⟨rfl, h1⟩⟩
      · exact ⟨zc, rz, false, rfl, rz_is D1, .inr ⟨rfl, h1⟩⟩
    obtain ⟨cy, y, z, rfl, hy, hyz⟩ := hF2
    clear hF
    have hyz1 := hy.size
    have hyo := hy.ones
    have hyk := hy.kind1
    refine hR _ _ _ ?_; clear hR R
    iterate 3 (refine seqX_hide2 fun R hR => ?_; simp [go_sem, hvz, hvo, hwz, hwo, hone1, d43, d34, d64, d46, d63, d36, d76, d67, d74, d47, d73, d37, g2, g3, g4, g6, g7, g22, g23, g24, hj, hj2, hw1, hcj.size, hcj.ones, bcs hP x2, bc hP x3, hcz, hcoo, hyz1, hyo, hyk]; refine hR _ _ _ ?_; clear hR R)
    refine seqX_hide2 fun R hR => ?_
    simp [go_sem, hvz, hvo, hwz, hwo, hone1, d43, d34, d64, d46, d63, d36, d76, d67, d74, d47, d73, d37, g2, g3, g4, g6, g7, g22, g23, g24, hj, hj2, hw1, hcj.size, hcj.ones, bcs hP x2, bc hP x3, hcz, hcoo, hyz1, hyo, hyk]
    intro q10 hq10
    replace hP := hP.cons hq10
    clear hq10
    have d107 : q10 ≠ q7 := (hP.ne q7 (by simp [addrs])).1
    have d710 : q7 ≠ q10 := (hP.ne q7 (by simp [addrs])).2
    have d106 : q10 ≠ q6 := (hP.ne q6 (by simp [addrs])).1
    have d610 : q6 ≠ q10 := (hP.ne q6 (by simp [addrs])).2
    have d104 : q10 ≠ q4 := (hP.ne q4 (by simp [addrs])).1
    have d410 : q4 ≠ q10 := (hP.ne q4 (by simp [addrs])).2
    have d103 : q10 ≠ q3 := (hP.ne q3 (by simp [addrs])).1
    have d310 : q3 ≠ q10 := (hP.ne q3 (by simp [addrs])).2
    refine hR _ _ _ ?_; clear hR R
    refine seqX_hide2 fun R hR => ?_
    simp [go_sem, hvz, hvo, hwz, hwo, hone1, d43, d34, d64, d46, d63, d36, d76, d67, d74, d47, d73, d37, g2, g3, g4, g6, g7, g22, g23, g24, hj, hj2, hw1, hcj.size, hcj.ones, bcs hP x2, bc hP x3, hcz, hcoo, hyz1, hyo, hyk, d107, d710, d106, d610, d104, d410, d103, d310]
    refine hR _ _ _ ?_; clear hR R
    (refine seqX_hide2 fun R hR => ?_; simp [go_sem, hvz, hvo, hwz, hwo, hone1, d43, d34, d64, d46, d63, d36, d76, d67, d74, d47, d73, d37, g2, g3, g4, g6, g7, g22, g23, g24, hj, hj2, hw1, hcj.size, hcj.ones, bcs hP x2, bc hP x3, hcz, hcoo, hyz1, hyo, hyk, d107, d710, d106, d610, d104, d410, d103, d310]; refine hR _ _ _ ?_; clear hR R)
    rw [seqX_nil]
    refine hK _ _ _ ?_; clear hK K
    refine hN13 _ _ _ ?_
    rw [xc_block]
    refine xc_two fun N14 hN14 => ?_
    have tail : ∀ (D' : View) (out' : RV) (co' : Array Value) (e : Env), Priv D' [q10, q7, q6, q4, q3] → e 2 = .bool mg → e 3 = .pointer (some ⟨q3, 0, none⟩) → e 4 = .pointer (some ⟨q4, 0, none⟩) → e 6 = .pointer (some ⟨q6, 0, none⟩) → e 7 = .pointer (some ⟨q7, 0, none⟩) → e 22 = .slice (some a) keys.length ck → e 23 = .int .i64 keys.length → e 24 = .int .i64 j → (A ≤ D') → (IsRV D' out' co') → (out' = coalS v mg out keys[j] list[j]) → N11 e [] (ov D' [(q10, .cells cy 27 (0, 0)), (q7, .cells co' 27 (0, 0)), (q6, .cells zc 27 (0, 0)), (q4, .cells (rvc 7 b i f t (.slice (some a) keys.length ck) (.slice (some a2) list.length cl)) 27 (0, 0)), (q3, .cells (rvc 7 b1 i1 f1 t1 ks1 (.slice bl1 list1.length cl1)) 27 (0, 0))]) := by
      clear g2 g3 g4 g6 g7 g22 g23 g24
      clear hP
      intro D' out' co' e hP g2 g3 g4 g6 g7 g22 g23 g24 hAD' hco' hwk'
      refine hN11 _ _ _ ?_
      subst hwk'
      refine xc_reg1 2 rfl fun K hK => ?_
      simp only [show (List.range 2).map (·, true) = [(0, true), (1, true)] from rfl, rslv_cons, rslv_nil, List.getElem?_toArray, List.getElem?_cons_zero, List.getElem?_cons_succ, gres]
      iterate 2 (refine seqX_hide2 fun R hR => ?_; simp [go_sem, hvz, hvo, hwz, hwo, hone1, d43, d34, d64, d46, d63, d36, d76, d67, d74, d47, d73, d37, hj, hj2, hw1, hcj.size, hcj.ones, hcz, hcoo, hyz1, hyo, hyk, d107, d710, d106, d610, d104, d410, d103, d310, g2, g3, g4, g6, g7, g22, g23, g24]; refine hR _ _ _ ?_; clear hR R)
      rw [seqX_nil]
      refine hK _ _ _ ?_; clear hK K
      refine sink_goal 0 hP rfl fun hPn lq10 nq10 => ?_
      clear hP; have hP := hPn; clear hPn
      simp only [List.eraseIdx_cons_zero, List.eraseIdx_cons_succ, addrs_cons, addrs_nil] at hP ⊢
      refine hJ1 (keys.length - (j + 1)) _ _ _ (by omega) ⟨j + 1, _, _, co', rfl, rfl, rfl, hP, by simp [go_sem, hvz, hvo, hwz, hwo, hone1, d43, d34, d64, d46, d63, d36, d76, d67, d74, d47, d73, d37, hj, hj2, hw1, hcj.size, hcj.ones, hcz, hcoo, hyz1, hyo, hyk, d107, d710, d106, d610, d104, d410, d103, d310, g2, g3, g4, g6, g7, g22, g23, g24], by simp [go_sem, hvz, hvo, hwz, hwo, hone1, d43, d34, d64, d46, d63, d36, d76, d67, d74, d47, d73, d37, hj, hj2, hw1, hcj.size, hcj.ones, hcz, hcoo, hyz1, hyo, hyk, d107, d710, d106, d610, d104, d410, d103, d310, g2, g3, g4, g6, g7, g22, g23, g24], by simp [go_sem, hvz, hvo, hwz, hwo, hone1, d43, d34, d64, d46, d63, d36, d76, d67, d74, d47, d73, d37, hj, hj2, hw1, hcj.size, hcj.ones, hcz, hcoo, hyz1, hyo, hyk, d107, d710, d106, d610, d104, d410, d103, d310, g2, g3, g4, g6, g7, g22, g23, g24], by simp [go_sem, hvz, hvo, hwz, hwo, hone1, d43, d34, d64, d46, d63, d36, d76, d67, d74, d47, d73, d37, hj, hj2, hw1, hcj.size, hcj.ones, hcz, hcoo, hyz1, hyo, hyk, d107, d710, d106, d610, d104, d410, d103, d310, g2, g3, g4, g6, g7, g22, g23, g24], by simp [go_sem, hvz, hvo, hwz, hwo, hone1, d43, d34, d64, d46, d63, d36, d76, d67, d74, d47, d73, d37, hj, hj2, hw1, hcj.size, hcj.ones, hcz, hcoo, hyz1, hyo, hyk, d107, d710, d106, d610, d104, d410, d103, d310, g2, g3, g4, g6, g7, g22, g23, g24], by simp [go_sem, hvz, hvo, hwz, hwo, hone1, d43, d34, d64, d46, d63, d36, d76, d67, d74, d47, d73, d37, hj, hj2, hw1, hcj.size, hcj.ones, hcz, hcoo, hyz1, hyo, hyk, d107, d710, d106, d610, d104, d410, d103, d310, g2, g3, g4, g6, g7, g22, g23, g24], by simp [go_sem, hvz, hvo, hwz, hwo, hone1, d43, d34, d64, d46, d63, d36, d76, d67, d74, d47, d73, d37, hj, hj2, hw1, hcj.size, hcj.ones, hcz, hcoo, hyz1, hyo, hyk, d107, d710, d106, d610, d104, d410, d103, d310, g2, g3, g4, g6, g7, g22, g23, g24], by simp [go_sem, hvz, hvo, hwz, hwo, hone1, d43, d34, d64, d46, d63, d36, d76, d67, d74, d47, d73, d37, hj, hj2, hw1, hcj.size, hcj.ones, hcz, hcoo, hyz1, hyo, hyk, d107, d710, d106, d610, d104, d410, d103, d310, g2, g3, g4, g6, g7, g22, g23, g24], by omega, View.le_trans hAD' lq10, hco'.le lq10, hplS, by omega, hwk⟩
    have hkb0 : ∀ u : RV, (kindOf u == 0) = decide (kindOf u = 0) := fun u => by rw [Bool.eq_iff_iff]; simp
    have hkb7 : ∀ u : RV, (kindOf u == 7) = decide (kindOf u = 7) := fun u => by rw [Bool.eq_iff_iff]; simp
    rcases hyz with ⟨rfl, hat⟩ | ⟨rfl, hat⟩
    · have hGy := good_at hG hat
      have hny := nodes_at hat
      by_cases k0 : kindOf y = 0
      · by_cases kj0 : kindOf list[j] = 0
        · skip
          refine xc_reg1 3 rfl fun K hK => ?_
          simp only [show (List.range 3).map (·, true) = [(0, true), (1, true), (2, true)] from rfl, rslv_cons, rslv_nil, List.getElem?_toArray, List.getElem?_cons_zero, List.getElem?_cons_succ, gres]
          iterate 3 (refine seqX_hide2 fun R hR => ?_; simp [go_sem, hvz, hvo, hwz, hwo, hone1, d43, d34, d64, d46, d63, d36, d76, d67, d74, d47, d73, d37, g2, g3, g4, g6, g7, g22, g23, g24, hj, hj2, hw1, hcj.size, hcj.ones, bcs hP x2, bc hP x3, hcz, hcoo, hyz1, hyo, hyk, d107, d710, d106, d610, d104, d410, d103, d310, k0, kj0]; refine hR _ _ _ ?_; clear hR R)
          rw [seqX_nil]
          refine hK _ _ _ ?_; clear hK K
          refine hN14 _ _ _ ?_
          refine xc_iffalse (by simp [go_sem, hvz, hvo, hwz, hwo, hone1, d43, d34, d64, d46, d63, d36, d76, d67, d74, d47, d73, d37, g2, g3, g4, g6, g7, g22, g23, g24, hj, hj2, hw1, hcj.size, hcj.ones, bcs hP x2, bc hP x3, hcz, hcoo, hyz1, hyo, hyk, d107, d710, d106, d610, d104, d410, d103, d310, k0, kj0]) ?_
          refine xc_two fun N15 hN15 => ?_
          refine xc_reg1 13 rfl fun K hK => ?_
          simp only [show (List.range 13).map (·, true) = [(0, true), (1, true), (2, true), (3, true), (4, true), (5, true), (6, true), (7, true), (8, true), (9, true), (10, true), (11, true), (12, true)] from rfl, rslv_cons, rslv_nil, List.getElem?_toArray, List.getElem?_cons_zero, List.getElem?_cons_succ, gres]
          iterate 13 (refine seqX_hide2 fun R hR => ?_; simp [go_sem, hvz, hvo, hwz, hwo, hone1, d43, d34, d64, d46, d63, d36, d76, d67, d74, d47, d73, d37, g2, g3, g4, g6, g7, g22, g23, g24, hj, hj2, hw1, hcj.size, hcj.ones, bcs hP x2, bc hP x3, hcz, hcoo, hyz1, hyo, hyk, d107, d710, d106, d610, d104, d410, d103, d310, k0, kj0]; refine hR _ _ _ ?_; clear hR R)
          rw [seqX_nil]
          refine hK _ _ _ ?_; clear hK K
          refine hN15 _ _ _ ?_
          refine xc_iftrue (by simp [go_sem, hvz, hvo, hwz, hwo, hone1, d43, d34, d64, d46, d63, d36, d76, d67, d74, d47, d73, d37, g2, g3, g4, g6, g7, g22, g23, g24, hj, hj2, hw1, hcj.size, hcj.ones, bcs hP x2, bc hP x3, hcz, hcoo, hyz1, hyo, hyk, d107, d710, d106, d610, d104, d410, d103, d310, k0, kj0]) ?_
          exact tail (D1) (out) (co) _ hP (by simp [go_sem, hvz, hvo, hwz, hwo, hone1, d43, d34, d64, d46, d63, d36, d76, d67, d74, d47, d73, d37, g2, g3, g4, g6, g7, g22, g23, g24, hj, hj2, hw1, hcj.size, hcj.ones, bcs hP x2, bc hP x3, hcz, hcoo, hyz1, hyo, hyk, d107, d710, d106, d610, d104, d410, d103, d310, k0, kj0]) (by simp [go_sem, hvz, hvo, hwz, hwo, hone1, d43, d34, d64, d46, d63, d36, d76, d67, d74, d47, d73, d37, g2, g3, g4, g6, g7, g22, g23, g24, hj, hj2, hw1, hcj.size, hcj.ones, bcs hP x2, bc hP x3, hcz, hcoo, hyz1, hyo, hyk, d107, d710, d106, d610, d104, d410, d103, d310, k0, kj0]) (by simp [go_sem, hvz, hvo, hwz, hwo, hone1, d43, d34, d64, d46, d63, d36, d76, d67, d74, d47, d73, d37, g2, g3, g4, g6, g7, g22, g23, g24, hj, hj2, hw1, hcj.size, hcj.ones, bcs hP x2, bc hP x3, hcz, hcoo, hyz1, hyo, hyk, d107, d710, d106, d610, d104, d410, d103, d310, k0, kj0]) (by simp [go_sem, hvz, hvo, hwz, hwo, hone1, d43, d34, d64, d46, d63, d36, d76, d67, d74, d47, d73, d37, g2, g3, g4, g6, g7, g22, g23, g24, hj, hj2, hw1, hcj.size, hcj.ones, bcs hP x2, bc hP x3, hcz, hcoo, hyz1, hyo, hyk, d107, d710, d106, d610, d104, d410, d103, d310, k0, kj0]) (by simp [go_sem, hvz, hvo, hwz, hwo, hone1, d43, d34, d64, d46, d63, d36, d76, d67, d74, d47, d73, d37, g2, g3, g4, g6, g7, g22, g23, g24, hj, hj2, hw1, hcj.size, hcj.ones, bcs hP x2, bc hP x3, hcz, hcoo, hyz1, hyo, hyk, d107, d710, d106, d610, d104, d410, d103, d310, k0, kj0]) (by simp [go_sem, hvz, hvo, hwz, hwo, hone1, d43, d34, d64, d46, d63, d36, d76, d67, d74, d47, d73, d37, g2, g3, g4, g6, g7, g22, g23, g24, hj, hj2, hw1, hcj.size, hcj.ones, bcs hP x2, bc hP x3, hcz, hcoo, hyz1, hyo, hyk, d107, d710, d106, d610, d104, d410, d103, d310, k0, kj0]) (by simp [go_sem, hvz, hvo, hwz, hwo, hone1, d43, d34, d64, d46, d63, d36, d76, d67, d74, d47, d73, d37, g2, g3, g4, g6, g7, g22, g23, g24, hj, hj2, hw1, hcj.size, hcj.ones, bcs hP x2, bc hP x3, hcz, hcoo, hyz1, hyo, hyk, d107, d710, d106, d610, d104, d410, d103, d310, k0, kj0]) (by simp [go_sem, hvz, hvo, hwz, hwo, hone1, d43, d34, d64, d46, d63, d36, d76, d67, d74, d47, d73, d37, g2, g3, g4, g6, g7, g22, g23, g24, hj, hj2, hw1, hcj.size, hcj.ones, bcs hP x2, bc hP x3, hcz, hcoo, hyz1, hyo, hyk, d107, d710, d106, d610, d104, d410, d103, d310, k0, kj0]) (hA1) (hco1) (by simp [coalS, hat, k0, kj0])
        · cases mg with
          | false =>
            refine xc_reg1 3 rfl fun K hK => ?_
            simp only [show (List.range 3).map (·, true) = [(0, true), (1, true), (2, true)] from rfl, rslv_cons, rslv_nil, List.getElem?_toArray, List.getElem?_cons_zero, List.getElem?_cons_succ, gres]
            iterate 3 (refine seqX_hide2 fun R hR => ?_; simp [go_sem, hvz, hvo, hwz, hwo, hone1, d43, d34, d64, d46, d63, d36, d76, d67, d74, d47, d73, d37, g2, g3, g4, g6, g7, g22, g23, g24, hj, hj2, hw1, hcj.size, hcj.ones, bcs hP x2, bc hP x3, hcz, hcoo, hyz1, hyo, hyk, d107, d710, d106, d610, d104, d410, d103, d310, k0, kj0]; refine hR _ _ _ ?_; clear hR R)
            rw [seqX_nil]
            refine hK _ _ _ ?_; clear hK K
            refine hN14 _ _ _ ?_
            refine xc_iffalse (by simp [go_sem, hvz, hvo, hwz, hwo, hone1, d43, d34, d64, d46, d63, d36, d76, d67, d74, d47, d73, d37, g2, g3, g4, g6, g7, g22, g23, g24, hj, hj2, hw1, hcj.size, hcj.ones, bcs hP x2, bc hP x3, hcz, hcoo, hyz1, hyo, hyk, d107, d710, d106, d610, d104, d410, d103, d310, k0, kj0]) ?_
            refine xc_two fun N15 hN15 => ?_
            refine xc_reg1 13 rfl fun K hK => ?_
            simp only [show (List.range 13).map (·, true) = [(0, true), (1, true), (2, true), (3, true), (4, true), (5, true), (6, true), (7, true), (8, true), (9, true), (10, true), (11, true), (12, true)] from rfl, rslv_cons, rslv_nil, List.getElem?_toArray, List.getElem?_cons_zero, List.getElem?_cons_succ, gres]
            iterate 13 (refine seqX_hide2 fun R hR => ?_; simp [go_sem, hvz, hvo, hwz, hwo, hone1, d43, d34, d64, d46, d63, d36, d76, d67, d74, d47, d73, d37, g2, g3, g4, g6, g7, g22, g23, g24, hj, hj2, hw1, hcj.size, hcj.ones, bcs hP x2, bc hP x3, hcz, hcoo, hyz1, hyo, hyk, d107, d710, d106, d610, d104, d410, d103, d310, k0, kj0]; refine hR _ _ _ ?_; clear hR R)
            rw [seqX_nil]
            refine hK _ _ _ ?_; clear hK K
            refine hN15 _ _ _ ?_
            refine xc_iffalse (by simp [go_sem, hvz, hvo, hwz, hwo, hone1, d43, d34, d64, d46, d63, d36, d76, d67, d74, d47, d73, d37, g2, g3, g4, g6, g7, g22, g23, g24, hj, hj2, hw1, hcj.size, hcj.ones, bcs hP x2, bc hP x3, hcz, hcoo, hyz1, hyo, hyk, d107, d710, d106, d610, d104, d410, d103, d310, k0, kj0]) ?_
            refine xc_two fun N16 hN16 => ?_
            refine xc_reg1 8 rfl fun K hK => ?_
            simp only [show (List.range 8).map (·, true) = [(0, true), (1, true), (2, true), (3, true), (4, true), (5, true), (6, true), (7, true)] from rfl, rslv_cons, rslv_nil, List.getElem?_toArray, List.getElem?_cons_zero, List.getElem?_cons_succ, gres]
            iterate 8 (refine seqX_hide2 fun R hR => ?_; simp [go_sem, hvz, hvo, hwz, hwo, hone1, d43, d34, d64, d46, d63, d36, d76, d67, d74, d47, d73, d37, g2, g3, g4, g6, g7, g22, g23, g24, hj, hj2, hw1, hcj.size, hcj.ones, bcs hP x2, bc hP x3, hcz, hcoo, hyz1, hyo, hyk, d107, d710, d106, d610, d104, d410, d103, d310, k0, kj0]; refine hR _ _ _ ?_; clear hR R)
            rw [seqX_nil]
            refine hK _ _ _ ?_; clear hK K
            refine hN16 _ _ _ ?_
            refine xc_iftrue (by simp [go_sem, hvz, hvo, hwz, hwo, hone1, d43, d34, d64, d46, d63, d36, d76, d67, d74, d47, d73, d37, g2, g3, g4, g6, g7, g22, g23, g24, hj, hj2, hw1, hcj.size, hcj.ones, bcs hP x2, bc hP x3, hcz, hcoo, hyz1, hyo, hyk, d107, d710, d106, d610, d104, d410, d103, d310, k0, kj0]) ?_
            refine xc_reg1 4 rfl fun K hK => ?_
            simp only [show (List.range 4).map (·, true) = [(0, true), (1, true), (2, true), (3, true)] from rfl, rslv_cons, rslv_nil, List.getElem?_toArray, List.getElem?_cons_zero, List.getElem?_cons_succ, gres]
            iterate 2 (refine seqX_hide2 fun R hR => ?_; simp [go_sem, hvz, hvo, hwz, hwo, hone1, d43, d34, d64, d46, d63, d36, d76, d67, d74, d47, d73, d37, g2, g3, g4, g6, g7, g22, g23, g24, hj, hj2, hw1, hcj.size, hcj.ones, bcs hP x2, bc hP x3, hcz, hcoo, hyz1, hyo, hyk, d107, d710, d106, d610, d104, d410, d103, d310, k0, kj0]; refine hR _ _ _ ?_; clear hR R)
            refine seqX_hide2 fun R hR => ?_
            simp [go_sem, hvz, hvo, hwz, hwo, hone1, d43, d34, d64, d46, d63, d36, d76, d67, d74, d47, d73, d37, g2, g3, g4, g6, g7, g22, g23, g24, hj, hj2, hw1, hcj.size, hcj.ones, bcs hP x2, bc hP x3, hcz, hcoo, hyz1, hyo, hyk, d107, d710, d106, d610, d104, d410, d103, d310, k0, kj0]
            refine call_ov hP (without46 D1 out co keys[j] hco1 hpo) ?_
            clear hP
            rintro _ D2 ⟨c2, rfl, hD2, hc2⟩ hP
            refine hR _ _ _ ?_; clear hR R
            refine seqX_hide2 fun R hR => ?_
            simp [go_sem, hvz, hvo, hwz, hwo, hone1, d43, d34, d64, d46, d63, d36, d76, d67, d74, d47, d73, d37, g2, g3, g4, g6, g7, g22, g23, g24, hj, hj2, hw1, hcj.size, hcj.ones, hcz, hcoo, hyz1, hyo, hyk, d107, d710, d106, d610, d104, d410, d103, d310, k0, kj0, hc2.size, hc2.ones]
            refine hR _ _ _ ?_; clear hR R
            rw [seqX_nil]
            refine hK _ _ _ ?_; clear hK K
            exact tail (D2) (_) (c2) _ hP (by simp [go_sem, hvz, hvo, hwz, hwo, hone1, d43, d34, d64, d46, d63, d36, d76, d67, d74, d47, d73, d37, g2, g3, g4, g6, g7, g22, g23, g24, hj, hj2, hw1, hcj.size, hcj.ones, hcz, hcoo, hyz1, hyo, hyk, d107, d710, d106, d610, d104, d410, d103, d310, k0, kj0, hc2.size, hc2.ones]) (by simp [go_sem, hvz, hvo, hwz, hwo, hone1, d43, d34, d64, d46, d63, d36, d76, d67, d74, d47, d73, d37, g2, g3, g4, g6, g7, g22, g23, g24, hj, hj2, hw1, hcj.size, hcj.ones, hcz, hcoo, hyz1, hyo, hyk, d107, d710, d106, d610, d104, d410, d103, d310, k0, kj0, hc2.size, hc2.ones]) (by simp [go_sem, hvz, hvo, hwz, hwo, hone1, d43, d34, d64, d46, d63, d36, d76, d67, d74, d47, d73, d37, g2, g3, g4, g6, g7, g22, g23, g24, hj, hj2, hw1, hcj.size, hcj.ones, hcz, hcoo, hyz1, hyo, hyk, d107, d710, d106, d610, d104, d410, d103, d310, k0, kj0, hc2.size, hc2.ones]) (by simp [go_sem, hvz, hvo, hwz, hwo, hone1, d43, d34, d64, d46, d63, d36, d76, d67, d74, d47, d73, d37, g2, g3, g4, g6, g7, g22, g23, g24, hj, hj2, hw1, hcj.size, hcj.ones, hcz, hcoo, hyz1, hyo, hyk, d107, d710, d106, d610, d104, d410, d103, d310, k0, kj0, hc2.size, hc2.ones]) (by simp [go_sem, hvz, hvo, hwz, hwo, hone1, d43, d34, d64, d46, d63, d36, d76, d67, d74, d47, d73, d37, g2, g3, g4, g6, g7, g22, g23, g24, hj, hj2, hw1, hcj.size, hcj.ones, hcz, hcoo, hyz1, hyo, hyk, d107, d710, d106, d610, d104, d410, d103, d310, k0, kj0, hc2.size, hc2.ones]) (by simp [go_sem, hvz, hvo, hwz, hwo, hone1, d43, d34, d64, d46, d63, d36, d76, d67, d74, d47, d73, d37, g2, g3, g4, g6, g7, g22, g23, g24, hj, hj2, hw1, hcj.size, hcj.ones, hcz, hcoo, hyz1, hyo, hyk, d107, d710, d106, d610, d104, d410, d103, d310, k0, kj0, hc2.size, hc2.ones]) (by simp [go_sem, hvz, hvo, hwz, hwo, hone1, d43, d34, d64, d46, d63, d36, d76, d67, d74, d47, d73, d37, g2, g3, g4, g6, g7, g22, g23, g24, hj, hj2, hw1, hcj.size, hcj.ones, hcz, hcoo, hyz1, hyo, hyk, d107, d710, d106, d610, d104, d410, d103, d310, k0, kj0, hc2.size, hc2.ones]) (by simp [go_sem, hvz, hvo, hwz, hwo, hone1, d43, d34, d64, d46, d63, d36, d76, d67, d74, d47, d73, d37, g2, g3, g4, g6, g7, g22, g23, g24, hj, hj2, hw1, hcj.size, hcj.ones, hcz, hcoo, hyz1, hyo, hyk, d107, d710, d106, d610, d104, d410, d103, d310, k0, kj0, hc2.size, hc2.ones]) (View.le_trans hA1 hD2) (hc2) (by simp [coalS, hat, k0, kj0])
          | true =>
            refine xc_reg1 3 rfl fun K hK => ?_
            simp only [show (List.range 3).map (·, true) = [(0, true), (1, true), (2, true)] from rfl, rslv_cons, rslv_nil, List.getElem?_toArray, List.getElem?_cons_zero, List.getElem?_cons_succ, gres]
            iterate 3 (refine seqX_hide2 fun R hR => ?_; simp [go_sem, hvz, hvo, hwz, hwo, hone1, d43, d34, d64, d46, d63, d36, d76, d67, d74, d47, d73, d37, g2, g3, g4, g6, g7, g22, g23, g24, hj, hj2, hw1, hcj.size, hcj.ones, bcs hP x2, bc hP x3, hcz, hcoo, hyz1, hyo, hyk, d107, d710, d106, d610, d104, d410, d103, d310, k0, kj0]; refine hR _ _ _ ?_; clear hR R)
            rw [seqX_nil]
            refine hK _ _ _ ?_; clear hK K
            refine hN14 _ _ _ ?_
            refine xc_iffalse (by simp [go_sem, hvz, hvo, hwz, hwo, hone1, d43, d34, d64, d46, d63, d36, d76, d67, d74, d47, d73, d37, g2, g3, g4, g6, g7, g22, g23, g24, hj, hj2, hw1, hcj.size, hcj.ones, bcs hP x2, bc hP x3, hcz, hcoo, hyz1, hyo, hyk, d107, d710, d106, d610, d104, d410, d103, d310, k0, kj0]) ?_
            refine xc_two fun N15 hN15 => ?_
            refine xc_reg1 13 rfl fun K hK => ?_
            simp only [show (List.range 13).map (·, true) = [(0, true), (1, true), (2, true), (3, true), (4, true), (5, true), (6, true), (7, true), (8, true), (9, true), (10, true), (11, true), (12, true)] from rfl, rslv_cons, rslv_nil, List.getElem?_toArray, List.getElem?_cons_zero, List.getElem?_cons_succ, gres]
            iterate 13 (refine seqX_hide2 fun R hR => ?_; simp [go_sem, hvz, hvo, hwz, hwo, hone1, d43, d34, d64, d46, d63, d36, d76, d67, d74, d47, d73, d37, g2, g3, g4, g6, g7, g22, g23, g24, hj, hj2, hw1, hcj.size, hcj.ones, bcs hP x2, bc hP x3, hcz, hcoo, hyz1, hyo, hyk, d107, d710, d106, d610, d104, d410, d103, d310, k0, kj0]; refine hR _ _ _ ?_; clear hR R)
            rw [seqX_nil]
            refine hK _ _ _ ?_; clear hK K
            refine hN15 _ _ _ ?_
            refine xc_iffalse (by simp [go_sem, hvz, hvo, hwz, hwo, hone1, d43, d34, d64, d46, d63, d36, d76, d67, d74, d47, d73, d37, g2, g3, g4, g6, g7, g22, g23, g24, hj, hj2, hw1, hcj.size, hcj.ones, bcs hP x2, bc hP x3, hcz, hcoo, hyz1, hyo, hyk, d107, d710, d106, d610, d104, d410, d103, d310, k0, kj0]) ?_
            refine xc_two fun N16 hN16 => ?_
            refine xc_reg1 8 rfl fun K hK => ?_
            simp only [show (List.range 8).map (·, true) = [(0, true), (1, true), (2, true), (3, true), (4, true), (5, true), (6, true), (7, true)] from rfl, rslv_cons, rslv_nil, List.getElem?_toArray, List.getElem?_cons_zero, List.getElem?_cons_succ, gres]
            iterate 8 (refine seqX_hide2 fun R hR => ?_; simp [go_sem, hvz, hvo, hwz, hwo, hone1, d43, d34, d64, d46, d63, d36, d76, d67, d74, d47, d73, d37, g2, g3, g4, g6, g7, g22, g23, g24, hj, hj2, hw1, hcj.size, hcj.ones, bcs hP x2, bc hP x3, hcz, hcoo, hyz1, hyo, hyk, d107, d710, d106, d610, d104, d410, d103, d310, k0, kj0]; refine hR _ _ _ ?_; clear hR R)
            rw [seqX_nil]
            refine hK _ _ _ ?_; clear hK K
            refine hN16 _ _ _ ?_
            refine xc_iffalse (by simp [go_sem, hvz, hvo, hwz, hwo, hone1, d43, d34, d64, d46, d63, d36, d76, d67, d74, d47, d73, d37, g2, g3, g4, g6, g7, g22, g23, g24, hj, hj2, hw1, hcj.size, hcj.ones, bcs hP x2, bc hP x3, hcz, hcoo, hyz1, hyo, hyk, d107, d710, d106, d610, d104, d410, d103, d310, k0, kj0]) ?_
            refine xc_two fun N17 hN17 => ?_
            refine xc_reg1 11 rfl fun K hK => ?_
            simp only [show (List.range 11).map (·, true) = [(0, true), (1, true), (2, true), (3, true), (4, true), (5, true), (6, true), (7, true), (8, true), (9, true), (10, true)] from rfl, rslv_cons, rslv_nil, List.getElem?_toArray, List.getElem?_cons_zero, List.getElem?_cons_succ, gres]
            (refine seqX_hide2 fun R hR => ?_; simp [go_sem, hvz, hvo, hwz, hwo, hone1, d43, d34, d64, d46, d63, d36, d76, d67, d74, d47, d73, d37, g2, g3, g4, g6, g7, g22, g23, g24, hj, hj2, hw1, hcj.size, hcj.ones, bcs hP x2, bc hP x3, hcz, hcoo, hyz1, hyo, hyk, d107, d710, d106, d610, d104, d410, d103, d310, k0, kj0]; refine hR _ _ _ ?_; clear hR R)
            refine seqX_hide2 fun R hR => ?_
            simp [go_sem, hvz, hvo, hwz, hwo, hone1, d43, d34, d64, d46, d63, d36, d76, d67, d74, d47, d73, d37, g2, g3, g4, g6, g7, g22, g23, g24, hj, hj2, hw1, hcj.size, hcj.ones, bcs hP x2, bc hP x3, hcz, hcoo, hyz1, hyo, hyk, d107, d710, d106, d610, d104, d410, d103, d310, k0, kj0]
            refine call_ov hP (isTable23 D1 y cy hy) ?_
            clear hP
            rintro _ D2 ⟨rfl, hD2⟩ hP
            have hk7 : ¬ kindOf y = 7 := by omega
            have hco1 := hco1.le hD2
            have hA1 := View.le_trans hA1 hD2
            refine hR _ _ _ ?_; clear hR R
            iterate 6 (refine seqX_hide2 fun R hR => ?_; simp [go_sem, hvz, hvo, hwz, hwo, hone1, d43, d34, d64, d46, d63, d36, d76, d67, d74, d47, d73, d37, g2, g3, g4, g6, g7, g22, g23, g24, hj, hj2, hw1, hcj.size, hcj.ones, hcz, hcoo, hyz1, hyo, hyk, d107, d710, d106, d610, d104, d410, d103, d310, k0, kj0, hkb7, hk7]; refine hR _ _ _ ?_; clear hR R)
            refine seqX_hide2 fun R hR => ?_
            simp [go_sem, hvz, hvo, hwz, hwo, hone1, d43, d34, d64, d46, d63, d36, d76, d67, d74, d47, d73, d37, g2, g3, g4, g6, g7, g22, g23, g24, hj, hj2, hw1, hcj.size, hcj.ones, hcz, hcoo, hyz1, hyo, hyk, d107, d710, d106, d610, d104, d410, d103, d310, k0, kj0, hkb7, hk7]
            refine hR _ _ _ ?_; clear hR R
            iterate 2 (refine seqX_hide2 fun R hR => ?_; simp [go_sem, hvz, hvo, hwz, hwo, hone1, d43, d34, d64, d46, d63, d36, d76, d67, d74, d47, d73, d37, g2, g3, g4, g6, g7, g22, g23, g24, hj, hj2, hw1, hcj.size, hcj.ones, hcz, hcoo, hyz1, hyo, hyk, d107, d710, d106, d610, d104, d410, d103, d310, k0, kj0, hkb7, hk7]; refine hR _ _ _ ?_; clear hR R)
            rw [seqX_nil]
            refine hK _ _ _ ?_; clear hK K
            refine hN17 _ _ _ ?_
            refine xc_iffalse (by simp [go_sem, hvz, hvo, hwz, hwo, hone1, d43, d34, d64, d46, d63, d36, d76, d67, d74, d47, d73, d37, g2, g3, g4, g6, g7, g22, g23, g24, hj, hj2, hw1, hcj.size, hcj.ones, hcz, hcoo, hyz1, hyo, hyk, d107, d710, d106, d610, d104, d410, d103, d310, k0, kj0, hkb7, hk7]) ?_
            exact tail (D2) (out) (co) _ hP (by simp [go_sem, hvz, hvo, hwz, hwo, hone1, d43, d34, d64, d46, d63, d36, d76, d67, d74, d47, d73, d37, g2, g3, g4, g6, g7, g22, g23, g24, hj, hj2, hw1, hcj.size, hcj.ones, hcz, hcoo, hyz1, hyo, hyk, d107, d710, d106, d610, d104, d410, d103, d310, k0, kj0, hkb7, hk7]) (by simp [go_sem, hvz, hvo, hwz, hwo, hone1, d43, d34, d64, d46, d63, d36, d76, d67, d74, d47, d73, d37, g2, g3, g4, g6, g7, g22, g23, g24, hj, hj2, hw1, hcj.size, hcj.ones, hcz, hcoo, hyz1, hyo, hyk, d107, d710, d106, d610, d104, d410, d103, d310, k0, kj0, hkb7, hk7]) (by simp [go_sem, hvz, hvo, hwz, hwo, hone1, d43, d34, d64, d46, d63, d36, d76, d67, d74, d47, d73, d37, g2, g3, g4, g6, g7, g22, g23, g24, hj, hj2, hw1, hcj.size, hcj.ones, hcz, hcoo, hyz1, hyo, hyk, d107, d710, d106, d610, d104, d410, d103, d310, k0, kj0, hkb7, hk7]) (by simp [go_sem, hvz, hvo, hwz, hwo, hone1, d43, d34, d64, d46, d63, d36, d76, d67, d74, d47, d73, d37, g2, g3, g4, g6, g7, g22, g23, g24, hj, hj2, hw1, hcj.size, hcj.ones, hcz, hcoo, hyz1, hyo, hyk, d107, d710, d106, d610, d104, d410, d103, d310, k0, kj0, hkb7, hk7]) (by simp [go_sem, hvz, hvo, hwz, hwo, hone1, d43, d34, d64, d46, d63, d36, d76, d67, d74, d47, d73, d37, g2, g3, g4, g6, g7, g22, g23, g24, hj, hj2, hw1, hcj.size, hcj.ones, hcz, hcoo, hyz1, hyo, hyk, d107, d710, d106, d610, d104, d410, d103, d310, k0, kj0, hkb7, hk7]) (by simp [go_sem, hvz, hvo, hwz, hwo, hone1, d43, d34, d64, d46, d63, d36, d76, d67, d74, d47, d73, d37, g2, g3, g4, g6, g7, g22, g23, g24, hj, hj2, hw1, hcj.size, hcj.ones, hcz, hcoo, hyz1, hyo, hyk, d107, d710, d106, d610, d104, d410, d103, d310, k0, kj0, hkb7, hk7]) (by simp [go_sem, hvz, hvo, hwz, hwo, hone1, d43, d34, d64, d46, d63, d36, d76, d67, d74, d47, d73, d37, g2, g3, g4, g6, g7, g22, g23, g24, hj, hj2, hw1, hcj.size, hcj.ones, hcz, hcoo, hyz1, hyo, hyk, d107, d710, d106, d610, d104, d410, d103, d310, k0, kj0, hkb7, hk7]) (by simp [go_sem, hvz, hvo, hwz, hwo, hone1, d43, d34, d64, d46, d63, d36, d76, d67, d74, d47, d73, d37, g2, g3, g4, g6, g7, g22, g23, g24, hj, hj2, hw1, hcj.size, hcj.ones, hcz, hcoo, hyz1, hyo, hyk, d107, d710, d106, d610, d104, d410, d103, d310, k0, kj0, hkb7, hk7]) (hA1) (hco1) (by simp [coalS, hat, k0, kj0])
      · have k0' : (kindOf y == 0) = false := by simp [k0]
        by_cases ky7 : kindOf y = 7
        · by_cases kj7 : kindOf list[j] = 7
          · skip
            refine xc_reg1 3 rfl fun K hK => ?_
            simp only [show (List.range 3).map (·, true) = [(0, true), (1, true), (2, true)] from rfl, rslv_cons, rslv_nil, List.getElem?_toArray, List.getElem?_cons_zero, List.getElem?_cons_succ, gres]
            iterate 3 (refine seqX_hide2 fun R hR => ?_; simp [go_sem, hvz, hvo, hwz, hwo, hone1, d43, d34, d64, d46, d63, d36, d76, d67, d74, d47, d73, d37, g2, g3, g4, g6, g7, g22, g23, g24, hj, hj2, hw1, hcj.size, hcj.ones, bcs hP x2, bc hP x3, hcz, hcoo, hyz1, hyo, hyk, d107, d710, d106, d610, d104, d410, d103, d310, k0, k0']; refine hR _ _ _ ?_; clear hR R)
            rw [seqX_nil]
            refine hK _ _ _ ?_; clear hK K
            refine hN14 _ _ _ ?_
            refine xc_iffalse (by simp [go_sem, hvz, hvo, hwz, hwo, hone1, d43, d34, d64, d46, d63, d36, d76, d67, d74, d47, d73, d37, g2, g3, g4, g6, g7, g22, g23, g24, hj, hj2, hw1, hcj.size, hcj.ones, bcs hP x2, bc hP x3, hcz, hcoo, hyz1, hyo, hyk, d107, d710, d106, d610, d104, d410, d103, d310, k0, k0']) ?_
            refine xc_two fun N15 hN15 => ?_
            refine xc_reg1 13 rfl fun K hK => ?_
            simp only [show (List.range 13).map (·, true) = [(0, true), (1, true), (2, true), (3, true), (4, true), (5, true), (6, true), (7, true), (8, true), (9, true), (10, true), (11, true), (12, true)] from rfl, rslv_cons, rslv_nil, List.getElem?_toArray, List.getElem?_cons_zero, List.getElem?_cons_succ, gres]
            iterate 13 (refine seqX_hide2 fun R hR => ?_; simp [go_sem, hvz, hvo, hwz, hwo, hone1, d43, d34, d64, d46, d63, d36, d76, d67, d74, d47, d73, d37, g2, g3, g4, g6, g7, g22, g23, g24, hj, hj2, hw1, hcj.size, hcj.ones, bcs hP x2, bc hP x3, hcz, hcoo, hyz1, hyo, hyk, d107, d710, d106, d610, d104, d410, d103, d310, k0, k0']; refine hR _ _ _ ?_; clear hR R)
            rw [seqX_nil]
            refine hK _ _ _ ?_; clear hK K
            refine hN15 _ _ _ ?_
            refine xc_iffalse (by simp [go_sem, hvz, hvo, hwz, hwo, hone1, d43, d34, d64, d46, d63, d36, d76, d67, d74, d47, d73, d37, g2, g3, g4, g6, g7, g22, g23, g24, hj, hj2, hw1, hcj.size, hcj.ones, bcs hP x2, bc hP x3, hcz, hcoo, hyz1, hyo, hyk, d107, d710, d106, d610, d104, d410, d103, d310, k0, k0']) ?_
            refine xc_two fun N16 hN16 => ?_
            refine xc_reg1 8 rfl fun K hK => ?_
            simp only [show (List.range 8).map (·, true) = [(0, true), (1, true), (2, true), (3, true), (4, true), (5, true), (6, true), (7, true)] from rfl, rslv_cons, rslv_nil, List.getElem?_toArray, List.getElem?_cons_zero, List.getElem?_cons_succ, gres]
            iterate 8 (refine seqX_hide2 fun R hR => ?_; simp [go_sem, hvz, hvo, hwz, hwo, hone1, d43, d34, d64, d46, d63, d36, d76, d67, d74, d47, d73, d37, g2, g3, g4, g6, g7, g22, g23, g24, hj, hj2, hw1, hcj.size, hcj.ones, bcs hP x2, bc hP x3, hcz, hcoo, hyz1, hyo, hyk, d107, d710, d106, d610, d104, d410, d103, d310, k0, k0']; refine hR _ _ _ ?_; clear hR R)
            rw [seqX_nil]
            refine hK _ _ _ ?_; clear hK K
            refine hN16 _ _ _ ?_
            refine xc_iffalse (by simp [go_sem, hvz, hvo, hwz, hwo, hone1, d43, d34, d64, d46, d63, d36, d76, d67, d74, d47, d73, d37, g2, g3, g4, g6, g7, g22, g23, g24, hj, hj2, hw1, hcj.size, hcj.ones, bcs hP x2, bc hP x3, hcz, hcoo, hyz1, hyo, hyk, d107, d710, d106, d610, d104, d410, d103, d310, k0, k0']) ?_
            refine xc_two fun N17 hN17 => ?_
            refine xc_reg1 11 rfl fun K hK => ?_
            simp only [show (List.range 11).map (·, true) = [(0, true), (1, true), (2, true), (3, true), (4, true), (5, true), (6, true), (7, true), (8, true), (9, true), (10, true)] from rfl, rslv_cons, rslv_nil, List.getElem?_toArray, List.getElem?_cons_zero, List.getElem?_cons_succ, gres]
            (refine seqX_hide2 fun R hR => ?_; simp [go_sem, hvz, hvo, hwz, hwo, hone1, d43, d34, d64, d46, d63, d36, d76, d67, d74, d47, d73, d37, g2, g3, g4, g6, g7, g22, g23, g24, hj, hj2, hw1, hcj.size, hcj.ones, bcs hP x2, bc hP x3, hcz, hcoo, hyz1, hyo, hyk, d107, d710, d106, d610, d104, d410, d103, d310, k0, k0']; refine hR _ _ _ ?_; clear hR R)
            refine seqX_hide2 fun R hR => ?_
            simp [go_sem, hvz, hvo, hwz, hwo, hone1, d43, d34, d64, d46, d63, d36, d76, d67, d74, d47, d73, d37, g2, g3, g4, g6, g7, g22, g23, g24, hj, hj2, hw1, hcj.size, hcj.ones, bcs hP x2, bc hP x3, hcz, hcoo, hyz1, hyo, hyk, d107, d710, d106, d610, d104, d410, d103, d310, k0, k0']
            refine call_ov hP (isTable23 D1 y cy hy) ?_
            clear hP
            rintro _ D2 ⟨rfl, hD2⟩ hP
            have hco1 := hco1.le hD2
            have hcj1 := hcj1.le hD2
            have hy := hy.le hD2
            have hA1 := View.le_trans hA1 hD2
            have x2 := le_cells hD2 _ _ _ x2
            have x3 := le_cell hD2 x3
            refine hR _ _ _ ?_; clear hR R
            iterate 6 (refine seqX_hide2 fun R hR => ?_; simp [go_sem, hvz, hvo, hwz, hwo, hone1, d43, d34, d64, d46, d63, d36, d76, d67, d74, d47, d73, d37, g2, g3, g4, g6, g7, g22, g23, g24, hj, hj2, hw1, hcj.size, hcj.ones, bcs hP x2, bc hP x3, hcz, hcoo, hyz1, hyo, hyk, d107, d710, d106, d610, d104, d410, d103, d310, k0, k0', hkb7, ky7, kj7]; refine hR _ _ _ ?_; clear hR R)
            refine seqX_hide2 fun R hR => ?_
            simp [go_sem, hvz, hvo, hwz, hwo, hone1, d43, d34, d64, d46, d63, d36, d76, d67, d74, d47, d73, d37, g2, g3, g4, g6, g7, g22, g23, g24, hj, hj2, hw1, hcj.size, hcj.ones, bcs hP x2, bc hP x3, hcz, hcoo, hyz1, hyo, hyk, d107, d710, d106, d610, d104, d410, d103, d310, k0, k0', hkb7, ky7, kj7]
            refine call_ov hP (isTable23 D2 list[j] cj hcj1) ?_
            clear hP
            rintro _ D3 ⟨rfl, hD3⟩ hP
            have hco1 := hco1.le hD3
            have hcj1 := hcj1.le hD3
            have hy := hy.le hD3
            have hA1 := View.le_trans hA1 hD3
            have x2 := le_cells hD3 _ _ _ x2
            have x3 := le_cell hD3 x3
            refine hR _ _ _ ?_; clear hR R
            iterate 2 (refine seqX_hide2 fun R hR => ?_; simp [go_sem, hvz, hvo, hwz, hwo, hone1, d43, d34, d64, d46, d63, d36, d76, d67, d74, d47, d73, d37, g2, g3, g4, g6, g7, g22, g23, g24, hj, hj2, hw1, hcj.size, hcj.ones, bcs hP x2, bc hP x3, hcz, hcoo, hyz1, hyo, hyk, d107, d710, d106, d610, d104, d410, d103, d310, k0, k0', hkb7, ky7, kj7]; refine hR _ _ _ ?_; clear hR R)
            rw [seqX_nil]
            refine hK _ _ _ ?_; clear hK K
            refine hN17 _ _ _ ?_
            refine xc_iftrue (by simp [go_sem, hvz, hvo, hwz, hwo, hone1, d43, d34, d64, d46, d63, d36, d76, d67, d74, d47, d73, d37, g2, g3, g4, g6, g7, g22, g23, g24, hj, hj2, hw1, hcj.size, hcj.ones, bcs hP x2, bc hP x3, hcz, hcoo, hyz1, hyo, hyk, d107, d710, d106, d610, d104, d410, d103, d310, k0, k0', hkb7, ky7, kj7]) ?_
            rw [xc_draws]
            refine vdrawK [(0, true), (1, true), (2, true), (3, true), (4, true), (5, true), (6, true), (7, true), (8, true), (9, true), (10, false), (11, false)] (ov D3 [(q10, .cells cy 27 (0, 0)), (q7, .cells co 27 (0, 0)), (q6, .cells zc 27 (0, 0)), (q4, .cells (rvc 7 b i f t (.slice (some a) keys.length ck) (.slice (some a2) list.length cl)) 27 (0, 0)), (q3, .cells (rvc 7 b1 i1 f1 t1 ks1 (.slice bl1 list1.length cl1)) 27 (0, 0))]) mixed (by kernel_rfl) (View.le_refl _) fun K hK => ?_
            simp only [rslv_cons, rslv_nil, List.getElem?_toArray, List.getElem?_cons_zero, List.getElem?_cons_succ, gres]
            iterate 9 (refine seqR_hide fun R hR => ?_; simp [go_sem, hvz, hvo, hwz, hwo, hone1, d43, d34, d64, d46, d63, d36, d76, d67, d74, d47, d73, d37, g2, g3, g4, g6, g7, g22, g23, g24, hj, hj2, hw1, hcj.size, hcj.ones, bcs hP x2, bc hP x3, hcz, hcoo, hyz1, hyo, hyk, d107, d710, d106, d610, d104, d410, d103, d310, k0, k0', hkb7, ky7, kj7]; refine hR _ _ _ ?_; clear hR R)
            refine seqR_hide fun R hR => ?_
            simp [go_sem, hvz, hvo, hwz, hwo, hone1, d43, d34, d64, d46, d63, d36, d76, d67, d74, d47, d73, d37, g2, g3, g4, g6, g7, g22, g23, g24, hj, hj2, hw1, hcj.size, hcj.ones, bcs hP x2, bc hP x3, hcz, hcoo, hyz1, hyo, hyk, d107, d710, d106, d610, d104, d410, d103, d310, k0, k0', hkb7, ky7, kj7]
            refine call_ov hP (ihj D3 y cy cj _ _ mg hy hcj1 hGy hGj (by omega) (by omega) (.inr ky7) (.inr kj7)) ?_
            clear hP
            rintro _ D4 ⟨c4, rfl, hD4, hc4⟩ hP
            have hA2 := View.le_trans hA1 hD4
            refine ⟨ov_mono hD4, hR _ _ _ ?_⟩; clear hR R
            refine seqR_hide fun R hR => ?_
            simp [go_sem, hvz, hvo, hwz, hwo, hone1, d43, d34, d64, d46, d63, d36, d76, d67, d74, d47, d73, d37, g2, g3, g4, g6, g7, g22, g23, g24, hj, hj2, hw1, hcj.size, hcj.ones, hcz, hcoo, hyz1, hyo, hyk, d107, d710, d106, d610, d104, d410, d103, d310, k0, k0', hkb7, ky7, kj7]
            refine call_ov hP (with45 D4 out (coalR y mg list[j]) co c4 keys[j] (hco1.le hD4) hc4 hpo) ?_
            clear hP
            rintro _ D5 ⟨c5, rfl, hD5, hc5⟩ hP
            refine hR _ _ _ ?_; clear hR R
            refine seqR_hide fun R hR => ?_
            simp [go_sem, hvz, hvo, hwz, hwo, hone1, d43, d34, d64, d46, d63, d36, d76, d67, d74, d47, d73, d37, g2, g3, g4, g6, g7, g22, g23, g24, hj, hj2, hw1, hcj.size, hcj.ones, hcz, hcoo, hyz1, hyo, hyk, d107, d710, d106, d610, d104, d410, d103, d310, k0, k0', hkb7, ky7, kj7, hc5.size, hc5.ones]
            refine hR _ _ _ ?_; clear hR R
            rw [seqR_nil]
            refine hK _ _ _ ?_; clear hK K
            exact tail (D5) (_) (c5) _ hP (by simp [go_sem, hvz, hvo, hwz, hwo, hone1, d43, d34, d64, d46, d63, d36, d76, d67, d74, d47, d73, d37, g2, g3, g4, g6, g7, g22, g23, g24, hj, hj2, hw1, hcj.size, hcj.ones, hcz, hcoo, hyz1, hyo, hyk, d107, d710, d106, d610, d104, d410, d103, d310, k0, k0', hkb7, ky7, kj7, hc5.size, hc5.ones]) (by simp [go_sem, hvz, hvo, hwz, hwo, hone1, d43, d34, d64, d46, d63, d36, d76, d67, d74, d47, d73, d37, g2, g3, g4, g6, g7, g22, g23, g24, hj, hj2, hw1, hcj.size, hcj.ones, hcz, hcoo, hyz1, hyo, hyk, d107, d710, d106, d610, d104, d410, d103, d310, k0, k0', hkb7, ky7, kj7, hc5.size, hc5.ones]) (by simp [go_sem, hvz, hvo, hwz, hwo, hone1, d43, d34, d64, d46, d63, d36, d76, d67, d74, d47, d73, d37, g2, g3, g4, g6, g7, g22, g23, g24, hj, hj2, hw1, hcj.size, hcj.ones, hcz, hcoo, hyz1, hyo, hyk, d107, d710, d106, d610, d104, d410, d103, d310, k0, k0', hkb7, ky7, kj7, hc5.size, hc5.ones]) (by simp [go_sem, hvz, hvo, hwz, hwo, hone1, d43, d34, d64, d46, d63, d36, d76, d67, d74, d47, d73, d37, g2, g3, g4, g6, g7, g22, g23, g24, hj, hj2, hw1, hcj.size, hcj.ones, hcz, hcoo, hyz1, hyo, hyk, d107, d710, d106, d610, d104, d410, d103, d310, k0, k0', hkb7, ky7, kj7, hc5.size, hc5.ones]) (by simp [go_sem, hvz, hvo, hwz, hwo, hone1, d43, d34, d64, d46, d63, d36, d76, d67, d74, d47, d73, d37, g2, g3, g4, g6, g7, g22, g23, g24, hj, hj2, hw1, hcj.size, hcj.ones, hcz, hcoo, hyz1, hyo, hyk, d107, d710, d106, d610, d104, d410, d103, d310, k0, k0', hkb7, ky7, kj7, hc5.size, hc5.ones]) (by simp [go_sem, hvz, hvo, hwz, hwo, hone1, d43, d34, d64, d46, d63, d36, d76, d67, d74, d47, d73, d37, g2, g3, g4, g6, g7, g22, g23, g24, hj, hj2, hw1, hcj.size, hcj.ones, hcz, hcoo, hyz1, hyo, hyk, d107, d710, d106, d610, d104, d410, d103, d310, k0, k0', hkb7, ky7, kj7, hc5.size, hc5.ones]) (by simp [go_sem, hvz, hvo, hwz, hwo, hone1, d43, d34, d64, d46, d63, d36, d76, d67, d74, d47, d73, d37, g2, g3, g4, g6, g7, g22, g23, g24, hj, hj2, hw1, hcj.size, hcj.ones, hcz, hcoo, hyz1, hyo, hyk, d107, d710, d106, d610, d104, d410, d103, d310, k0, k0', hkb7, ky7, kj7, hc5.size, hc5.ones]) (by simp [go_sem, hvz, hvo, hwz, hwo, hone1, d43, d34, d64, d46, d63, d36, d76, d67, d74, d47, d73, d37, g2, g3, g4, g6, g7, g22, g23, g24, hj, hj2, hw1, hcj.size, hcj.ones, hcz, hcoo, hyz1, hyo, hyk, d107, d710, d106, d610, d104, d410, d103, d310, k0, k0', hkb7, ky7, kj7, hc5.size, hc5.ones]) (View.le_trans hA2 hD5) (hc5) (by simp [coalS, hat, k0, ky7, kj7])
          · skip
            refine xc_reg1 3 rfl fun K hK => ?_
            simp only [show (List.range 3).map (·, true) = [(0, true), (1, true), (2, true)] from rfl, rslv_cons, rslv_nil, List.getElem?_toArray, List.getElem?_cons_zero, List.getElem?_cons_succ, gres]
            iterate 3 (refine seqX_hide2 fun R hR => ?_; simp [go_sem, hvz, hvo, hwz, hwo, hone1, d43, d34, d64, d46, d63, d36, d76, d67, d74, d47, d73, d37, g2, g3, g4, g6, g7, g22, g23, g24, hj, hj2, hw1, hcj.size, hcj.ones, bcs hP x2, bc hP x3, hcz, hcoo, hyz1, hyo, hyk, d107, d710, d106, d610, d104, d410, d103, d310, k0, k0']; refine hR _ _ _ ?_; clear hR R)
            rw [seqX_nil]
            refine hK _ _ _ ?_; clear hK K
            refine hN14 _ _ _ ?_
            refine xc_iffalse (by simp [go_sem, hvz, hvo, hwz, hwo, hone1, d43, d34, d64, d46, d63, d36, d76, d67, d74, d47, d73, d37, g2, g3, g4, g6, g7, g22, g23, g24, hj, hj2, hw1, hcj.size, hcj.ones, bcs hP x2, bc hP x3, hcz, hcoo, hyz1, hyo, hyk, d107, d710, d106, d610, d104, d410, d103, d310, k0, k0']) ?_
            refine xc_two fun N15 hN15 => ?_
            refine xc_reg1 13 rfl fun K hK => ?_
            simp only [show (List.range 13).map (·, true) = [(0, true), (1, true), (2, true), (3, true), (4, true), (5, true), (6, true), (7, true), (8, true), (9, true), (10, true), (11, true), (12, true)] from rfl, rslv_cons, rslv_nil, List.getElem?_toArray, List.getElem?_cons_zero, List.getElem?_cons_succ, gres]
            iterate 13 (refine seqX_hide2 fun R hR => ?_; simp [go_sem, hvz, hvo, hwz, hwo, hone1, d43, d34, d64, d46, d63, d36, d76, d67, d74, d47, d73, d37, g2, g3, g4, g6, g7, g22, g23, g24, hj, hj2, hw1, hcj.size, hcj.ones, bcs hP x2, bc hP x3, hcz, hcoo, hyz1, hyo, hyk, d107, d710, d106, d610, d104, d410, d103, d310, k0, k0']; refine hR _ _ _ ?_; clear hR R)
            rw [seqX_nil]
            refine hK _ _ _ ?_; clear hK K
            refine hN15 _ _ _ ?_
            refine xc_iffalse (by simp [go_sem, hvz, hvo, hwz, hwo, hone1, d43, d34, d64, d46, d63, d36, d76, d67, d74, d47, d73, d37, g2, g3, g4, g6, g7, g22, g23, g24, hj, hj2, hw1, hcj.size, hcj.ones, bcs hP x2, bc hP x3, hcz, hcoo, hyz1, hyo, hyk, d107, d710, d106, d610, d104, d410, d103, d310, k0, k0']) ?_
            refine xc_two fun N16 hN16 => ?_
            refine xc_reg1 8 rfl fun K hK => ?_
            simp only [show (List.range 8).map (·, true) = [(0, true), (1, true), (2, true), (3, true), (4, true), (5, true), (6, true), (7, true)] from rfl, rslv_cons, rslv_nil, List.getElem?_toArray, List.getElem?_cons_zero, List.getElem?_cons_succ, gres]
            iterate 8 (refine seqX_hide2 fun R hR => ?_; simp [go_sem, hvz, hvo, hwz, hwo, hone1, d43, d34, d64, d46, d63, d36, d76, d67, d74, d47, d73, d37, g2, g3, g4, g6, g7, g22, g23, g24, hj, hj2, hw1, hcj.size, hcj.ones, bcs hP x2, bc hP x3, hcz, hcoo, hyz1, hyo, hyk, d107, d710, d106, d610, d104, d410, d103, d310, k0, k0']; refine hR _ _ _ ?_; clear hR R)
            rw [seqX_nil]
            refine hK _ _ _ ?_; clear hK K
            refine hN16 _ _ _ ?_
            refine xc_iffalse (by simp [go_sem, hvz, hvo, hwz, hwo, hone1, d43, d34, d64, d46, d63, d36, d76, d67, d74, d47, d73, d37, g2, g3, g4, g6, g7, g22, g23, g24, hj, hj2, hw1, hcj.size, hcj.ones, bcs hP x2, bc hP x3, hcz, hcoo, hyz1, hyo, hyk, d107, d710, d106, d610, d104, d410, d103, d310, k0, k0']) ?_
            refine xc_two fun N17 hN17 => ?_
            refine xc_reg1 11 rfl fun K hK => ?_
            simp only [show (List.range 11).map (·, true) = [(0, true), (1, true), (2, true), (3, true), (4, true), (5, true), (6, true), (7, true), (8, true), (9, true), (10, true)] from rfl, rslv_cons, rslv_nil, List.getElem?_toArray, List.getElem?_cons_zero, List.getElem?_cons_succ, gres]
            (refine seqX_hide2 fun R hR => ?_; simp [go_sem, hvz, hvo, hwz, hwo, hone1, d43, d34, d64, d46, d63, d36, d76, d67, d74, d47, d73, d37, g2, g3, g4, g6, g7, g22, g23, g24, hj, hj2, hw1, hcj.size, hcj.ones, bcs hP x2, bc hP x3, hcz, hcoo, hyz1, hyo, hyk, d107, d710, d106, d610, d104, d410, d103, d310, k0, k0']; refine hR _ _ _ ?_; clear hR R)
            refine seqX_hide2 fun R hR => ?_
            simp [go_sem, hvz, hvo, hwz, hwo, hone1, d43, d34, d64, d46, d63, d36, d76, d67, d74, d47, d73, d37, g2, g3, g4, g6, g7, g22, g23, g24, hj, hj2, hw1, hcj.size, hcj.ones, bcs hP x2, bc hP x3, hcz, hcoo, hyz1, hyo, hyk, d107, d710, d106, d610, d104, d410, d103, d310, k0, k0']
            refine call_ov hP (isTable23 D1 y cy hy) ?_
            clear hP
            rintro _ D2 ⟨rfl, hD2⟩ hP
            have hco1 := hco1.le hD2
            have hcj1 := hcj1.le hD2
            have hA1 := View.le_trans hA1 hD2
            have x2 := le_cells hD2 _ _ _ x2
            have x3 := le_cell hD2 x3
            refine hR _ _ _ ?_; clear hR R
            iterate 6 (refine seqX_hide2 fun R hR => ?_; simp [go_sem, hvz, hvo, hwz, hwo, hone1, d43, d34, d64, d46, d63, d36, d76, d67, d74, d47, d73, d37, g2, g3, g4, g6, g7, g22, g23, g24, hj, hj2, hw1, hcj.size, hcj.ones, bcs hP x2, bc hP x3, hcz, hcoo, hyz1, hyo, hyk, d107, d710, d106, d610, d104, d410, d103, d310, k0, k0', hkb7, ky7, kj7]; refine hR _ _ _ ?_; clear hR R)
            refine seqX_hide2 fun R hR => ?_
            simp [go_sem, hvz, hvo, hwz, hwo, hone1, d43, d34, d64, d46, d63, d36, d76, d67, d74, d47, d73, d37, g2, g3, g4, g6, g7, g22, g23, g24, hj, hj2, hw1, hcj.size, hcj.ones, bcs hP x2, bc hP x3, hcz, hcoo, hyz1, hyo, hyk, d107, d710, d106, d610, d104, d410, d103, d310, k0, k0', hkb7, ky7, kj7]
            refine call_ov hP (isTable23 D2 list[j] cj hcj1) ?_
            clear hP
            rintro _ D3 ⟨rfl, hD3⟩ hP
            have hco1 := hco1.le hD3
            have hA1 := View.le_trans hA1 hD3
            have x2 := le_cells hD3 _ _ _ x2
            have x3 := le_cell hD3 x3
            refine hR _ _ _ ?_; clear hR R
            iterate 2 (refine seqX_hide2 fun R hR => ?_; simp [go_sem, hvz, hvo, hwz, hwo, hone1, d43, d34, d64, d46, d63, d36, d76, d67, d74, d47, d73, d37, g2, g3, g4, g6, g7, g22, g23, g24, hj, hj2, hw1, hcj.size, hcj.ones, bcs hP x2, bc hP x3, hcz, hcoo, hyz1, hyo, hyk, d107, d710, d106, d610, d104, d410, d103, d310, k0, k0', hkb7, ky7, kj7]; refine hR _ _ _ ?_; clear hR R)
            rw [seqX_nil]
            refine hK _ _ _ ?_; clear hK K
            refine hN17 _ _ _ ?_
            refine xc_iffalse (by simp [go_sem, hvz, hvo, hwz, hwo, hone1, d43, d34, d64, d46, d63, d36, d76, d67, d74, d47, d73, d37, g2, g3, g4, g6, g7, g22, g23, g24, hj, hj2, hw1, hcj.size, hcj.ones, bcs hP x2, bc hP x3, hcz, hcoo, hyz1, hyo, hyk, d107, d710, d106, d610, d104, d410, d103, d310, k0, k0', hkb7, ky7, kj7]) ?_
            exact tail (D3) (out) (co) _ hP (by simp [go_sem, hvz, hvo, hwz, hwo, hone1, d43, d34, d64, d46, d63, d36, d76, d67, d74, d47, d73, d37, g2, g3, g4, g6, g7, g22, g23, g24, hj, hj2, hw1, hcj.size, hcj.ones, bcs hP x2, bc hP x3, hcz, hcoo, hyz1, hyo, hyk, d107, d710, d106, d610, d104, d410, d103, d310, k0, k0', hkb7, ky7, kj7]) (by simp [go_sem, hvz, hvo, hwz, hwo, hone1, d43, d34, d64, d46, d63, d36, d76, d67, d74, d47, d73, d37, g2, g3, g4, g6, g7, g22, g23, g24, hj, hj2, hw1, hcj.size, hcj.ones, bcs hP x2, bc hP x3, hcz, hcoo, hyz1, hyo, hyk, d107, d710, d106, d610, d104, d410, d103, d310, k0, k0', hkb7, ky7, kj7]) (by simp [go_sem, hvz, hvo, hwz, hwo, hone1, d43, d34, d64, d46, d63, d36, d76, d67, d74, d47, d73, d37, g2, g3, g4, g6, g7, g22, g23, g24, hj, hj2, hw1, hcj.size, hcj.ones, bcs hP x2, bc hP x3, hcz, hcoo, hyz1, hyo, hyk, d107, d710, d106, d610, d104, d410, d103, d310, k0, k0', hkb7, ky7, kj7]) (by simp [go_sem, hvz, hvo, hwz, hwo, hone1, d43, d34, d64, d46, d63, d36, d76, d67, d74, d47, d73, d37, g2, g3, g4, g6, g7, g22, g23, g24, hj, hj2, hw1, hcj.size, hcj.ones, bcs hP x2, bc hP x3, hcz, hcoo, hyz1, hyo, hyk, d107, d710, d106, d610, d104, d410, d103, d310, k0, k0', hkb7, ky7, kj7]) (by simp [go_sem, hvz, hvo, hwz, hwo, hone1, d43, d34, d64, d46, d63, d36, d76, d67, d74, d47, d73, d37, g2, g3, g4, g6, g7, g22, g23, g24, hj, hj2, hw1, hcj.size, hcj.ones, bcs hP x2, bc hP x3, hcz, hcoo, hyz1, hyo, hyk, d107, d710, d106, d610, d104, d410, d103, d310, k0, k0', hkb7, ky7, kj7]) (by simp [go_sem, hvz, hvo, hwz, hwo, hone1, d43, d34, d64, d46, d63, d36, d76, d67, d74, d47, d73, d37, g2, g3, g4, g6, g7, g22, g23, g24, hj, hj2, hw1, hcj.size, hcj.ones, bcs hP x2, bc hP x3, hcz, hcoo, hyz1, hyo, hyk, d107, d710, d106, d610, d104, d410, d103, d310, k0, k0', hkb7, ky7, kj7]) (by simp [go_sem, hvz, hvo, hwz, hwo, hone1, d43, d34, d64, d46, d63, d36, d76, d67, d74, d47, d73, d37, g2, g3, g4, g6, g7, g22, g23, g24, hj, hj2, hw1, hcj.size, hcj.ones, bcs hP x2, bc hP x3, hcz, hcoo, hyz1, hyo, hyk, d107, d710, d106, d610, d104, d410, d103, d310, k0, k0', hkb7, ky7, kj7]) (by simp [go_sem, hvz, hvo, hwz, hwo, hone1, d43, d34, d64, d46, d63, d36, d76, d67, d74, d47, d73, d37, g2, g3, g4, g6, g7, g22, g23, g24, hj, hj2, hw1, hcj.size, hcj.ones, bcs hP x2, bc hP x3, hcz, hcoo, hyz1, hyo, hyk, d107, d710, d106, d610, d104, d410, d103, d310, k0, k0', hkb7, ky7, kj7]) (hA1) (hco1) (by simp [coalS, hat, k0, ky7, kj7])
        · skip
          refine xc_reg1 3 rfl fun K hK => ?_
          simp only [show (List.range 3).map (·, true) = [(0, true), (1, true), (2, true)] from rfl, rslv_cons, rslv_nil, List.getElem?_toArray, List.getElem?_cons_zero, List.getElem?_cons_succ, gres]
          iterate 3 (refine seqX_hide2 fun R hR => ?_; simp [go_sem, hvz, hvo, hwz, hwo, hone1, d43, d34, d64, d46, d63, d36, d76, d67, d74, d47, d73, d37, g2, g3, g4, g6, g7, g22, g23, g24, hj, hj2, hw1, hcj.size, hcj.ones, bcs hP x2, bc hP x3, hcz, hcoo, hyz1, hyo, hyk, d107, d710, d106, d610, d104, d410, d103, d310, k0, k0']; refine hR _ _ _ ?_; clear hR R)
          rw [seqX_nil]
          refine hK _ _ _ ?_; clear hK K
          refine hN14 _ _ _ ?_
          refine xc_iffalse (by simp [go_sem, hvz, hvo, hwz, hwo, hone1, d43, d34, d64, d46, d63, d36, d76, d67, d74, d47, d73, d37, g2, g3, g4, g6, g7, g22, g23, g24, hj, hj2, hw1, hcj.size, hcj.ones, bcs hP x2, bc hP x3, hcz, hcoo, hyz1, hyo, hyk, d107, d710, d106, d610, d104, d410, d103, d310, k0, k0']) ?_
          refine xc_two fun N15 hN15 => ?_
          refine xc_reg1 13 rfl fun K hK => ?_
          simp only [show (List.range 13).map (·, true) = [(0, true), (1, true), (2, true), (3, true), (4, true), (5, true), (6, true), (7, true), (8, true), (9, true), (10, true), (11, true), (12, true)] from rfl, rslv_cons, rslv_nil, List.getElem?_toArray, List.getElem?_cons_zero, List.getElem?_cons_succ, gres]
          iterate 13 (refine seqX_hide2 fun R hR => ?_; simp [go_sem, hvz, hvo, hwz, hwo, hone1, d43, d34, d64, d46, d63, d36, d76, d67, d74, d47, d73, d37, g2, g3, g4, g6, g7, g22, g23, g24, hj, hj2, hw1, hcj.size, hcj.ones, bcs hP x2, bc hP x3, hcz, hcoo, hyz1, hyo, hyk, d107, d710, d106, d610, d104, d410, d103, d310, k0, k0']; refine hR _ _ _ ?_; clear hR R)
          rw [seqX_nil]
          refine hK _ _ _ ?_; clear hK K
          refine hN15 _ _ _ ?_
          refine xc_iffalse (by simp [go_sem, hvz, hvo, hwz, hwo, hone1, d43, d34, d64, d46, d63, d36, d76, d67, d74, d47, d73, d37, g2, g3, g4, g6, g7, g22, g23, g24, hj, hj2, hw1, hcj.size, hcj.ones, bcs hP x2, bc hP x3, hcz, hcoo, hyz1, hyo, hyk, d107, d710, d106, d610, d104, d410, d103, d310, k0, k0']) ?_
          refine xc_two fun N16 hN16 => ?_
          refine xc_reg1 8 rfl fun K hK => ?_
          simp only [show (List.range 8).map (·, true) = [(0, true), (1, true), (2, true), (3, true), (4, true), (5, true), (6, true), (7, true)] from rfl, rslv_cons, rslv_nil, List.getElem?_toArray, List.getElem?_cons_zero, List.getElem?_cons_succ, gres]
          iterate 8 (refine seqX_hide2 fun R hR => ?_; simp [go_sem, hvz, hvo, hwz, hwo, hone1, d43, d34, d64, d46, d63, d36, d76, d67, d74, d47, d73, d37, g2, g3, g4, g6, g7, g22, g23, g24, hj, hj2, hw1, hcj.size, hcj.ones, bcs hP x2, bc hP x3, hcz, hcoo, hyz1, hyo, hyk, d107, d710, d106, d610, d104, d410, d103, d310, k0, k0']; refine hR _ _ _ ?_; clear hR R)
          rw [seqX_nil]
          refine hK _ _ _ ?_; clear hK K
          refine hN16 _ _ _ ?_
          refine xc_iffalse (by simp [go_sem, hvz, hvo, hwz, hwo, hone1, d43, d34, d64, d46, d63, d36, d76, d67, d74, d47, d73, d37, g2, g3, g4, g6, g7, g22, g23, g24, hj, hj2, hw1, hcj.size, hcj.ones, bcs hP x2, bc hP x3, hcz, hcoo, hyz1, hyo, hyk, d107, d710, d106, d610, d104, d410, d103, d310, k0, k0']) ?_
          refine xc_two fun N17 hN17 => ?_
          refine xc_reg1 11 rfl fun K hK => ?_
          simp only [show (List.range 11).map (·, true) = [(0, true), (1, true), (2, true), (3, true), (4, true), (5, true), (6, true), (7, true), (8, true), (9, true), (10, true)] from rfl, rslv_cons, rslv_nil, List.getElem?_toArray, List.getElem?_cons_zero, List.getElem?_cons_succ, gres]
          (refine seqX_hide2 fun R hR => ?_; simp [go_sem, hvz, hvo, hwz, hwo, hone1, d43, d34, d64, d46, d63, d36, d76, d67, d74, d47, d73, d37, g2, g3, g4, g6, g7, g22, g23, g24, hj, hj2, hw1, hcj.size, hcj.ones, bcs hP x2, bc hP x3, hcz, hcoo, hyz1, hyo, hyk, d107, d710, d106, d610, d104, d410, d103, d310, k0, k0']; refine hR _ _ _ ?_; clear hR R)
          refine seqX_hide2 fun R hR => ?_
          simp [go_sem, hvz, hvo, hwz, hwo, hone1, d43, d34, d64, d46, d63, d36, d76, d67, d74, d47, d73, d37, g2, g3, g4, g6, g7, g22, g23, g24, hj, hj2, hw1, hcj.size, hcj.ones, bcs hP x2, bc hP x3, hcz, hcoo, hyz1, hyo, hyk, d107, d710, d106, d610, d104, d410, d103, d310, k0, k0']
          refine call_ov hP (isTable23 D1 y cy hy) ?_
          clear hP
          rintro _ D2 ⟨rfl, hD2⟩ hP
          have hco1 := hco1.le hD2
          have hA1 := View.le_trans hA1 hD2
          refine hR _ _ _ ?_; clear hR R
          iterate 6 (refine seqX_hide2 fun R hR => ?_; simp [go_sem, hvz, hvo, hwz, hwo, hone1, d43, d34, d64, d46, d63, d36, d76, d67, d74, d47, d73, d37, g2, g3, g4, g6, g7, g22, g23, g24, hj, hj2, hw1, hcj.size, hcj.ones, hcz, hcoo, hyz1, hyo, hyk, d107, d710, d106, d610, d104, d410, d103, d310, k0, k0', hkb7, ky7]; refine hR _ _ _ ?_; clear hR R)
          refine seqX_hide2 fun R hR => ?_
          simp [go_sem, hvz, hvo, hwz, hwo, hone1, d43, d34, d64, d46, d63, d36, d76, d67, d74, d47, d73, d37, g2, g3, g4, g6, g7, g22, g23, g24, hj, hj2, hw1, hcj.size, hcj.ones, hcz, hcoo, hyz1, hyo, hyk, d107, d710, d106, d610, d104, d410, d103, d310, k0, k0', hkb7, ky7]
          refine hR _ _ _ ?_; clear hR R
          iterate 2 (refine seqX_hide2 fun R hR => ?_; simp [go_sem, hvz, hvo, hwz, hwo, hone1, d43, d34, d64, d46, d63, d36, d76, d67, d74, d47, d73, d37, g2, g3, g4, g6, g7, g22, g23, g24, hj, hj2, hw1, hcj.size, hcj.ones, hcz, hcoo, hyz1, hyo, hyk, d107, d710, d106, d610, d104, d410, d103, d310, k0, k0', hkb7, ky7]; refine hR _ _ _ ?_; clear hR R)
          rw [seqX_nil]
          refine hK _ _ _ ?_; clear hK K
          refine hN17 _ _ _ ?_
          refine xc_iffalse (by simp [go_sem, hvz, hvo, hwz, hwo, hone1, d43, d34, d64, d46, d63, d36, d76, d67, d74, d47, d73, d37, g2, g3, g4, g6, g7, g22, g23, g24, hj, hj2, hw1, hcj.size, hcj.ones, hcz, hcoo, hyz1, hyo, hyk, d107, d710, d106, d610, d104, d410, d103, d310, k0, k0', hkb7, ky7]) ?_
          exact tail (D2) (out) (co) _ hP (by simp [go_sem, hvz, hvo, hwz, hwo, hone1, d43, d34, d64, d46, d63, d36, d76, d67, d74, d47, d73, d37, g2, g3, g4, g6, g7, g22, g23, g24, hj, hj2, hw1, hcj.size, hcj.ones, hcz, hcoo, hyz1, hyo, hyk, d107, d710, d106, d610, d104, d410, d103, d310, k0, k0', hkb7, ky7]) (by simp [go_sem, hvz, hvo, hwz, hwo, hone1, d43, d34, d64, d46, d63, d36, d76, d67, d74, d47, d73, d37, g2, g3, g4, g6, g7, g22, g23, g24, hj, hj2, hw1, hcj.size, hcj.ones, hcz, hcoo, hyz1, hyo, hyk, d107, d710, d106, d610, d104, d410, d103, d310, k0, k0', hkb7, ky7]) (by simp [go_sem, hvz, hvo, hwz, hwo, hone1, d43, d34, d64, d46, d63, d36, d76, d67, d74, d47, d73, d37, g2, g3, g4, g6, g7, g22, g23, g24, hj, hj2, hw1, hcj.size, hcj.ones, hcz, hcoo, hyz1, hyo, hyk, d107, d710, d106, d610, d104, d410, d103, d310, k0, k0', hkb7, ky7]) (by simp [go_sem, hvz, hvo, hwz, hwo, hone1, d43, d34, d64, d46, d63, d36, d76, d67, d74, d47, d73, d37, g2, g3, g4, g6, g7, g22, g23, g24, hj, hj2, hw1, hcj.size, hcj.ones, hcz, hcoo, hyz1, hyo, hyk, d107, d710, d106, d610, d104, d410, d103, d310, k0, k0', hkb7, ky7]) (by simp [go_sem, hvz, hvo, hwz, hwo, hone1, d43, d34, d64, d46, d63, d36, d76, d67, d74, d47, d73, d37, g2, g3, g4, g6, g7, g22, g23, g24, hj, hj2, hw1, hcj.size, hcj.ones, hcz, hcoo, hyz1, hyo, hyk, d107, d710, d106, d610, d104, d410, d103, d310, k0, k0', hkb7, ky7]) (by simp [go_sem, hvz, hvo, hwz, hwo, hone1, d43, d34, d64, d46, d63, d36, d76, d67, d74, d47, d73, d37, g2, g3, g4, g6, g7, g22, g23, g24, hj, hj2, hw1, hcj.size, hcj.ones, hcz, hcoo, hyz1, hyo, hyk, d107, d710, d106, d610, d104, d410, d103, d310, k0, k0', hkb7, ky7]) (by simp [go_sem, hvz, hvo, hwz, hwo, hone1, d43, d34, d64, d46, d63, d36, d76, d67, d74, d47, d73, d37, g2, g3, g4, g6, g7, g22, g23, g24, hj, hj2, hw1, hcj.size, hcj.ones, hcz, hcoo, hyz1, hyo, hyk, d107, d710, d106, d610, d104, d410, d103, d310, k0, k0', hkb7, ky7]) (by simp [go_sem, hvz, hvo, hwz, hwo, hone1, d43, d34, d64, d46, d63, d36, d76, d67, d74, d47, d73, d37, g2, g3, g4, g6, g7, g22, g23, g24, hj, hj2, hw1, hcj.size, hcj.ones, hcz, hcoo, hyz1, hyo, hyk, d107, d710, d106, d610, d104, d410, d103, d310, k0, k0', hkb7, ky7]) (hA1) (hco1) (by simp [coalS, hat, k0, ky7])
    · skip
      refine xc_reg1 3 rfl fun K hK => ?_
      simp only [show (List.range 3).map (·, true) = [(0, true), (1, true), (2, true)] from rfl, rslv_cons, rslv_nil, List.getElem?_toArray, List.getElem?_cons_zero, List.getElem?_cons_succ, gres]
      iterate 3 (refine seqX_hide2 fun R hR => ?_; simp [go_sem, hvz, hvo, hwz, hwo, hone1, d43, d34, d64, d46, d63, d36, d76, d67, d74, d47, d73, d37, g2, g3, g4, g6, g7, g22, g23, g24, hj, hj2, hw1, hcj.size, hcj.ones, bcs hP x2, bc hP x3, hcz, hcoo, hyz1, hyo, hyk, d107, d710, d106, d610, d104, d410, d103, d310]; refine hR _ _ _ ?_; clear hR R)
      rw [seqX_nil]
      refine hK _ _ _ ?_; clear hK K
      refine hN14 _ _ _ ?_
      refine xc_iftrue (by simp [go_sem, hvz, hvo, hwz, hwo, hone1, d43, d34, d64, d46, d63, d36, d76, d67, d74, d47, d73, d37, g2, g3, g4, g6, g7, g22, g23, g24, hj, hj2, hw1, hcj.size, hcj.ones, bcs hP x2, bc hP x3, hcz, hcoo, hyz1, hyo, hyk, d107, d710, d106, d610, d104, d410, d103, d310]) ?_
      rw [xc_draws]
      refine vdrawK [(0, true), (1, true), (2, true), (3, true), (4, true), (5, true), (6, true), (7, false), (8, false)] (ov D1 [(q10, .cells cy 27 (0, 0)), (q7, .cells co 27 (0, 0)), (q6, .cells zc 27 (0, 0)), (q4, .cells (rvc 7 b i f t (.slice (some a) keys.length ck) (.slice (some a2) list.length cl)) 27 (0, 0)), (q3, .cells (rvc 7 b1 i1 f1 t1 ks1 (.slice bl1 list1.length cl1)) 27 (0, 0))]) mixed (by kernel_rfl) (View.le_refl _) fun K hK => ?_
      simp only [rslv_cons, rslv_nil, List.getElem?_toArray, List.getElem?_cons_zero, List.getElem?_cons_succ, gres]
      iterate 7 (refine seqR_hide fun R hR => ?_; simp [go_sem, hvz, hvo, hwz, hwo, hone1, d43, d34, d64, d46, d63, d36, d76, d67, d74, d47, d73, d37, g2, g3, g4, g6, g7, g22, g23, g24, hj, hj2, hw1, hcj.size, hcj.ones, bcs hP x2, bc hP x3, hcz, hcoo, hyz1, hyo, hyk, d107, d710, d106, d610, d104, d410, d103, d310]; refine hR _ _ _ ?_; clear hR R)
      refine seqR_hide fun R hR => ?_
      simp [go_sem, hvz, hvo, hwz, hwo, hone1, d43, d34, d64, d46, d63, d36, d76, d67, d74, d47, d73, d37, g2, g3, g4, g6, g7, g22, g23, g24, hj, hj2, hw1, hcj.size, hcj.ones, bcs hP x2, bc hP x3, hcz, hcoo, hyz1, hyo, hyk, d107, d710, d106, d610, d104, d410, d103, d310]
      refine call_ov hP (with45 D1 out list[j] co cj keys[j] hco1 hcj1 hpo) ?_
      clear hP
      rintro _ D5 ⟨c5, rfl, hD5, hc5⟩ hP
      refine hR _ _ _ ?_; clear hR R
      refine seqR_hide fun R hR => ?_
      simp [go_sem, hvz, hvo, hwz, hwo, hone1, d43, d34, d64, d46, d63, d36, d76, d67, d74, d47, d73, d37, g2, g3, g4, g6, g7, g22, g23, g24, hj, hj2, hw1, hcj.size, hcj.ones, hcz, hcoo, hyz1, hyo, hyk, d107, d710, d106, d610, d104, d410, d103, d310, hc5.size, hc5.ones]
      refine hR _ _ _ ?_; clear hR R
      rw [seqR_nil]
      refine hK _ _ _ ?_; clear hK K
      exact tail (D5) (_) (c5) _ hP (by simp [go_sem, hvz, hvo, hwz, hwo, hone1, d43, d34, d64, d46, d63, d36, d76, d67, d74, d47, d73, d37, g2, g3, g4, g6, g7, g22, g23, g24, hj, hj2, hw1, hcj.size, hcj.ones, hcz, hcoo, hyz1, hyo, hyk, d107, d710, d106, d610, d104, d410, d103, d310, hc5.size, hc5.ones]) (by simp [go_sem, hvz, hvo, hwz, hwo, hone1, d43, d34, d64, d46, d63, d36, d76, d67, d74, d47, d73, d37, g2, g3, g4, g6, g7, g22, g23, g24, hj, hj2, hw1, hcj.size, hcj.ones, hcz, hcoo, hyz1, hyo, hyk, d107, d710, d106, d610, d104, d410, d103, d310, hc5.size, hc5.ones]) (by simp [go_sem, hvz, hvo, hwz, hwo, hone1, d43, d34, d64, d46, d63, d36, d76, d67, d74, d47, d73, d37, g2, g3, g4, g6, g7, g22, g23, g24, hj, hj2, hw1, hcj.size, hcj.ones, hcz, hcoo, hyz1, hyo, hyk, d107, d710, d106, d610, d104, d410, d103, d310, hc5.size, hc5.ones]) (by simp [go_sem, hvz, hvo, hwz, hwo, hone1, d43, d34, d64, d46, d63, d36, d76, d67, d74, d47, d73, d37, g2, g3, g4, g6, g7, g22, g23, g24, hj, hj2, hw1, hcj.size, hcj.ones, hcz, hcoo, hyz1, hyo, hyk, d107, d710, d106, d610, d104, d410, d103, d310, hc5.size, hc5.ones]) (by simp [go_sem, hvz, hvo, hwz, hwo, hone1, d43, d34, d64, d46, d63, d36, d76, d67, d74, d47, d73, d37, g2, g3, g4, g6, g7, g22, g23, g24, hj, hj2, hw1, hcj.size, hcj.ones, hcz, hcoo, hyz1, hyo, hyk, d107, d710, d106, d610, d104, d410, d103, d310, hc5.size, hc5.ones]) (by simp [go_sem, hvz, hvo, hwz, hwo, hone1, d43, d34, d64, d46, d63, d36, d76, d67, d74, d47, d73, d37, g2, g3, g4, g6, g7, g22, g23, g24, hj, hj2, hw1, hcj.size, hcj.ones, hcz, hcoo, hyz1, hyo, hyk, d107, d710, d106, d610, d104, d410, d103, d310, hc5.size, hc5.ones]) (by simp [go_sem, hvz, hvo, hwz, hwo, hone1, d43, d34, d64, d46, d63, d36, d76, d67, d74, d47, d73, d37, g2, g3, g4, g6, g7, g22, g23, g24, hj, hj2, hw1, hcj.size, hcj.ones, hcz, hcoo, hyz1, hyo, hyk, d107, d710, d106, d610, d104, d410, d103, d310, hc5.size, hc5.ones]) (by simp [go_sem, hvz, hvo, hwz, hwo, hone1, d43, d34, d64, d46, d63, d36, d76, d67, d74, d47, d73, d37, g2, g3, g4, g6, g7, g22, g23, g24, hj, hj2, hw1, hcj.size, hcj.ones, hcz, hcoo, hyz1, hyo, hyk, d107, d710, d106, d610, d104, d410, d103, d310, hc5.size, hc5.ones]) (View.le_trans hA1 hD5) (hc5) (by simp [coalS, hat])
  · rw [List.drop_of_length_le (by omega), coalL_nil] at hwk
    refine xc_two fun N9 hN9 => ?_
    refine xc_reg1 1 rfl fun K hK => ?_
    simp only [show (List.range 1).map (·, true) = [(0, true)] from rfl, rslv_cons, rslv_nil, List.getElem?_toArray, List.getElem?_cons_zero, List.getElem?_cons_succ, gres]
    (refine seqX_hide2 fun R hR => ?_; simp [go_sem, hvz, hvo, hwz, hwo, hone1, d43, d34, d64, d46, d63, d36, d76, d67, d74, d47, d73, d37, g2, g3, g4, g6, g7, g22, g23, g24, hco.size, hco.ones, hj]; refine hR _ _ _ ?_; clear hR R)
    rw [seqX_nil]
    refine hK _ _ _ ?_; clear hK K
    refine hN9 _ _ _ ?_
    refine xc_two fun N10 hN10 => ?_
    refine xc_iffalse (by simp [go_sem, hvz, hvo, hwz, hwo, hone1, d43, d34, d64, d46, d63, d36, d76, d67, d74, d47, d73, d37, g2, g3, g4, g6, g7, g22, g23, g24, hco.size, hco.ones]) ?_
    refine hX1 _ _ _ _ ?_
    refine hN7 _ _ _ ?_
    refine xc_two fun N11 hN11 => ?_
    refine xc_reg1 2 rfl fun K hK => ?_
    simp only [show (List.range 2).map (·, true) = [(0, true), (1, true)] from rfl, rslv_cons, rslv_nil, List.getElem?_toArray, List.getElem?_cons_zero, List.getElem?_cons_succ, gres]
    (refine seqX_hide2 fun R hR => ?_; simp [go_sem, hvz, hvo, hwz, hwo, hone1, d43, d34, d64, d46, d63, d36, d76, d67, d74, d47, d73, d37, g2, g3, g4, g6, g7, g22, g23, g24, hco.size, hco.ones]; refine hR _ _ _ ?_; clear hR R)
    refine seqX_hide2 fun R hR => ?_
    simp [go_sem, hvz, hvo, hwz, hwo, hone1, d43, d34, d64, d46, d63, d36, d76, d67, d74, d47, d73, d37, g2, g3, g4, g6, g7, g22, g23, g24, hco.size, hco.ones]
    refine hR _ _ _ ?_; clear hR R
    rw [seqX_nil]
    refine hK _ _ _ ?_; clear hK K
    refine hN11 _ _ _ ?_
    simp [go_sem, hvz, hvo, hwz, hwo, hone1, d43, d34, d64, d46, d63, d36, d76, d67, d74, d47, d73, d37, g2, g3, g4, g6, g7, g22, g23, g24, hco.size, hco.ones]
    subst hwk
    rw [hv7]
    refine ⟨View.le_trans hAD ?_, hco.le ?_⟩
    · exact le_ov hP
    · exact le_ov hP
theorem coal18 : ∀ w, A18 w
  | .mk k b i f t keys list => coal18_step k b i f t keys list fun j h => coal18 list[j]
termination_by w => SizeOf.sizeOf w
decreasing_by
  have := List.sizeOf_lt_of_mem (List.getElem_mem h)
  simp
  omega
end Go.Proofs.YtogfpbnbojhpoaaV

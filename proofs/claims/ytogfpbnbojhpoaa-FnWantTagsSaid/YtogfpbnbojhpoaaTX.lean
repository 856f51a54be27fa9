/- Tables: joins of tables of which one is none. -/
import Derived.Test.YtogfpbnbojhpoaaTW
namespace Go.Proofs.YtogfpbnbojhpoaaV
open Go.RowKit
set_option linter.unusedSimpArgs false
set_option linter.unusedVariables false
def rz : RV := .mk 0 false 0 0 ⟨#[]⟩ [] []
abbrev zc : Array Value := rvc 0 false 0 0 ⟨#[]⟩ nl nl
theorem rz_is (A : View) : IsRV A rz zc := isRV_flat A 0 false 0 0 ⟨#[]⟩
theorem rz_good : Good rz 50 := by
  unfold rz
  rw [Good]
  exact ⟨by decide, fun _ => rfl, fun _ => rfl, .inl rfl, fun j h => absurd h (Nat.not_lt_zero _)⟩
/-- Which of two is there. -/
def oneOf (x y : Value) : Value := match x with
  | .map none => y
  | _ => x
set_option maxHeartbeats 4000000 in
theorem full67 (A : View) (f x y : Value) (s : ByteArray) (b : Bool) (h : (y = .map none ∧ ∃ r, x = .map (some r)) ∨ (x = .map none ∧ ∃ r, y = .map (some r))) :
    VCalls Try.prog 67 #[f, x, y, .string s, .bool b] A fun r A' => r = oneOf x y ∧ A' = A := by
  refine xcalls Try.func67 rfl (by simp [Try.ntmps67]) ?_
  simp only [Try.f67]
  rcases h with ⟨rfl, r, rfl⟩ | ⟨rfl, r, rfl⟩
  · refine xc_step fun C hC => ?_
    simp [go_sem]
    subst hC
    refine xc_step fun C hC => ?_
    simp [go_sem, xbin, eqPlain, oneOf]
  · refine xc_step fun C hC => ?_
    simp [go_sem]
    subst hC
    refine xc_step fun C hC => ?_
    simp [go_sem, xbin, eqPlain]
    subst hC
    refine xc_step fun C hC => ?_
    simp [go_sem, xbin, eqPlain, oneOf]
theorem caught50 (p q : Addr) (w : World) :
    CallsD Try.prog 50 #[.pointer (some p), .pointer (some q)] .returning w fun e u' w' => (∃ v, e = .returned v) ∧ u' = .returning ∧ w' = w := by
  refine callsD_of_wpS Try.func50 rfl fun c₀ cs hu => ?_
  apply wpS_seq
  apply wpS_region
  simp [wpOpsS, go_sem, recoverD, hu, Try.ntmps50, Exit.thenS]
  refine wpS_cond (t := false) (by simp [Act.eval, Array.replicate]) ?_
  simp only [Bool.false_eq_true, if_false]
  refine wpS_of_wp (wp_skip ?_)
  cases c₀
  simp_all [bodyPostS, results, Try.results50]
theorem both51 (A : View) (x y : Value) (h : (y = .map none ∧ ∃ r, x = .map (some r)) ∨ (x = .map none ∧ ∃ r, y = .map (some r))) :
    VCalls Try.prog 51 #[x, y] A fun r A' => r = oneOf x y ∧ A' = A := by
  refine xcalls Try.func51 rfl (by simp [Try.ntmps51]) ?_
  simp only [Try.f51]
  refine xc_step fun C hC => ?_
  simp [go_sem]
  subst hC
  refine xc_step fun C hC => ?_
  simp [go_sem]
  refine (full67 A _ x y _ _ h).mono ?_
  rintro _ _ ⟨rfl, rfl⟩
  subst hC
  simp [go_sem]
set_option maxRecDepth 20000 in
set_option maxHeartbeats 4000000 in
theorem join24 (A : View) (v w u : RV) (c c' : Array Value) (hc : IsRV A v c) (hc' : IsRV A w c') (hG : Good v 50) (hG' : Good w 50) (hn : nodes v ≤ 300) (hn' : nodes w ≤ 300) (h : (kindOf v = 7 ∧ kindOf w = 0 ∧ u = v) ∨ (kindOf v = 0 ∧ kindOf w = 7 ∧ u = w)) :
    VCalls Try.prog 24 #[.agg c, .agg c'] A fun r A' => ∃ c2, r = .tuple #[.agg c2, .int .i64 0] ∧ A ≤ A' ∧ IsRV A' (norm u) c2 := by
  refine xcallsD Try.func24 rfl (by simp [Try.ntmps24]) ?_
  have hcz := hc.size
  have hcz' := hc'.size
  simp only [Try.f24]
  refine xc_step fun C hC => ?_
  simp [go_sem, xnew, Value.cells, zeroOf, Instr.fill, zerosB]
  intro m2 h2 m3 h3 m4 h4 m5 h5
  subst hC
  obtain ⟨B, LA, hM2, hM3, hM4, hM5, hA3, hA4, hA5, d45, hBe⟩ : ∃ B, A ≤ B ∧ B m2 = some (.cells c 27 (0, 0)) ∧ B m3 = some (.cells c' 27 (0, 0)) ∧ B m4 = some (.cells zc 27 (0, 0)) ∧ B m5 = some (.cells #[.int .i64 0] 3 (0, 0)) ∧ A m3 = none ∧ A m4 = none ∧ A m5 = none ∧ m4 ≠ m5 ∧ B = (((A.set m2 (.cells c 27)).set m3 (.cells c' 27)).set m4 (.cells zc 27)).set m5 (.cells #[.int .i64 0] 3) := by
    have g2 := set_at A m2 (.cells c 27)
    have g2' := le_set (o := .cells c' 27) h3 _ _ g2
    have g2'' := le_set (o := .cells zc 27) h4 _ _ g2'
    have g3 := set_at (A.set m2 (.cells c 27)) m3 (.cells c' 27)
    have g3' := le_set (o := .cells zc 27) h4 _ _ g3
    have g4 := set_at ((A.set m2 (.cells c 27)).set m3 (.cells c' 27)) m4 (.cells zc 27)
    have l3 := View.le_trans (le_set (o := .cells c 27) h2) (le_set (o := .cells c' 27) h3)
    have l4 := View.le_trans l3 (le_set (o := .cells zc 27) h4)
    exact ⟨_, View.le_trans l4 (le_set h5), le_set h5 _ _ g2'', le_set h5 _ _ g3', le_set h5 _ _ g4, set_at _ _ _, none_le (le_set h2) h3, none_le l3 h4, none_le l4 h5, ne_of_none g4 h5, rfl⟩
  rw [← hBe]
  clear hBe h2 h3 h4 h5
  refine xc_step fun C hC => ?_
  simp [go_sem, toDefer]
  subst hC
  have gm := cells_block hM2 hcz
  refine xc_step fun C hC => ?_
  simp [go_sem, vload, gm]
  refine (calls_base (table36 v A c 50 hc hG (by omega) (by omega) (by omega)) LA).mono ?_
  rintro _ B1 ⟨D1, ⟨x, rfl, L1, hx⟩, hDB1, hkeep⟩
  have hM3 := (hkeep m3 _ hA3 hM3).2
  obtain ⟨hD4, hM4⟩ := hkeep m4 _ hA4 hM4
  obtain ⟨hD5, hM5⟩ := hkeep m5 _ hA5 hM5
  clear hkeep hM2
  simp [go_sem]
  subst hC
  have gm := cells_block hM3 hcz'
  refine xc_step fun C hC => ?_
  simp [go_sem, vload, gm]
  refine (calls_base (table36 w D1 c' 50 (hc'.le L1) hG' (by omega) (by omega) (by omega)) hDB1).mono ?_
  rintro _ B2 ⟨D2, ⟨y, rfl, L2, hy⟩, hDB2, hkeep⟩
  obtain ⟨hD4, hM4⟩ := hkeep m4 _ hD4 hM4
  obtain ⟨hD5, hM5⟩ := hkeep m5 _ hD5 hM5
  clear hkeep gm
  simp [go_sem]
  subst hC
  have hxy : ((y = .map none ∧ ∃ r, x = .map (some r)) ∨ (x = .map none ∧ ∃ r, y = .map (some r))) ∧ ∃ r, oneOf x y = .map (some r) ∧ TabV D2 u r := by
    rcases h with ⟨k7, k0, rfl⟩ | ⟨k0, k7, rfl⟩
    · rcases hx with ⟨h1, _⟩ | ⟨r, _, rfl, hr⟩
      · rw [h1] at k7; cases k7
      · rcases hy with ⟨_, rfl⟩ | ⟨r', h1, _⟩
        · exact ⟨.inl ⟨rfl, r, rfl⟩, r, rfl, AnyV.le L2 _ _ hr⟩
        · rw [h1] at k0; cases k0
    · rcases hx with ⟨_, rfl⟩ | ⟨r, h1, _⟩
      · rcases hy with ⟨h1, _⟩ | ⟨r', _, rfl, hr⟩
        · rw [h1] at k7; cases k7
        · exact ⟨.inr ⟨rfl, r', rfl⟩, r', rfl, hr⟩
      · rw [h1] at k0; cases k0
  obtain ⟨hxy, r, hr, hT⟩ := hxy
  clear hx hy
  refine xc_step fun C hC => ?_
  simp [go_sem, xunop, gval, undef]
  subst hC
  refine xc_step fun C hC => ?_
  simp [go_sem]
  refine (both51 B2 x y hxy).mono ?_
  rintro _ _ ⟨rfl, rfl⟩
  rw [hr]
  have hGu : Good u 50 ∧ nodes u ≤ 1000000 := by
    rcases h with ⟨_, _, rfl⟩ | ⟨_, _, rfl⟩
    · exact ⟨hG, by omega⟩
    · exact ⟨hG', by omega⟩
  simp [go_sem, xmkIface]
  refine (calls_base (value42 u _ _ 50 hT hGu.1 hGu.2) hDB2).mono ?_
  rintro _ B3 ⟨D3, ⟨c2, rfl, L3, hc2⟩, hDB3, hkeep⟩
  obtain ⟨hD4, hM4⟩ := hkeep m4 _ hD4 hM4
  obtain ⟨hD5, hM5⟩ := hkeep m5 _ hD5 hM5
  clear hkeep
  subst hC
  have hst : xstore Try.prog 27 (.pointer (some ⟨m4, 0, none⟩)) (.agg c2) B3 = some (B3.set m4 (.cells c2 27 (0, 0))) := xstore_agg ti27 hc2.size hM4 (by rw [hc2.size]; rfl) hc2.one
  have h5' : (B3.set m4 (.cells c2 27)) m5 = some (.cells #[.int .i64 0] 3 (0, 0)) := by rw [set_other d45.symm]; exact hM5
  have hst2 : xstore Try.prog 3 (.pointer (some ⟨m5, 0, none⟩)) (.int .i64 0) (B3.set m4 (.cells c2 27 (0, 0))) = some ((B3.set m4 (.cells c2 27 (0, 0))).set m5 (.cells #[.int .i64 0] 3 (0, 0))) := xstore_field ti3 h5' (by simp) rfl
  have k4 : ((B3.set m4 (.cells c2 27 (0, 0))).set m5 (.cells #[.int .i64 0] 3 (0, 0))).cells? ⟨m4, 0, none⟩ 0 7 = some c2.toList := cells_block (e := 27) (f := (0, 0)) (by rw [set_other d45, set_at]) hc2.size
  have k5 : ((B3.set m4 (.cells c2 27 (0, 0))).set m5 (.cells #[.int .i64 0] 3 (0, 0))).cell? ⟨m5, 0, none⟩ = some (.int .i64 0) := cell_of (c := #[.int .i64 0]) (e := 3) (f := (0, 0)) (set_at _ _ _) rfl
  have hidle : Idle Try.prog { target := .fn (.func 50) #[.pointer (some ⟨m4, 0, none⟩), .pointer (some ⟨m5, 0, none⟩)], args := #[] } := by
    intro w'
    exact ⟨_, _, 50, #[.pointer (some ⟨m4, 0, none⟩), .pointer (some ⟨m5, 0, none⟩)], rfl, by simp [go_sem, invoke], caught50 _ _ _⟩
  have hAB := View.le_trans L1 (View.le_trans L2 (View.le_trans L3 hDB3))
  have hfin : IsRV ((B3.set m4 (.cells c2 27 (0, 0))).set m5 (.cells #[.int .i64 0] 3 (0, 0))) (norm u) c2 := hc2.le (le_set' (le_set' hDB3 hD4) hD5)
  simp [go_sem, vload, hst, hst2, k4, k5]
  exact ⟨hidle, le_set' (le_set' hAB hA4) hA5, hfin⟩
theorem caught41 (p q : Addr) (w : World) :
    CallsD Try.prog 41 #[.pointer (some p), .pointer (some q)] .returning w fun e u' w' => (∃ v, e = .returned v) ∧ u' = .returning ∧ w' = w := by
  refine callsD_of_wpS Try.func41 rfl fun c₀ cs hu => ?_
  apply wpS_seq
  apply wpS_region
  simp [wpOpsS, go_sem, recoverD, hu, Try.ntmps41, Exit.thenS]
  refine wpS_cond (t := false) (by simp [Act.eval, Array.replicate]) ?_
  simp only [Bool.false_eq_true, if_false]
  refine wpS_of_wp (wp_skip ?_)
  cases c₀
  simp_all [bodyPostS, results, Try.results41]
theorem both43 (A : View) (x y : Value) (h : (y = .map none ∧ ∃ r, x = .map (some r)) ∨ (x = .map none ∧ ∃ r, y = .map (some r))) :
    VCalls Try.prog 43 #[x, y] A fun r A' => r = oneOf x y ∧ A' = A := by
  refine xcalls Try.func43 rfl (by simp [Try.ntmps43]) ?_
  simp only [Try.f43]
  refine xc_step fun C hC => ?_
  simp [go_sem]
  subst hC
  refine xc_step fun C hC => ?_
  simp [go_sem]
  refine (full67 A _ x y _ _ h).mono ?_
  rintro _ _ ⟨rfl, rfl⟩
  subst hC
  simp [go_sem]
set_option maxRecDepth 20000 in
set_option maxHeartbeats 4000000 in
theorem join16 (A : View) (v w u : RV) (c c' : Array Value) (hc : IsRV A v c) (hc' : IsRV A w c') (hG : Good v 50) (hG' : Good w 50) (hn : nodes v ≤ 300) (hn' : nodes w ≤ 300) (h : (kindOf v = 7 ∧ kindOf w = 0 ∧ u = v) ∨ (kindOf v = 0 ∧ kindOf w = 7 ∧ u = w)) :
    VCalls Try.prog 16 #[.agg c, .agg c'] A fun r A' => ∃ c2, r = .tuple #[.agg c2, .int .i64 0] ∧ A ≤ A' ∧ IsRV A' (norm u) c2 := by
  refine xcallsD Try.func16 rfl (by simp [Try.ntmps16]) ?_
  have hcz := hc.size
  have hcz' := hc'.size
  simp only [Try.f16]
  refine xc_step fun C hC => ?_
  simp [go_sem, xnew, Value.cells, zeroOf, Instr.fill, zerosB]
  intro m2 h2 m3 h3 m4 h4 m5 h5
  subst hC
  obtain ⟨B, LA, hM2, hM3, hM4, hM5, hA3, hA4, hA5, d45, hBe⟩ : ∃ B, A ≤ B ∧ B m2 = some (.cells c 27 (0, 0)) ∧ B m3 = some (.cells c' 27 (0, 0)) ∧ B m4 = some (.cells zc 27 (0, 0)) ∧ B m5 = some (.cells #[.int .i64 0] 3 (0, 0)) ∧ A m3 = none ∧ A m4 = none ∧ A m5 = none ∧ m4 ≠ m5 ∧ B = (((A.set m2 (.cells c 27)).set m3 (.cells c' 27)).set m4 (.cells zc 27)).set m5 (.cells #[.int .i64 0] 3) := by
    have g2 := set_at A m2 (.cells c 27)
    have g2' := le_set (o := .cells c' 27) h3 _ _ g2
    have g2'' := le_set (o := .cells zc 27) h4 _ _ g2'
    have g3 := set_at (A.set m2 (.cells c 27)) m3 (.cells c' 27)
    have g3' := le_set (o := .cells zc 27) h4 _ _ g3
    have g4 := set_at ((A.set m2 (.cells c 27)).set m3 (.cells c' 27)) m4 (.cells zc 27)
    have l3 := View.le_trans (le_set (o := .cells c 27) h2) (le_set (o := .cells c' 27) h3)
    have l4 := View.le_trans l3 (le_set (o := .cells zc 27) h4)
    exact ⟨_, View.le_trans l4 (le_set h5), le_set h5 _ _ g2'', le_set h5 _ _ g3', le_set h5 _ _ g4, set_at _ _ _, none_le (le_set h2) h3, none_le l3 h4, none_le l4 h5, ne_of_none g4 h5, rfl⟩
  rw [← hBe]
  clear hBe h2 h3 h4 h5
  refine xc_step fun C hC => ?_
  simp [go_sem, toDefer]
  subst hC
  have gm := cells_block hM2 hcz
  refine xc_step fun C hC => ?_
  simp [go_sem, vload, gm]
  refine (calls_base (table36 v A c 50 hc hG (by omega) (by omega) (by omega)) LA).mono ?_
  rintro _ B1 ⟨D1, ⟨x, rfl, L1, hx⟩, hDB1, hkeep⟩
  have hM3 := (hkeep m3 _ hA3 hM3).2
  obtain ⟨hD4, hM4⟩ := hkeep m4 _ hA4 hM4
  obtain ⟨hD5, hM5⟩ := hkeep m5 _ hA5 hM5
  clear hkeep hM2
  simp [go_sem]
  subst hC
  have gm := cells_block hM3 hcz'
  refine xc_step fun C hC => ?_
  simp [go_sem, vload, gm]
  refine (calls_base (table36 w D1 c' 50 (hc'.le L1) hG' (by omega) (by omega) (by omega)) hDB1).mono ?_
  rintro _ B2 ⟨D2, ⟨y, rfl, L2, hy⟩, hDB2, hkeep⟩
  obtain ⟨hD4, hM4⟩ := hkeep m4 _ hD4 hM4
  obtain ⟨hD5, hM5⟩ := hkeep m5 _ hD5 hM5
  clear hkeep gm
  simp [go_sem]
  subst hC
  have hxy : ((y = .map none ∧ ∃ r, x = .map (some r)) ∨ (x = .map none ∧ ∃ r, y = .map (some r))) ∧ ∃ r, oneOf x y = .map (some r) ∧ TabV D2 u r := by
    rcases h with ⟨k7, k0, rfl⟩ | ⟨k0, k7, rfl⟩
    · rcases hx with ⟨h1, _⟩ | ⟨r, _, rfl, hr⟩
      · rw [h1] at k7; cases k7
      · rcases hy with ⟨_, rfl⟩ | ⟨r', h1, _⟩
        · exact ⟨.inl ⟨rfl, r, rfl⟩, r, rfl, AnyV.le L2 _ _ hr⟩
        · rw [h1] at k0; cases k0
    · rcases hx with ⟨_, rfl⟩ | ⟨r, h1, _⟩
      · rcases hy with ⟨h1, _⟩ | ⟨r', _, rfl, hr⟩
        · rw [h1] at k7; cases k7
        · exact ⟨.inr ⟨rfl, r', rfl⟩, r', rfl, hr⟩
      · rw [h1] at k0; cases k0
  obtain ⟨hxy, r, hr, hT⟩ := hxy
  clear hx hy
  refine xc_step fun C hC => ?_
  simp [go_sem, xunop, gval, undef]
  subst hC
  refine xc_step fun C hC => ?_
  simp [go_sem]
  refine (both43 B2 x y hxy).mono ?_
  rintro _ _ ⟨rfl, rfl⟩
  rw [hr]
  have hGu : Good u 50 ∧ nodes u ≤ 1000000 := by
    rcases h with ⟨_, _, rfl⟩ | ⟨_, _, rfl⟩
    · exact ⟨hG, by omega⟩
    · exact ⟨hG', by omega⟩
  simp [go_sem, xmkIface]
  refine (calls_base (value42 u _ _ 50 hT hGu.1 hGu.2) hDB2).mono ?_
  rintro _ B3 ⟨D3, ⟨c2, rfl, L3, hc2⟩, hDB3, hkeep⟩
  obtain ⟨hD4, hM4⟩ := hkeep m4 _ hD4 hM4
  obtain ⟨hD5, hM5⟩ := hkeep m5 _ hD5 hM5
  clear hkeep
  subst hC
  have hst : xstore Try.prog 27 (.pointer (some ⟨m4, 0, none⟩)) (.agg c2) B3 = some (B3.set m4 (.cells c2 27 (0, 0))) := xstore_agg ti27 hc2.size hM4 (by rw [hc2.size]; rfl) hc2.one
  have h5' : (B3.set m4 (.cells c2 27)) m5 = some (.cells #[.int .i64 0] 3 (0, 0)) := by rw [set_other d45.symm]; exact hM5
  have hst2 : xstore Try.prog 3 (.pointer (some ⟨m5, 0, none⟩)) (.int .i64 0) (B3.set m4 (.cells c2 27 (0, 0))) = some ((B3.set m4 (.cells c2 27 (0, 0))).set m5 (.cells #[.int .i64 0] 3 (0, 0))) := xstore_field ti3 h5' (by simp) rfl
  have k4 : ((B3.set m4 (.cells c2 27 (0, 0))).set m5 (.cells #[.int .i64 0] 3 (0, 0))).cells? ⟨m4, 0, none⟩ 0 7 = some c2.toList := cells_block (e := 27) (f := (0, 0)) (by rw [set_other d45, set_at]) hc2.size
  have k5 : ((B3.set m4 (.cells c2 27 (0, 0))).set m5 (.cells #[.int .i64 0] 3 (0, 0))).cell? ⟨m5, 0, none⟩ = some (.int .i64 0) := cell_of (c := #[.int .i64 0]) (e := 3) (f := (0, 0)) (set_at _ _ _) rfl
  have hidle : Idle Try.prog { target := .fn (.func 41) #[.pointer (some ⟨m4, 0, none⟩), .pointer (some ⟨m5, 0, none⟩)], args := #[] } := by
    intro w'
    exact ⟨_, _, 41, #[.pointer (some ⟨m4, 0, none⟩), .pointer (some ⟨m5, 0, none⟩)], rfl, by simp [go_sem, invoke], caught41 _ _ _⟩
  have hAB := View.le_trans L1 (View.le_trans L2 (View.le_trans L3 hDB3))
  have hfin : IsRV ((B3.set m4 (.cells c2 27 (0, 0))).set m5 (.cells #[.int .i64 0] 3 (0, 0))) (norm u) c2 := hc2.le (le_set' (le_set' hDB3 hD4) hD5)
  simp [go_sem, vload, hst, hst2, k4, k5]
  exact ⟨hidle, le_set' (le_set' hAB hA4) hA5, hfin⟩
end Go.Proofs.YtogfpbnbojhpoaaV

/- Tables: TableAt, and a path made a table. -/
import Derived.Test.YtogfpbnbojhpoaaTK
namespace Go.Proofs.YtogfpbnbojhpoaaV
open Go.RowKit
theorem good_walk : ∀ (l : List ByteArray) (v u : RV) (lv : Nat), Good v lv → walkT v l = some u → (∃ lv', Good u lv' ∧ lv' ≤ lv) ∧ nodes u ≤ nodes v
  | [], v, u, lv, hG, h => by
    rw [walkT, Option.some.injEq] at h
    subst h
    exact ⟨⟨lv, hG, Nat.le_refl _⟩, Nat.le_refl _⟩
  | s :: l, v, u, lv, hG, h => by
    rw [walkT] at h
    split at h
    · rename_i w hw
      split at h
      · obtain ⟨⟨l', h1, h2⟩, h3⟩ := good_walk l w u _ (good_at hG hw) h
        have := nodes_at hw
        exact ⟨⟨l', h1, by omega⟩, by omega⟩
      · cases h
    · cases h
theorem kind_walk : ∀ (l : List ByteArray) (v u : RV), kindOf v = 7 → walkT v l = some u → kindOf u = 7
  | [], v, u, h7, h => by
    rw [walkT, Option.some.injEq] at h
    subst h
    exact h7
  | s :: l, v, u, h7, h => by
    rw [walkT] at h
    split at h
    · rename_i w hw
      split at h
      · rename_i hk
        exact kind_walk l w u hk h
      · cases h
    · cases h
theorem caught48 (p q : Addr) (w : World) :
    CallsD Try.prog 48 #[.pointer (some p), .pointer (some q)] .returning w fun e u' w' => (∃ v, e = .returned v) ∧ u' = .returning ∧ w' = w := by
  refine callsD_of_wpS Try.func48 rfl fun c₀ cs hu => ?_
  apply wpS_seq
  apply wpS_region
  simp [wpOpsS, go_sem, recoverD, hu, Try.ntmps48, Exit.thenS]
  refine wpS_cond (t := false) (by simp [Act.eval, Array.replicate]) ?_
  simp only [Bool.false_eq_true, if_false]
  refine wpS_of_wp (wp_skip ?_)
  cases c₀
  simp_all [bodyPostS, results, Try.results48]
def GotP (v : RV) (l : List ByteArray) (r : Value) (A' : View) : Prop :=
  (∃ u c2, walkT v l = some u ∧ r = .tuple #[.agg c2, .int .i64 0] ∧ IsRV A' (norm u) c2) ∨ (walkT v l = none ∧ ∃ c2, r = .tuple #[.agg c2, .int .i64 1] ∧ IsRV A' rz c2)
set_option maxRecDepth 20000 in
set_option maxHeartbeats 4000000 in
theorem tableAt20 (A : View) (v : RV) (c : Array Value) (lv : Nat) (p : ByteArray) (hc : IsRV A v c) (hG : Good v lv) (hlv : lv ≤ 60) (hn : nodes v ≤ 2000) (h7 : kindOf v = 7) (hp : p.size ≤ 2147483648) :
    VCalls Try.prog 20 #[.agg c, .string p] A fun r A' => GotP v (parts p) r A' ∧ A ≤ A' := by
  refine xcallsD Try.func20 rfl (by simp [Try.ntmps20]) ?_
  have hcz := hc.size
  simp only [Try.f20]
  refine xc_step fun C hC => ?_
  simp [go_sem, xnew, Value.cells, zeroOf, Instr.fill, zerosB]
  intro m2 h2 m4 h4 m5 h5
  subst hC
  obtain ⟨B, LA, hM2, hM4, hM5, hA4, hA5, d45, hBe⟩ : ∃ B, A ≤ B ∧ B m2 = some (.cells c 27 (0, 0)) ∧ B m4 = some (.cells zc 27 (0, 0)) ∧ B m5 = some (.cells #[.int .i64 0] 3 (0, 0)) ∧ A m4 = none ∧ A m5 = none ∧ m4 ≠ m5 ∧ B = ((A.set m2 (.cells c 27)).set m4 (.cells zc 27)).set m5 (.cells #[.int .i64 0] 3) := by
    have g2 := set_at A m2 (.cells c 27)
    have g2'' := le_set (o := .cells zc 27) h4 _ _ g2
    have g4 := set_at (A.set m2 (.cells c 27)) m4 (.cells zc 27)
    have l3 := le_set (o := .cells c 27) h2
    have l4 := View.le_trans l3 (le_set (o := .cells zc 27) h4)
    exact ⟨_, View.le_trans l4 (le_set h5), le_set h5 _ _ g2'', le_set h5 _ _ g4, set_at _ _ _, none_le l3 h4, none_le l4 h5, ne_of_none g4 h5, rfl⟩
  rw [← hBe]
  clear hBe h2 h4 h5
  have hidle : Idle Try.prog { target := .fn (.func 48) #[.pointer (some ⟨m4, 0, none⟩), .pointer (some ⟨m5, 0, none⟩)], args := #[] } := by
    intro w'
    exact ⟨_, _, 48, #[.pointer (some ⟨m4, 0, none⟩), .pointer (some ⟨m5, 0, none⟩)], rfl, by simp [go_sem, invoke], caught48 _ _ _⟩
  have fin : ∀ (B3 D3 : View) (c2 : Array Value) (n : Int) (u : RV), IsRV D3 u c2 → D3 ≤ B3 → D3 m4 = none → D3 m5 = none → B3 m4 = some (.cells zc 27 (0, 0)) → B3 m5 = some (.cells #[.int .i64 0] 3 (0, 0)) →
      xstore Try.prog 27 (.pointer (some ⟨m4, 0, none⟩)) (.agg c2) B3 = some (B3.set m4 (.cells c2 27 (0, 0))) ∧
      xstore Try.prog 3 (.pointer (some ⟨m5, 0, none⟩)) (.int .i64 n) (B3.set m4 (.cells c2 27 (0, 0))) = some ((B3.set m4 (.cells c2 27 (0, 0))).set m5 (.cells #[.int .i64 n] 3 (0, 0))) ∧
      ((B3.set m4 (.cells c2 27 (0, 0))).set m5 (.cells #[.int .i64 n] 3 (0, 0))).cells? ⟨m4, 0, none⟩ 0 7 = some c2.toList ∧
      ((B3.set m4 (.cells c2 27 (0, 0))).set m5 (.cells #[.int .i64 n] 3 (0, 0))).cell? ⟨m5, 0, none⟩ = some (.int .i64 n) ∧
      IsRV ((B3.set m4 (.cells c2 27 (0, 0))).set m5 (.cells #[.int .i64 n] 3 (0, 0))) u c2 ∧ D3 ≤ ((B3.set m4 (.cells c2 27 (0, 0))).set m5 (.cells #[.int .i64 n] 3 (0, 0))) := by
    intro B3 D3 c2 n u hc2 hDB3 hD4 hD5 hM4 hM5
    have hst := xstore_agg (vs := c2) (c := zc) ti27 hc2.size hM4 (by rw [hc2.size]; rfl) hc2.one
    have h5' : (B3.set m4 (.cells c2 27)) m5 = some (.cells #[.int .i64 0] 3 (0, 0)) := by rw [set_other d45.symm]; exact hM5
    have hst2 : xstore Try.prog 3 (.pointer (some ⟨m5, 0, none⟩)) (.int .i64 n) (B3.set m4 (.cells c2 27 (0, 0))) = some ((B3.set m4 (.cells c2 27 (0, 0))).set m5 (.cells #[.int .i64 n] 3 (0, 0))) := xstore_field ti3 h5' (by simp) rfl
    exact ⟨hst, hst2, cells_block (e := 27) (f := (0, 0)) (by rw [set_other d45, set_at]) hc2.size, cell_of (c := #[.int .i64 n]) (e := 3) (f := (0, 0)) (set_at _ _ _) rfl, hc2.le (le_set' (le_set' hDB3 hD4) hD5), le_set' (le_set' hDB3 hD4) hD5⟩
  refine xc_step fun C hC => ?_
  simp [go_sem, toDefer]
  subst hC
  have gm := cells_block hM2 hcz
  refine xc_step fun C hC => ?_
  simp [go_sem, vload, gm]
  refine (calls_base (table36 v A c lv hc hG hlv hn (.inr h7)) LA).mono ?_
  rintro _ B1 ⟨D1, ⟨x, rfl, L1, hx⟩, hDB1, hkeep⟩
  obtain ⟨hD4, hM4⟩ := hkeep m4 _ hA4 hM4
  obtain ⟨hD5, hM5⟩ := hkeep m5 _ hA5 hM5
  clear hkeep hM2 gm
  rcases hx with ⟨h0, _⟩ | ⟨r, _, rfl, hT⟩
  · rw [h7] at h0; cases h0
  simp [go_sem]
  subst hC
  refine xc_step fun C hC => ?_
  simp [go_sem, xunop]
  subst hC
  refine xc_step fun C hC => ?_
  simp [go_sem]
  refine (calls_base (table49 D1 v r lv p hT h7 hG hp) hDB1).mono ?_
  rintro _ B2 ⟨D2, ⟨hR, L2⟩, hDB2, hkeep⟩
  obtain ⟨hD4, hM4⟩ := hkeep m4 _ hD4 hM4
  obtain ⟨hD5, hM5⟩ := hkeep m5 _ hD5 hM5
  clear hkeep
  have L12 := View.le_trans L1 L2
  rcases hR with ⟨u, r', hwk, hk, rfl, hT2⟩ | ⟨hwk, x, e, rfl⟩
  · obtain ⟨⟨l', hGu, _⟩, hnu⟩ := good_walk _ _ _ _ hG hwk
    simp [go_sem]
    subst hC
    refine xc_step fun C hC => ?_
    simp [go_sem, xbin, eqPlain]
    subst hC
    refine xc_step fun C hC => ?_
    simp [go_sem, xmkIface]
    refine (calls_base (value42 u _ _ l' hT2 hGu (by omega)) hDB2).mono ?_
    rintro _ B3 ⟨D3, ⟨c2, rfl, L3, hc2⟩, hDB3, hkeep⟩
    obtain ⟨hD4, hM4⟩ := hkeep m4 _ hD4 hM4
    obtain ⟨hD5, hM5⟩ := hkeep m5 _ hD5 hM5
    clear hkeep
    subst hC
    obtain ⟨hst, hst2, k4, k5, hfin, hle⟩ := fin B3 D3 c2 0 (norm u) hc2 hDB3 hD4 hD5 hM4 hM5
    simp [go_sem, vload, hst, hst2, k4, k5]
    exact ⟨hidle, .inl ⟨u, c2, hwk, rfl, hfin⟩, View.le_trans (View.le_trans L12 L3) hle⟩
  · simp [go_sem]
    subst hC
    obtain ⟨hst, hst2, k4, k5, hfin, hle⟩ := fin B2 D2 zc 1 rz (rz_is _) hDB2 hD4 hD5 hM4 hM5
    refine xc_step fun C hC => ?_
    simp [go_sem, xbin, eqPlain, xbuild, Instr.fill, Value.cells, vload, hst, hst2, k4, k5]
    exact ⟨hidle, .inr ⟨hwk, _, rfl, hfin⟩, View.le_trans L12 hle⟩
end Go.Proofs.YtogfpbnbojhpoaaV

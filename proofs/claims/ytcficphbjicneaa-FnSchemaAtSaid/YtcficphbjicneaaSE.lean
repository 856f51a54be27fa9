/- Schemas: the schema at a path. -/
import Derived.Test.YtcficphbjicneaaSD
namespace Go.Proofs.YtcficphbjicneaaV
open Go.RowKit
theorem SchV.shape {A : View} {T : ByteArray} : ∀ (p : List ByteArray) (c : Array Value), SchV A T p c → ∃ u i nm fs, c = scv u i nm fs
  | [], c, ⟨u, h1, _⟩ => ⟨_, _, _, _, h1⟩
  | k :: p, c, .inl ⟨_, u, b, c', h1, _⟩ => ⟨_, _, _, _, h1⟩
  | k :: p, c, .inr ⟨_, u, nm, b, c', h1, _⟩ => ⟨_, _, _, _, h1⟩
theorem caught33 (p q : Addr) (w : World) :
    CallsD Try.prog 33 #[.pointer (some p), .pointer (some q)] .returning w fun e u' w' => (∃ v, e = .returned v) ∧ u' = .returning ∧ w' = w := by
  refine callsD_of_wpS Try.func33 rfl fun c₀ cs hu => ?_
  apply wpS_seq
  apply wpS_region
  simp [wpOpsS, go_sem, recoverD, hu, Try.ntmps33, Exit.thenS]
  refine wpS_cond (t := false) (by simp [Act.eval, Array.replicate]) ?_
  simp only [Bool.false_eq_true, if_false]
  refine wpS_of_wp (wp_skip ?_)
  cases c₀
  simp_all [bodyPostS, results, Try.results33]
set_option maxHeartbeats 4000000 in
theorem at19 (A : View) (T : ByteArray) (p : List ByteArray) (c : Array Value) (w : Value) (hS : SchV A T p c) (hw : Texts A w p) (hp : p.length ≤ 6) :
    VCalls Try.prog 19 #[.agg c, w] A fun r A' => ∃ u, r = .tuple #[sl1 u, .int .i64 0] ∧ tx A' u T ∧ A ≤ A' := by
  refine xcallsD Try.func19 rfl (by simp [Try.ntmps19]) ?_
  obtain ⟨cu, ci, cn, cf, hc⟩ := SchV.shape p c hS
  simp only [Try.f19]
  refine xc_step fun C hC => ?_
  simp [go_sem, xnew, Value.cells, zeroOf]
  intro m hm m4 hm4 m5 hm5
  subst hC
  have d1 : m ≠ m4 := fun hx => by rw [← hx, set_at] at hm4; cases hm4
  have hA4 : A m4 = none := by rw [set_other d1.symm] at hm4; exact hm4
  have d2 : m4 ≠ m5 := fun hx => by rw [← hx, set_at] at hm5; cases hm5
  have hm5' := hm5
  rw [set_other d2.symm] at hm5'
  have d3 : m ≠ m5 := fun hx => by rw [← hx, set_at] at hm5'; cases hm5'
  have hA5 : A m5 = none := by rw [set_other d3.symm] at hm5'; exact hm5'
  have hM : (((A.set m (.cells c 43)).set m4 (.cells #[nl] 22)).set m5 (.cells #[.int .i64 0] 3)) m = some (.cells c 43 (0, 0)) := by rw [set_other d3, set_other d1, set_at]
  have h4 : (((A.set m (.cells c 43)).set m4 (.cells #[nl] 22)).set m5 (.cells #[.int .i64 0] 3)) m4 = some (.cells #[nl] 22 (0, 0)) := by rw [set_other d2, set_at]
  have h5 := set_at ((A.set m (.cells c 43)).set m4 (.cells #[nl] 22)) m5 (.cells #[.int .i64 0] 3)
  have L : A ≤ ((A.set m (.cells c 43)).set m4 (.cells #[nl] 22)).set m5 (.cells #[.int .i64 0] 3) := View.le_trans (le_set hm) (View.le_trans (le_set hm4) (le_set hm5))
  generalize ((A.set m (.cells c 43)).set m4 (.cells #[nl] 22)).set m5 (.cells #[.int .i64 0] 3) = B at hM h4 h5 L
  clear hm5' hm5 hm4
  refine xc_step fun C hC => ?_
  simp [go_sem, toDefer]
  subst hC
  have gm := cells_block hM (n := 11) (by rw [hc]; rfl)
  have hs := sof34 T p B c 0 (SchV.le L p c hS) (by omega)
  refine xc_step fun C hC => ?_
  simp [go_sem, vload, gm]
  refine VCalls.mono hs ?_
  rintro _ B1 ⟨b, c', rfl, hb, hz, hO, L1⟩
  simp [go_sem]
  subst hC
  refine xc_step fun C hC => ?_
  simp [go_sem, xunop]
  subst hC
  refine xc_step fun C hC => ?_
  simp [go_sem, xbuild, Instr.fill, xnew, Value.cells]
  intro q hq
  have L2 : B1 ≤ B1.set q (.cells #[.pointer (some ⟨b, 0, none⟩)] 62) := le_set hq
  have hR : RS (B1.set q (.cells #[.pointer (some ⟨b, 0, none⟩)] 62)) T p (.pointer (some ⟨q, 0, none⟩)) := ⟨q, b, c', rfl, set_at _ _ _, L2 _ _ hb, hz, OSV.le L2 p c' hO⟩
  generalize B1.set q (.cells #[.pointer (some ⟨b, 0, none⟩)] 62) = B2 at L2 hR
  refine (lookup35 B2 T _ w p hR (hw.le (View.le_trans L (View.le_trans L1 L2))) (by omega)).mono ?_
  rintro x B3 ⟨⟨m', b', c2, rfl, hm', hb', hz', u, rfl, hu⟩, L3⟩
  subst hC
  refine xc_step fun C hC => ?_
  simp [go_sem, xbin, eqPlain]
  subst hC
  have L0 : B ≤ B3 := View.le_trans L1 (View.le_trans L2 L3)
  have g1 := cell_of hm' (i := 0) rfl
  have g2 := cell_of hb' (i := 0) rfl
  have hst : xstore Try.prog 22 (.pointer (some ⟨m4, 0, none⟩)) (sl1 u) B3 = some (B3.set m4 (.cells #[sl1 u] 22 (0, 0))) := xstore_field ti22 (L0 _ _ h4) (by simp) rfl
  have h5' : (B3.set m4 (.cells #[sl1 u] 22)) m5 = some (.cells #[.int .i64 0] 3 (0, 0)) := by rw [set_other d2.symm]; exact L0 _ _ h5
  have hst2 : xstore Try.prog 3 (.pointer (some ⟨m5, 0, none⟩)) (.int .i64 0) (B3.set m4 (.cells #[sl1 u] 22 (0, 0))) = some ((B3.set m4 (.cells #[sl1 u] 22 (0, 0))).set m5 (.cells #[.int .i64 0] 3 (0, 0))) := xstore_field ti3 h5' (by simp) rfl
  have k4 : ((B3.set m4 (.cells #[sl1 u] 22 (0, 0))).set m5 (.cells #[.int .i64 0] 3 (0, 0))).cell? ⟨m4, 0, none⟩ = some (sl1 u) := cell_of (c := #[sl1 u]) (e := 22) (f := (0, 0)) (by rw [set_other d2, set_at]) rfl
  have k5 : ((B3.set m4 (.cells #[sl1 u] 22 (0, 0))).set m5 (.cells #[.int .i64 0] 3 (0, 0))).cell? ⟨m5, 0, none⟩ = some (.int .i64 0) := cell_of (c := #[.int .i64 0]) (e := 3) (f := (0, 0)) (set_at _ _ _) rfl
  have hu4 : u ≠ m4 := fun hx => by have := L0 _ _ h4; rw [← hx, hu] at this; simp at this
  have hu5 : u ≠ m5 := fun hx => by have := L0 _ _ h5; rw [← hx, hu] at this; simp at this
  have hidle : Idle Try.prog { target := .fn (.func 33) #[.pointer (some ⟨m4, 0, none⟩), .pointer (some ⟨m5, 0, none⟩)], args := #[] } := by
    intro w'
    exact ⟨_, _, 33, #[.pointer (some ⟨m4, 0, none⟩), .pointer (some ⟨m5, 0, none⟩)], rfl, by simp [go_sem, invoke], caught33 _ _ _⟩
  simp [go_sem, xnil, xfieldAt, vload, g1, g2, hst, hst2, k4, k5]
  exact ⟨hidle, by unfold tx; rw [set_other hu5, set_other hu4]; exact hu, le_set' (le_set' (View.le_trans L L0) hA4) hA5⟩
end Go.Proofs.YtcficphbjicneaaV

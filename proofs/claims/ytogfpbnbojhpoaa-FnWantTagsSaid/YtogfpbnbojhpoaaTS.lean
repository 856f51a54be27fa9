/- Tables: what is the same. -/
import Derived.Test.YtogfpbnbojhpoaaTV
namespace Go.Proofs.YtogfpbnbojhpoaaV
open Go.RowKit
set_option linter.unusedSimpArgs false
set_option linter.unusedVariables false
theorem norm_eq {k b i f t keys list k' b' i' f' t' keys' list'} (h : norm (.mk k b i f t keys list) = norm (.mk k' b' i' f' t' keys' list')) (h1 : Kinds k f keys list.length) (h2 : Kinds k' f' keys' list'.length) :
    k' = k ∧ (k = 1 → b' = b) ∧ (k = 2 → i' = i) ∧ (k = 4 → f' = f) ∧ (k = 5 → t' = t) ∧ (k = 6 ∨ k = 7 → list'.map norm = list.map norm) ∧ (k = 7 → keys' = keys) := by
  rw [norm, norm] at h
  have h1' : k = 0 ∨ k = 1 ∨ k = 2 ∨ k = 5 ∨ k = 4 ∨ k = 6 ∨ k = 7 := h1.imp id (Or.imp id (Or.imp id (Or.imp id (Or.imp And.left (Or.imp id And.left)))))
  have h2' : k' = 0 ∨ k' = 1 ∨ k' = 2 ∨ k' = 5 ∨ k' = 4 ∨ k' = 6 ∨ k' = 7 := h2.imp id (Or.imp id (Or.imp id (Or.imp id (Or.imp And.left (Or.imp id And.left)))))
  rcases h1' with rfl | rfl | rfl | rfl | rfl | rfl | rfl <;> rcases h2' with rfl | rfl | rfl | rfl | rfl | rfl | rfl <;> simp at h ⊢ <;> first | exact h.symm | exact ⟨h.2.symm, h.1.symm⟩ | exact h
theorem two_blocks {A : View} {m m2 : Nat} {c d : Array Value} {e1 e2 : TypeId} (hm2 : (A.set m (.cells c e1)) m2 = none) :
    m ≠ m2 ∧ A m2 = none ∧ ((A.set m (.cells c e1)).set m2 (.cells d e2)) m = some (.cells c e1 (0, 0)) ∧ ((A.set m (.cells c e1)).set m2 (.cells d e2)) m2 = some (.cells d e2 (0, 0)) := by
  have d12 : m ≠ m2 := fun hx => by rw [← hx, set_at] at hm2; cases hm2
  exact ⟨d12, by rw [set_other d12.symm] at hm2; exact hm2, by rw [set_other d12, set_at], set_at _ _ _⟩
def A44 (v : RV) : Prop := ∀ (w : RV) (A : View) (c c' : Array Value) (lv lv' : Nat), IsRV A v c → IsRV A w c' → Good v lv → Good w lv' → norm v = norm w → nodes v ≤ 1000000 → VCalls Try.prog 44 #[.agg c, .agg c'] A fun r A' => r = .bool true ∧ A ≤ A'
set_option maxRecDepth 20000 in
set_option maxHeartbeats 4000000 in
theorem same44_step (k : Int) (b : Bool) (i : Int) (f : Nat) (t : ByteArray) (keys : List ByteArray) (list : List RV) (ih : ∀ j (h : j < list.length), A44 list[j]) : A44 (.mk k b i f t keys list) := by
  rintro ⟨k', b', i', f', t', keys', list'⟩ A c c' lv lv' hc hc' hG hG' hN hn
  refine xcalls Try.func44 rfl (by simp [Try.ntmps44]) ?_
  simp only [Try.f44]
  have hcz := hc.size
  have hcz' := hc'.size
  rw [IsRV] at hc hc'
  obtain ⟨ks, ls, hcs, hks, hkl, ⟨bl, cl, rfl⟩, hel⟩ := hc
  obtain ⟨ks', ls', hcs', hks', hkl', ⟨bl', cl', rfl⟩, hel'⟩ := hc'
  obtain ⟨bk, ck, rfl⟩ := hks.slice
  obtain ⟨bk', ck', rfl⟩ := hks'.slice
  rw [Good] at hG hG'
  obtain ⟨hlv, hk6, hk7, hkk, hGs⟩ := hG
  obtain ⟨hlv', hk6', hk7', hkk', hGs'⟩ := hG'
  obtain ⟨rfl, e1, e2, e4, e5, e67, e7⟩ := norm_eq hN hkk hkk'
  rw [nodes_mk] at hn
  have hll : list'.length = list.length := by
    by_cases h6 : k' < 6
    · rw [hk6 h6, hk6' h6]
    · have : k' = 6 ∨ k' = 7 := by
        rcases hkk with rfl | rfl | rfl | rfl | ⟨rfl, _⟩ | rfl | ⟨rfl, _⟩ <;> simp at h6 ⊢
      have := congrArg List.length (e67 this)
      simpa using this
  have hSn : list.length ≤ 1000000 := by
    have h6 := S_ge list list.length (by omega)
    rw [S_all] at h6
    omega
  refine xc_step fun C hC => ?_
  simp [go_sem, xnew, Value.cells]
  intro q hq q' hq'
  subst hC
  obtain ⟨dqq, hq2, hQ, hQ'⟩ := two_blocks (d := c') (e2 := 27) hq'
  have LA : A ≤ (A.set q (.cells c 27)).set q' (.cells c' 27) := View.le_trans (le_set hq) (le_set hq')
  generalize (A.set q (.cells c 27)).set q' (.cells c' 27) = B0 at hQ hQ' LA
  clear hq hq' hq2
  subst hcs hcs'
  have c0 := cell_of hQ (i := 0) rfl
  have c6 := cell_of hQ (i := 6) rfl
  have d0 := cell_of hQ' (i := 0) rfl
  have d6 := cell_of hQ' (i := 6) rfl
  have hl1 : ((list.length : Int) != (list'.length : Int)) = false := by simp [hll]
  refine xc_step fun C hC => ?_
  rw [xc_seq]
  refine xc_reg 19 rfl fun K hK => ?_
  simp only [show (List.range 19).map (·, true) = [(0, true), (1, true), (2, true), (3, true), (4, true), (5, true), (6, true), (7, true), (8, true), (9, true), (10, true), (11, true), (12, true), (13, true), (14, true), (15, true), (16, true), (17, true), (18, true)] from rfl, rslv_cons, rslv_nil, List.getElem?_toArray, List.getElem?_cons_zero, List.getElem?_cons_succ, gres]
  (repeat (refine seqX_hide fun R hR => ?_; simp [go_sem, xfieldAt, xlen, xnil, vload, xbin, eqPlain, wantR, undef, c0, c6, d0, d6, hll]; subst hR))
  rw [seqX_nil]
  refine hK _ _ _ ?_
  clear hK
  simp [go_sem]
  subst hC
  refine xc_step fun C hC => ?_
  rw [xc_seq]
  refine xc_step fun C2 hC2 => ?_
  simp [go_sem, xfieldAt, vload, c0]
  subst hC2
  have tl : (k' = 0 ∨ k' = 6 ∨ k' = 7) → ∀ e' : Env, e' 2 = .pointer (some ⟨q, 0, none⟩) → e' 3 = .pointer (some ⟨q', 0, none⟩) → xc Try.prog 106 C (xend Try.prog 106 [ResultVar.tmp 4] fun r A' => r = .bool true ∧ A ≤ A') e' [] B0 := by
    intro hk e' g2 g3
    subst hC
    refine xc_step fun C hC => ?_
    simp [go_sem]
    rcases hk with rfl | hk
    · refine vloopK (fun k e ds A' => k = 0 ∧ ds = [] ∧ e 2 = .pointer (some ⟨q, 0, none⟩) ∧ A' = B0) 0 ⟨rfl, rfl, by simp [go_sem, g2], rfl⟩ ?_
      rintro k e ds A' ⟨rfl, rfl, g2, rfl⟩ J X hJ hX
      refine xc_sound _ ?_
      refine xc_step fun C3 hC3 => ?_
      simp [go_sem, g2, xfieldAt, vload, c0, xbin, eqPlain, gval, undef]
      subst hC3
      refine hX _ _ _ _ ?_
      simp [go_sem]
      subst hC
      simp [go_sem]
      exact LA
    · have hk6n : (6 : Int) ≤ k' := by rcases hk with rfl | rfl <;> decide
      have hmap := e67 hk
      refine vloopK (fun k e ds A' => ∃ j, k = list.length - j ∧ j ≤ list.length ∧ ds = [] ∧ e 2 = .pointer (some ⟨q, 0, none⟩) ∧ e 3 = .pointer (some ⟨q', 0, none⟩) ∧ e 7 = .int .i64 (j : Nat) ∧ B0 ≤ A') list.length
        ⟨0, by omega, by omega, rfl, by simp [go_sem, g2], by simp [go_sem, g3], by simp [go_sem], View.le_refl _⟩ ?_
      rintro k e ds B ⟨j, rfl, hjl, rfl, g2, g3, g7, hB⟩ J X hJ hX
      refine xc_sound _ ?_
      have c0 := le_cell hB c0
      have c6 := le_cell hB c6
      have d6 := le_cell hB d6
      by_cases hj : j < list.length
      · obtain ⟨a, cap, cj, f1, u1, hcj⟩ := hel j hj
        obtain ⟨a', cap', cj', f1', u1', hcj'⟩ := hel' j (by omega)
        simp only [Value.slice.injEq] at f1 f1'
        obtain ⟨rfl, -, rfl⟩ := f1
        obtain ⟨rfl, -, rfl⟩ := f1'
        have hAB := View.le_trans LA hB
        have u1 := le_cells hAB _ _ _ u1
        have u1' := le_cells hAB _ _ _ u1'
        have hSj : nodes list[j] ≤ 1000000 := by
          have h4 := S_mono list (j + 1) list.length hj
          have h5 := S_succ list j hj
          rw [S_all] at h4
          omega
        have hnj : norm list[j] = norm (list'[j]'(by omega)) := by
          have h1 := congrArg (fun l => l[j]?) hmap
          simp only [List.getElem?_map] at h1
          rw [List.getElem?_eq_getElem hj, List.getElem?_eq_getElem (by omega), Option.map_some, Option.map_some, Option.some.injEq] at h1
          exact h1.symm
        have hw := wrap_nat (i := j) (by omega)
        have hj2 : j < list'.length := by omega
        refine xc_step fun C3 hC3 => ?_
        simp [go_sem, g2, g7, xfieldAt, xlen, vload, c0, c6, xbin, eqPlain, gval, undef, hk6n, hj]
        subst hC3
        refine xc_step fun C3 hC3 => ?_
        rw [xc_seq, xc_block]
        refine xc_step fun C4 hC4 => ?_
        rw [xc_seq, xc_draws]
        refine vdrawK [(0, true), (1, true), (2, true), (3, true), (4, true), (5, true), (6, true), (7, true), (8, true), (9, true), (10, true), (11, true)] B mixed (by kernel_rfl) (View.le_refl _) fun K hK => ?_
        simp only [rslv_cons, rslv_nil, List.getElem?_toArray, List.getElem?_cons_zero, List.getElem?_cons_succ, gres]
        simp [go_sem, g2, g3, g7, xfieldAt, vload, c6, d6, xindexAt, hj, hj2, u1, u1']
        refine (ih j hj _ B cj cj' _ _ (hcj.le hAB) (hcj'.le hAB) (hGs j hj) (hGs' j hj2) hnj hSj).mono ?_
        rintro _ B3 ⟨rfl, L3⟩
        refine ⟨L3, ?_⟩
        simp [go_sem, xunop]
        refine hK _ _ _ ?_
        clear hK
        subst hC4
        simp [go_sem]
        subst hC3
        simp [go_sem, g7, xbin, eqPlain, hw]
        have hlt : list.length - (j + 1) < list.length - j := by omega
        have hle1 : j + 1 ≤ list.length := hj
        exact hJ (list.length - (j + 1)) _ _ _ hlt ⟨j + 1, rfl, hle1, rfl, by simp [go_sem, g2], by simp [go_sem, g3], by simp [go_sem], View.le_trans hB L3⟩
      · refine xc_step fun C3 hC3 => ?_
        simp [go_sem, g2, g7, xfieldAt, xlen, vload, c0, c6, xbin, eqPlain, gval, undef, hk6n, hj]
        subst hC3
        refine hX _ _ _ _ ?_
        simp [go_sem]
        subst hC
        simp [go_sem]
        exact View.le_trans LA hB
  clear hC
  rw [xc_block]
  have c1 := cell_of hQ (i := 1) rfl
  have c2 := cell_of hQ (i := 2) rfl
  have c3 := cell_of hQ (i := 3) rfl
  have c4 := cell_of hQ (i := 4) rfl
  have c5 := cell_of hQ (i := 5) rfl
  have d1 := cell_of hQ' (i := 1) rfl
  have d2 := cell_of hQ' (i := 2) rfl
  have d3 := cell_of hQ' (i := 3) rfl
  have d4 := cell_of hQ' (i := 4) rfl
  have d5 := cell_of hQ' (i := 5) rfl
  rcases hkk with rfl | rfl | rfl | rfl | ⟨rfl, hf⟩ | rfl | ⟨rfl, hris, hlen⟩
  · refine xc_step fun C2 hC2 => ?_
    simp [go_sem, xassert, xbin, eqPlain]
    subst hC2
    refine xc_iffalse (by simp [go_sem]) ?_
    refine xc_step fun C2 hC2 => ?_
    simp [go_sem, xassert, xbin, eqPlain]
    subst hC2
    refine xc_iffalse (by simp [go_sem]) ?_
    refine xc_step fun C2 hC2 => ?_
    simp [go_sem, xassert, xbin, eqPlain]
    subst hC2
    refine xc_iffalse (by simp [go_sem]) ?_
    refine xc_step fun C2 hC2 => ?_
    simp [go_sem, xassert, xbin, eqPlain]
    subst hC2
    refine xc_iffalse (by simp [go_sem]) ?_
    refine xc_step fun C2 hC2 => ?_
    simp [go_sem, xbin, eqPlain]
    subst hC2
    exact tl (.inl rfl) _ (by simp [go_sem]) (by simp [go_sem])
  · refine xc_step fun C2 hC2 => ?_
    simp [go_sem, xassert, xbin, eqPlain]
    subst hC2
    refine xc_iftrue (by simp [go_sem]) ?_
    simp [go_sem, xfieldAt, vload, c1, d1, xbin, eqPlain, e1 rfl]
    exact LA
  · refine xc_step fun C2 hC2 => ?_
    simp [go_sem, xassert, xbin, eqPlain]
    subst hC2
    refine xc_iffalse (by simp [go_sem]) ?_
    refine xc_step fun C2 hC2 => ?_
    simp [go_sem, xassert, xbin, eqPlain]
    subst hC2
    refine xc_iftrue (by simp [go_sem]) ?_
    simp [go_sem, xfieldAt, vload, c2, d2, xbin, eqPlain, e2 rfl]
    exact LA
  · refine xc_step fun C2 hC2 => ?_
    simp [go_sem, xassert, xbin, eqPlain]
    subst hC2
    refine xc_iffalse (by simp [go_sem]) ?_
    refine xc_step fun C2 hC2 => ?_
    simp [go_sem, xassert, xbin, eqPlain]
    subst hC2
    refine xc_iffalse (by simp [go_sem]) ?_
    refine xc_step fun C2 hC2 => ?_
    simp [go_sem, xassert, xbin, eqPlain]
    subst hC2
    refine xc_iffalse (by simp [go_sem]) ?_
    refine xc_step fun C2 hC2 => ?_
    simp [go_sem, xassert, xbin, eqPlain]
    subst hC2
    refine xc_iftrue (by simp [go_sem]) ?_
    simp [go_sem, xfieldAt, vload, c4, d4, xbin, eqPlain, e5 rfl]
    exact LA
  · refine xc_step fun C2 hC2 => ?_
    simp [go_sem, xassert, xbin, eqPlain]
    subst hC2
    refine xc_iffalse (by simp [go_sem]) ?_
    refine xc_step fun C2 hC2 => ?_
    simp [go_sem, xassert, xbin, eqPlain]
    subst hC2
    refine xc_iffalse (by simp [go_sem]) ?_
    refine xc_step fun C2 hC2 => ?_
    simp [go_sem, xassert, xbin, eqPlain]
    subst hC2
    refine xc_iftrue (by simp [go_sem]) ?_
    unfold fine at hf
    simp [go_sem, xfieldAt, vload, c3, d3, xbin, eqPlain, e4 rfl, hf]
    exact LA
  · refine xc_step fun C2 hC2 => ?_
    simp [go_sem, xassert, xbin, eqPlain]
    subst hC2
    refine xc_iffalse (by simp [go_sem]) ?_
    refine xc_step fun C2 hC2 => ?_
    simp [go_sem, xassert, xbin, eqPlain]
    subst hC2
    refine xc_iffalse (by simp [go_sem]) ?_
    refine xc_step fun C2 hC2 => ?_
    simp [go_sem, xassert, xbin, eqPlain]
    subst hC2
    refine xc_iffalse (by simp [go_sem]) ?_
    refine xc_step fun C2 hC2 => ?_
    simp [go_sem, xassert, xbin, eqPlain]
    subst hC2
    refine xc_iffalse (by simp [go_sem]) ?_
    refine xc_step fun C2 hC2 => ?_
    simp [go_sem, xbin, eqPlain]
    subst hC2
    exact tl (.inr (.inl rfl)) _ (by simp [go_sem]) (by simp [go_sem])
  · refine xc_step fun C2 hC2 => ?_
    simp [go_sem, xassert, xbin, eqPlain]
    subst hC2
    refine xc_iffalse (by simp [go_sem]) ?_
    refine xc_step fun C2 hC2 => ?_
    simp [go_sem, xassert, xbin, eqPlain]
    subst hC2
    refine xc_iffalse (by simp [go_sem]) ?_
    refine xc_step fun C2 hC2 => ?_
    simp [go_sem, xassert, xbin, eqPlain]
    subst hC2
    refine xc_iffalse (by simp [go_sem]) ?_
    refine xc_step fun C2 hC2 => ?_
    simp [go_sem, xassert, xbin, eqPlain]
    subst hC2
    refine xc_iffalse (by simp [go_sem]) ?_
    have hkk7 := e7 rfl
    subst hkk7
    refine xc_step fun C2 hC2 => ?_
    simp [go_sem, xbin, eqPlain]
    subst hC2
    refine xc_iftrue (by simp [go_sem]) ?_
    refine xc_step fun C2 hC2 => ?_
    simp [go_sem, xfieldAt, vload, c5, d5, xlen, xbin, eqPlain]
    subst hC2
    refine xc_step fun C2 hC2 => ?_
    simp [go_sem, xfieldAt, vload, c5, xlen]
    subst hC2
    rw [xc_block]
    refine vloopK (fun k e ds A' => ∃ j, k = keys'.length - j ∧ j ≤ keys'.length ∧ ds = [] ∧ e 2 = .pointer (some ⟨q, 0, none⟩) ∧ e 3 = .pointer (some ⟨q', 0, none⟩) ∧ e 67 = .slice bk keys'.length ck ∧ e 68 = .int .i64 keys'.length ∧ e 69 = .int .i64 (j : Nat) ∧ A' = B0) keys'.length
        ⟨0, by omega, by omega, rfl, by simp [go_sem], by simp [go_sem], by simp [go_sem], by simp [go_sem], by simp [go_sem], rfl⟩ ?_
    rintro k e ds B ⟨j, rfl, hjl, rfl, g2, g3, g67, g68, g69, rfl⟩ J X hJ hX
    refine xc_sound _ ?_
    by_cases hj : j < keys'.length
    · obtain ⟨a, cap, f1, u1⟩ := hks.at' hj
      obtain ⟨a', cap', f1', u1'⟩ := hks'.at' hj
      simp only [Value.slice.injEq] at f1 f1'
      obtain ⟨rfl, -, rfl⟩ := f1
      obtain ⟨rfl, -, rfl⟩ := f1'
      have u1 := le_cell LA u1
      have u1' := le_cell LA u1'
      have hw := wrap_nat (i := j) (by omega)
      refine xc_step fun C3 hC3 => ?_
      simp [go_sem, g68, g69, xbin, eqPlain, hj]
      subst hC3
      refine xc_step fun C3 hC3 => ?_
      simp [go_sem]
      subst hC3
      refine xc_step fun C3 hC3 => ?_
      rw [xc_seq, xc_block]
      refine xc_step fun C2 hC2 => ?_
      simp [go_sem, g67, g69, xindexAt, hj, vload, u1]
      subst hC2
      simp [go_sem, g3, xfieldAt, vload, d5, xindexAt, hj, u1', xbin, eqPlain]
      subst hC3
      simp [go_sem, g69, xbin, eqPlain, hw]
      have hlt : keys'.length - (j + 1) < keys'.length - j := by omega
      have hle1 : j + 1 ≤ keys'.length := hj
      exact hJ (keys'.length - (j + 1)) _ _ _ hlt ⟨j + 1, rfl, hle1, rfl, by simp [go_sem, g2], by simp [go_sem, g3], by simp [go_sem, g67], by simp [go_sem, g68], by simp [go_sem], rfl⟩
    · refine xc_step fun C3 hC3 => ?_
      simp [go_sem, g68, g69, xbin, eqPlain, hj]
      subst hC3
      refine xc_step fun C3 hC3 => ?_
      simp [go_sem]
      refine hX _ _ _ _ ?_
      simp [go_sem]
      exact tl (.inr (.inr rfl)) _ (by simp [go_sem, g2]) (by simp [go_sem, g3])
theorem same44 : ∀ (v : RV), A44 v
  | .mk k b i f t keys list => same44_step k b i f t keys list fun j h => same44 (list[j])
termination_by v => SizeOf.sizeOf v
decreasing_by
  have := List.sizeOf_lt_of_mem (List.getElem_mem h)
  simp
  omega
end Go.Proofs.YtogfpbnbojhpoaaV

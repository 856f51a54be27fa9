-- printed by a program of this session: the print, turned for a few more operations
import Derived.Test.YtdomnigegpigiabPFnGvkBackx0
import Derived.Test.YtdomnigegpigiabPFnGvkBackx4
namespace Go.Proofs.Ytdomnigegpigiab.PFnGvkBack
open Go.RowKit Go.Proofs.YtdomnigegpigiabW.PrintWords Go.Proofs.YtdomnigegpigiabW.PrintLast Go.Proofs.YtdomnigegpigiabW.PrintMore
attribute [local go_sem] max2_int min2_int max_two min_two max_three min_three max_four min_four   -- for this text's walks alone
set_option linter.unusedVariables false
set_option linter.unusedSimpArgs false

/-! ### spec_kySplit: function 33 -/
def spec_kySplit.l0 : Nat → ByteArray → ByteArray → List ByteArray → Option (List ByteArray)
  | 0, _, _, _ => none
  | k + 1, x0, x1, x5 => (spec_kyIndex.f k x0 x1).bind fun t193 => (if t193 < 0 then (if x5.length < 8796093022208 then (some (x5 ++ [x0])) else (none)) else (if 0 ≤ t193 then (if t193 ≤ (x0.size : Int) then (if x5.length < 8796093022208 then (if 0 ≤ (wrap64 (t193 + (x1.size : Int))) then (if (wrap64 (t193 + (x1.size : Int))) ≤ (x0.size : Int) then (spec_kySplit.l0 k (x0.extract ((wrap64 (t193 + (x1.size : Int))) : Int).toNat x0.size) x1 (x5 ++ [x0.extract 0 (t193 : Int).toNat])) else (none)) else (none)) else (none)) else (none)) else (none)))
def spec_kySplit.f (k : Nat) (a0 : ByteArray) (a1 : ByteArray) : Option (List ByteArray) := spec_kySplit.l0 k a0 a1 ([] : List ByteArray)
theorem spec_kySplit.mono_l : ∀ k, (∀ y0 y1 y2, LeO (spec_kySplit.l0 k y0 y1 y2) (spec_kySplit.l0 (k + 1) y0 y1 y2))
  | 0 => fun _ _ _ r h => by simp [spec_kySplit.l0] at h
  | k + 1 => by
    have ih0 := spec_kySplit.mono_l k
    · intro y0 y1 y2
      unfold spec_kySplit.l0
      repeat' first
      | (with_reducible exact ih0 _ _ _)
      | (with_reducible exact spec_kyIndex.mono _ _ _)
      | (with_reducible exact LeO.refl _)
      | (with_reducible exact LeO.none _)
      | (with_reducible refine LeO.ite ?_ ?_)
      | (with_reducible refine LeO.bind ?_ (fun _ => ?_))
      | exact ih0 _ _ _
      | exact spec_kyIndex.mono _ _ _
      | exact LeO.none _
      | refine LeO.ite ?_ ?_
      | refine LeO.bind ?_ (fun _ => ?_)
theorem spec_kySplit.mono : ∀ a0 a1 k, LeO (spec_kySplit.f k a0 a1) (spec_kySplit.f (k + 1) a0 a1) := by
  intro a0 a1 k
  have ih0 := spec_kySplit.mono_l k
  unfold spec_kySplit.f
  repeat' first
      | (with_reducible exact ih0 _ _ _)
      | (with_reducible exact spec_kyIndex.mono _ _ _)
      | (with_reducible exact LeO.refl _)
      | (with_reducible exact LeO.none _)
      | (with_reducible refine LeO.ite ?_ ?_)
      | (with_reducible refine LeO.bind ?_ (fun _ => ?_))
      | exact ih0 _ _ _
      | exact spec_kyIndex.mono _ _ _
      | exact LeO.none _
      | refine LeO.ite ?_ ?_
      | refine LeO.bind ?_ (fun _ => ?_)
def spec_kySplit.T5 : Bool × List (List Nat × List Nat) := (true, [([], []), ([], []), ([], []), ([1, 2], [1, 2]), ([3], [3]), ([0, 4], [0, 4]), ([], []), ([], []), ([], []), ([8], [8]), ([7, 9], [7, 9]), ([6, 10], [6, 10]), ([5, 5, 0, 1, 2, 3, 4, 5], [0, 5]), ([11, 12, 0, 1, 2, 3, 4, 5, 6, 7, 8, 9, 10, 11, 12], [1, 6, 11])])
def spec_kySplit.B5 : List Nat := [0, 0, 0, 6, 14, 31, 0, 0, 0, 256, 896, 1984, 63, 8191]
theorem spec_kySplit.tab5 : rtab .any (opsOf Try.f33 5) = spec_kySplit.T5 := by kernel_rfl
theorem spec_kySplit.bits5 : waitsOk spec_kySplit.T5.2 spec_kySplit.B5 = true := by kernel_rfl
set_option maxHeartbeats 8000000 in
set_option maxRecDepth 100000 in
theorem spec_kySplit.calls (k : Nat) (a0 : ByteArray) (a1 : ByteArray) (r : List ByteArray) (w : World) (h : spec_kySplit.f k a0 a1 = some r) :
    Calls Try.prog 33 #[.string a0, .string a1] w fun e w' => ∃ v0_ : Value, e = .returned (v0_) ∧ Kd.R Kd.string 9 w' w.heap.size (fun _ => True) v0_ r ∧ Below w.heap.size w w' := by
  have HB := Aside0.mk (Below.refl w.heap.size w)
  have H : (spec_kySplit.l0 k a0 a1 ([] : List ByteArray)) = some r := h
  clear h
  have H' := Aside0.mk H
  clear H
  go_enter Try.func33, Try.ntmps33
  go_wp2
  go_loopg [0, 5] k (fun kq v0 v5 w' => ∃ (x0_1 : ByteArray) (x5_1 : List ByteArray), v0 = .string x0_1 ∧ Aside0 (spec_kySplit.l0 kq x0_1 a1 x5_1 = some r) ∧ Aside0 (kq ≤ k) ∧ Aside0 (Kd.R Kd.string 9 w' w.heap.size (fun _ => True) v5 x5_1) ∧ Aside0 (Below w.heap.size w w'))
  case atStart => exact ⟨(a0), (([] : List ByteArray)), (by first | rfl | (simp; done) | (simp [*]; done)), H', ⟨Nat.le_refl _⟩, ⟨by first | exact Kd.R_nil _ _ _ _ _ | exact Kd.N_nil _ _ _ _ _ | exact Kd.V_nil _ _ _ _ _ | exact Kd.Q_nil _ _ _ _ _ | exact Kd.S_nil _ _ _ _ _⟩, ⟨by repeat (first | (with_reducible first | exact HB.out | apply below_alloc | apply pw_below_drewN | apply below_drew1) | exact HB.out)⟩⟩
  case round =>
    clear H'
    try clear p2
    obtain ⟨x0_1, x5_1, rfl, HA, HK1, HO_5, HB⟩ := hrel
    cases gk with
    | zero => exact absurd HA.out (by simp [spec_kySplit.l0])
    | succ k1 =>
      have H := HA.out
      clear HA
      simp only [spec_kySplit.l0] at H
      replace H := Option.bind_eq_some_iff.mp H
      obtain ⟨t193, A30, H⟩ := H
      replace H : (if t193 < 0 then (if x5_1.length < 8796093022208 then (some (x5_1 ++ [x0_1])) else (none)) else (if 0 ≤ t193 then (if t193 ≤ (x0_1.size : Int) then (if x5_1.length < 8796093022208 then (if 0 ≤ (wrap64 (t193 + (a1.size : Int))) then (if (wrap64 (t193 + (a1.size : Int))) ≤ (x0_1.size : Int) then (spec_kySplit.l0 k1 (x0_1.extract ((wrap64 (t193 + (a1.size : Int))) : Int).toNat x0_1.size) a1 (x5_1 ++ [x0_1.extract 0 (t193 : Int).toNat])) else (none)) else (none)) else (none)) else (none)) else (none))) = some r := H
      have A3 := Aside0.mk A30
      clear A30
      by_cases c4 : t193 < 0
      · rw [if_pos c4] at H
        have c4b0 : decide (t193 < 0) = true := decide_eq_true c4
        clear c4
        by_cases c5 : x5_1.length < 8796093022208
        · rw [if_pos c5] at H
          have LMc5 := Aside0.mk c5
          clear c5
          obtain ⟨y194, hy194⟩ : ∃ y_ : List ByteArray, y_ = (x5_1 ++ [x0_1]) := ⟨_, rfl⟩
          replace H : (some y194) = some r := by first | (rw [hy194]; with_reducible exact H) | (have H2_ := (Option.bind_some _ _).symm.trans H; rw [hy194]; with_reducible exact H2_) | (have H2_ := (Option.bind_some _ _).symm.trans H; with_reducible exact H2_) | with_reducible exact H | (rw [hy194]; exact H) | exact H
          have Ny194 := Aside0.mk hy194
          clear hy194
          obtain rfl := Option.some.inj H
          go_wp2_with (first | ((with_reducible refine gate_callee (f := 28) rfl ?_); refine goesL_ (some 9) rfl rfl Try.func28 (by kernel_rfl) rfl #[.string x0_1, .string a1] rfl (by (try simp only [List.map_toArray, List.map_cons, List.map_nil]); first | done | rfl | (simp only [List.length_drop, List.length_take]; rfl)) ?_; (with_reducible refine (spec_kyIndex.calls k1 x0_1 a1 t193 _ A3.out).mono ?_); rintro e w' ⟨rfl, ⟨nd, rfl⟩⟩; refine ⟨_, rfl, ?_⟩) | ((with_reducible refine gate_builtin (b := .append) (xs := #[.tmp 12, .tmp 14]) rfl ?_); at_builtin; refine Kd.R_append Kd.string (w0 := w) w.heap.size rfl (.tmp 12) (.tmp 14) 27 9 (.string ⟨#[]⟩) 16 rfl Try.underlying27 info9 rfl (by decide) (by omega) u5 x5_1 x0_1 [.string x0_1] (fun _ => True) (fun _ => False) rfl rfl ?aP (fun _ hk => hk.elim) ?aF ?aO ?aB ?aS ?aL ?_; (case aP => exact rfl); (case aB => exact (by repeat (first | (with_reducible first | exact HB.out | apply below_alloc | apply pw_below_drewN | apply below_drew1) | exact HB.out))); (case aF => exact (fun _ _ => trivial)); (case aO => exact (by (with_reducible repeat (first | apply Kd.R_alloc | apply Kd.R_drewN | apply Kd.R_drew)); exact HO_5.out)); (case aS => exact (below_size (by repeat (first | (with_reducible first | exact HB.out | apply below_alloc | apply pw_below_drewN | apply below_drew1) | exact HB.out)))); (case aL => have := LMc5.out; omega); intro v195 w6 ho hb hg hat; rw [← Ny194.out] at ho; have n0_ := Aside0.mk (hb); have n1_ := Aside0.mk (ho); clear HB; clear HO_5; have HB := n0_; have HO196 := n1_; clear n0_ n1_; clear ho hb hg hat))
          go_ret
          exact ⟨_, by first | rfl | (simp [errW_none, errW_some] <;> rfl) | (simp [*, errW_none, errW_some] <;> rfl), by (with_reducible repeat (first | apply Kd.R_alloc | apply Kd.R_drewN | apply Kd.R_drew)); exact HO196.out, by repeat (first | (with_reducible first | exact HB.out | apply below_alloc | apply pw_below_drewN | apply below_drew1) | exact HB.out)⟩
        · rw [if_neg c5] at H
          exact absurd H (by simp)
      · rw [if_neg c4] at H
        have c4b0 : decide (t193 < 0) = false := decide_eq_false c4
        clear c4
        by_cases c7 : 0 ≤ t193
        · rw [if_pos c7] at H
          have c7b0 := eq_true c7
          have c7b1 : decide (0 ≤ t193) = true := decide_eq_true c7
          clear c7
          by_cases c8 : t193 ≤ (x0_1.size : Int)
          · rw [if_pos c8] at H
            have c8b0 := eq_true c8
            have c8b1 : decide (t193 ≤ (x0_1.size : Int)) = true := decide_eq_true c8
            clear c8
            by_cases c9 : x5_1.length < 8796093022208
            · rw [if_pos c9] at H
              have LMc9 := Aside0.mk c9
              clear c9
              obtain ⟨y197, hy197⟩ : ∃ y_ : List ByteArray, y_ = (x5_1 ++ [x0_1.extract 0 (t193 : Int).toNat]) := ⟨_, rfl⟩
              replace H : (if 0 ≤ (wrap64 (t193 + (a1.size : Int))) then (if (wrap64 (t193 + (a1.size : Int))) ≤ (x0_1.size : Int) then (spec_kySplit.l0 k1 (x0_1.extract ((wrap64 (t193 + (a1.size : Int))) : Int).toNat x0_1.size) a1 y197) else (none)) else (none)) = some r := by first | (rw [hy197]; with_reducible exact H) | (have H2_ := (Option.bind_some _ _).symm.trans H; rw [hy197]; with_reducible exact H2_) | (have H2_ := (Option.bind_some _ _).symm.trans H; with_reducible exact H2_) | with_reducible exact H | (rw [hy197]; exact H) | exact H
              have Ny197 := Aside0.mk hy197
              clear hy197
              obtain ⟨ji10, hji10⟩ : ∃ j_ : Int, (wrap64 (t193 + (a1.size : Int))) = j_ := ⟨_, rfl⟩
              replace H : (if 0 ≤ (ji10) then (if (ji10) ≤ (x0_1.size : Int) then (spec_kySplit.l0 k1 (x0_1.extract ((ji10) : Int).toNat x0_1.size) a1 y197) else (none)) else (none)) = some r := by first | (rw [hji10] at H; exact H) | (simp only [hji10] at H ⊢; exact H)
              (try rw [hji10] at A3)
              have hji10w : (IntKind.i64.wrap (t193 + (a1.size : Int))) = ji10 := (i64_w _).trans hji10
              by_cases c11 : 0 ≤ (ji10)
              · rw [if_pos c11] at H
                have c11b0 := eq_true c11
                have c11b1 : decide (0 ≤ (ji10)) = true := decide_eq_true c11
                clear c11
                by_cases c12 : (ji10) ≤ (x0_1.size : Int)
                · rw [if_pos c12] at H
                  have c12b0 := eq_true c12
                  have c12b1 : decide ((ji10) ≤ (x0_1.size : Int)) = true := decide_eq_true c12
                  clear c12
                  have H' := Aside0.mk H
                  clear H
                  try go_wp2_with (first | ((with_reducible refine gate_callee (f := 28) rfl ?_); refine goesL_ (some 9) rfl rfl Try.func28 (by kernel_rfl) rfl #[.string x0_1, .string a1] rfl (by (try simp only [List.map_toArray, List.map_cons, List.map_nil]); first | done | rfl | (simp only [List.length_drop, List.length_take]; rfl)) ?_; (with_reducible refine (spec_kyIndex.calls k1 x0_1 a1 t193 _ A3.out).mono ?_); rintro e w' ⟨rfl, ⟨nd, rfl⟩⟩; refine ⟨_, rfl, ?_⟩))
                  (try (rw [drewN_self wr]; generalize hq_ : World.drewN wr _ = wr; have n0_ : Aside0 (Kd.R Kd.string 9 wr w.heap.size (fun _ => True) u5 x5_1) := ⟨by rw [← hq_]; exact (by (with_reducible repeat (first | apply Kd.R_alloc | apply Kd.R_drewN | apply Kd.R_drew)); exact HO_5.out)⟩; have n1_ : Aside0 (Below w.heap.size w wr) := ⟨by rw [← hq_]; exact (by repeat (first | (with_reducible first | exact HB.out | apply below_alloc | apply pw_below_drewN | apply below_drew1) | exact HB.out))⟩; clear HO_5 HB hq_; have HO_5 := n0_; have HB := n1_; clear n0_ n1_))
                  have n0_ := Aside0.mk (Kd.R_drew HO_5.out)
                  have n1_ := Aside0.mk (below_drew1 HB.out)
                  clear HO_5
                  clear HB
                  have HO_5 := n0_
                  have HB := n1_
                  clear n0_ n1_
                  refine start_ (n := 14) (S := fun w' => True) (ds := []) #[false, false, false, false, false, false, false, false, false, false, false, false, false, false] (by kernel_rfl) rfl rfl trivial (fun hHeld => ?_); refine with_tabW spec_kySplit.tab5 spec_kySplit.bits5 (fun HT_ HW_ => ?_)
                  generalize wr.drew = w13 at HO_5 HB hHeld ⊢
                  refine pure_ (i := 0) (N := some 16) (v := ?_) (a' := ?_) #[true, false, false, false, false, false, false, false, false, false, false, false, false, false] rfl rfl (any_of HT_.out (by kernel_rfl)) (fun _ _ _ h => h) (Or.inl ⟨by rfl, ?_⟩) ?_ ?_
                  rotate_left
                  · intro w'
                    go_simp
                    with_reducible rfl
                  rotate_left
                  · simp only [Act.put, List.setIfInBounds_toArray, List.set_cons_zero, List.set_cons_succ, i64_w, i32_w]
                    rfl
                  refine pure_ (i := 1) (N := some 17) (v := ?_) (a' := ?_) #[true, true, false, false, false, false, false, false, false, false, false, false, false, false] rfl rfl (any_of HT_.out (by kernel_rfl)) (fun _ _ _ h => h) (Or.inl ⟨by rfl, ?_⟩) ?_ ?_
                  rotate_left
                  · intro w'
                    go_simp
                    with_reducible rfl
                  rotate_left
                  · simp only [Act.put, List.setIfInBounds_toArray, List.set_cons_zero, List.set_cons_succ, i64_w, i32_w]
                    rfl
                  refine pure_ (i := 2) (N := some 18) (v := ?_) (a' := ?_) #[true, true, true, false, false, false, false, false, false, false, false, false, false, false] rfl rfl (any_of HT_.out (by kernel_rfl)) (fun _ _ _ h => h) (Or.inl ⟨by rfl, ?_⟩) ?_ ?_
                  rotate_left
                  · intro w'
                    go_simp
                    with_reducible rfl
                  rotate_left
                  · simp only [Act.put, List.setIfInBounds_toArray, List.set_cons_zero, List.set_cons_succ, i64_w, i32_w]
                    rfl
                  refine pure_ (i := 3) (N := some 19) (v := ?_) (a' := ?_) #[true, true, true, true, false, false, false, false, false, false, false, false, false, false] rfl rfl (any_of HT_.out (by kernel_rfl)) (fun _ _ _ h => h) (Or.inl ⟨by rfl, ?_⟩) ?_ ?_
                  rotate_left
                  · intro w'
                    go_simp
                    with_reducible rfl
                  rotate_left
                  · simp only [Act.put, List.setIfInBounds_toArray, List.set_cons_zero, List.set_cons_succ, i64_w, i32_w]
                    rfl
                  refine pure_ (i := 6) (N := some 22) (v := ?_) (a' := ?_) #[true, true, true, true, false, false, true, false, false, false, false, false, false, false] rfl rfl (any_of HT_.out (by kernel_rfl)) (fun _ _ _ h => h) (Or.inl ⟨by rfl, ?_⟩) ?_ ?_
                  rotate_left
                  · intro w'
                    go_simp
                    with_reducible rfl
                  rotate_left
                  · simp only [Act.put, List.setIfInBounds_toArray, List.set_cons_zero, List.set_cons_succ, i64_w, i32_w]
                    rfl
                  refine pure_ (i := 7) (N := some 23) (v := ?_) (a' := ?_) #[true, true, true, true, false, false, true, true, false, false, false, false, false, false] rfl rfl (any_of HT_.out (by kernel_rfl)) (fun _ _ _ h => h) (Or.inl ⟨by rfl, ?_⟩) ?_ ?_
                  rotate_left
                  · intro w'
                    go_simp
                    with_reducible rfl
                  rotate_left
                  · simp only [Act.put, List.setIfInBounds_toArray, List.set_cons_zero, List.set_cons_succ, i64_w, i32_w]
                    rfl
                  refine pure_ (i := 8) (N := some 24) (v := ?_) (a' := ?_) #[true, true, true, true, false, false, true, true, true, false, false, false, false, false] rfl rfl (any_of HT_.out (by kernel_rfl)) (fun _ _ _ h => h) (Or.inl ⟨by rfl, ?_⟩) ?_ ?_
                  rotate_left
                  · intro w'
                    go_simp
                    with_reducible rfl
                  rotate_left
                  · simp only [Act.put, List.setIfInBounds_toArray, List.set_cons_zero, List.set_cons_succ, i64_w, i32_w]
                    rfl
                  refine pure_ (i := 9) (N := some 25) (v := ?_) (a' := ?_) #[true, true, true, true, false, false, true, true, true, true, false, false, false, false] rfl rfl (any_of HT_.out (by kernel_rfl)) (fun _ _ _ h => h) (Or.inl ⟨by rfl, ?_⟩) ?_ ?_
                  rotate_left
                  · intro w'
                    go_simp
                    with_reducible rfl
                  rotate_left
                  · simp only [Act.put, List.setIfInBounds_toArray, List.set_cons_zero, List.set_cons_succ, i64_w, i32_w]
                    rfl
                  refine pure_ (i := 10) (N := some 26) (v := ?_) (a' := ?_) #[true, true, true, true, false, false, true, true, true, true, true, false, false, false] rfl rfl (any_of HT_.out (by kernel_rfl)) (fun _ _ _ h => h) (Or.inl ⟨by rfl, ?_⟩) ?_ ?_
                  rotate_left
                  · intro w'
                    go_simp
                    with_reducible rfl
                  rotate_left
                  · simp only [Act.put, List.setIfInBounds_toArray, List.set_cons_zero, List.set_cons_succ, i64_w, i32_w]
                    rfl
                  refine pure_ (i := 11) (N := some 27) (v := ?_) (a' := ?_) #[true, true, true, true, false, false, true, true, true, true, true, true, false, false] rfl rfl (any_of HT_.out (by kernel_rfl)) (fun _ _ _ h => h) (Or.inl ⟨by rfl, ?_⟩) ?_ ?_
                  rotate_left
                  · intro w'
                    go_simp
                    with_reducible rfl
                  rotate_left
                  · simp only [Act.put, List.setIfInBounds_toArray, List.set_cons_zero, List.set_cons_succ, i64_w, i32_w]
                    rfl
                  refine one_ (i := 4) (N := some 20) #[true, true, true, true, true, false, true, true, true, true, true, true, false, false] rfl rfl (one_of HT_.out (by kernel_rfl)) (by decide) (fun K hK => ?_)
                  refine value_ (w1 := ?_) (v := ?_) (by rfl) rfl ?_ ?_
                  rotate_left 2
                  · go_simp
                    constructor
                    · rfl
                    · rfl
                  refine hK.out _ _ trivial (fun hHeld => ?_)
                  clear hK K
                  refine norm_ (a' := ?_) ?_ ?_
                  rotate_left
                  · show Act.put _ (some 20) _ = _
                    simp only [Act.put, List.setIfInBounds_toArray, List.set_cons_zero, List.set_cons_succ, i64_w, i32_w]
                    rfl
                  refine one_ (i := 5) (N := some 21) #[true, true, true, true, true, true, true, true, true, true, true, true, false, false] rfl rfl (one_of HT_.out (by kernel_rfl)) (by decide) (fun K hK => ?_)
                  refine Kd.R_append_step Kd.string (w0 := w) w.heap.size (by rfl) (.tmp 16) (.tmp 20) 27 9 (.string ⟨#[]⟩) 16 rfl Try.underlying27 info9 rfl (by decide) (by omega) u5 x5_1 (x0_1.extract 0 (t193 : Int).toNat) [.string (x0_1.extract 0 (t193 : Int).toNat)] (fun _ => True) (fun _ => False) rfl rfl ?aP (fun _ hk => hk.elim) ?aF ?aO ?aB ?aS ?aL ?_
                  (case aP => exact rfl)
                  (case aB => exact (by repeat (first | (with_reducible first | exact HB.out | apply below_alloc | apply pw_below_drewN | apply below_drew1) | exact HB.out)))
                  (case aF => exact (fun _ _ => trivial))
                  (case aO => exact (by (with_reducible repeat (first | apply Kd.R_alloc | apply Kd.R_drewN | apply Kd.R_drew)); exact HO_5.out))
                  (case aS => exact (below_size (by repeat (first | (with_reducible first | exact HB.out | apply below_alloc | apply pw_below_drewN | apply below_drew1) | exact HB.out))))
                  (case aL => have := LMc9.out; omega)
                  intro v198 w14 ho hb hg hat
                  rw [← Ny197.out] at ho
                  have n0_ := Aside0.mk (hb)
                  have n1_ := Aside0.mk (ho)
                  clear HB
                  clear HO_5
                  have HB := n0_
                  have HO199 := n1_
                  clear n0_ n1_
                  clear ho hb hg hat
                  refine hK.out _ _ trivial (fun hHeld => ?_)
                  clear hK K
                  refine norm_ (a' := ?_) ?_ ?_
                  rotate_left
                  · show Act.put _ (some 21) _ = _
                    simp only [Act.put, List.setIfInBounds_toArray, List.set_cons_zero, List.set_cons_succ, i64_w, i32_w]
                    rfl
                  refine pure_ (i := 12) (N := some 5) (v := ?_) (a' := ?_) #[true, true, true, true, true, true, true, true, true, true, true, true, true, false] rfl rfl (any_of HT_.out (by kernel_rfl)) (fun _ _ _ h => h) (Or.inl ⟨by rfl, ?_⟩) ?_ ?_
                  rotate_left
                  · intro w'
                    go_simp
                    with_reducible rfl
                  rotate_left
                  · simp only [Act.put, List.setIfInBounds_toArray, List.set_cons_zero, List.set_cons_succ, i64_w, i32_w]
                    rfl
                  refine pure_ (i := 13) (N := some 0) (v := ?_) (a' := ?_) #[true, true, true, true, true, true, true, true, true, true, true, true, true, true] rfl rfl (any_of HT_.out (by kernel_rfl)) (fun _ _ _ h => h) (Or.inl ⟨by rfl, ?_⟩) ?_ ?_
                  rotate_left
                  · intro w'
                    go_simp
                    with_reducible rfl
                  rotate_left
                  · simp only [Act.put, List.setIfInBounds_toArray, List.set_cons_zero, List.set_cons_succ, i64_w, i32_w]
                    rfl
                  refine done_ (done_of HT_.out (by kernel_rfl)) ?_
                  try go_wp2
                  go_roundg k1
                  case measure => have := HK1.out; omega
                  case rel => exact ⟨(x0_1.extract ((ji10) : Int).toNat x0_1.size), (y197), (by first | rfl | (simp; done) | (simp only [← hji10] <;> (first | rfl | simp)) | (simp [*]; done)), H', ⟨by have := HK1.out; omega⟩, ⟨by (with_reducible repeat (first | apply Kd.R_alloc | apply Kd.R_drewN | apply Kd.R_drew)); exact HO199.out⟩, ⟨by repeat (first | (with_reducible first | exact HB.out | apply below_alloc | apply pw_below_drewN | apply below_drew1) | exact HB.out)⟩⟩
                · rw [if_neg c12] at H
                  exact absurd H (by simp)
              · rw [if_neg c11] at H
                exact absurd H (by simp)
            · rw [if_neg c9] at H
              exact absurd H (by simp)
          · rw [if_neg c8] at H
            exact absurd H (by simp)
        · rw [if_neg c7] at H
          exact absurd H (by simp)

/-! ### spec_kyUnless: function 34 -/
def spec_kyUnless.f (a0 : ByteArray) (a1 : ByteArray) : Option (ByteArray) := if a0.toList = a1.toList then (some (⟨#[]⟩ : ByteArray)) else (some a0)
set_option maxHeartbeats 8000000 in
set_option maxRecDepth 100000 in
theorem spec_kyUnless.calls (a0 : ByteArray) (a1 : ByteArray) (r : ByteArray) (w : World) (h : spec_kyUnless.f a0 a1 = some r) :
    Calls Try.prog 34 #[.string a0, .string a1] w fun e w' => e = .returned (.string r) ∧ Drawn0 w w' := by
  have H : (if a0.toList = a1.toList then (some (⟨#[]⟩ : ByteArray)) else (some a0)) = some r := h
  clear h
  by_cases c3 : a0.toList = a1.toList
  · rw [if_pos c3] at H
    have c3b0 : (a0.toList == a1.toList) = true := beq_iff_eq.mpr c3
    have c3b1 : (a0.toList != a1.toList) = false := bne_eq_false_iff_eq.mpr c3
    clear c3
    obtain rfl := Option.some.inj H
    go_enter Try.func34, Try.ntmps34
    go_wp2
    go_ret
    exact ⟨by first | rfl | (simp; done) | (simp [*]; done), by repeat (first | exact Drawn0.refl _ | apply Drawn0.step)⟩
  · rw [if_neg c3] at H
    have c3b0 : (a0.toList == a1.toList) = false := beq_eq_false_iff_ne.mpr c3
    have c3b1 : (a0.toList != a1.toList) = true := bne_iff_ne.mpr c3
    obtain rfl := Option.some.inj H
    go_enter Try.func34, Try.ntmps34
    go_wp2
    go_ret
    exact ⟨by first | rfl | (simp; done) | (simp [*]; done), by repeat (first | exact Drawn0.refl _ | apply Drawn0.step)⟩

/-! ### spec_kyJoin: function 35 -/
def spec_kyJoin.l0 : Nat → ByteArray → ByteArray → List ByteArray → Int → Int → Option (ByteArray)
  | 0, _, _, _, _, _ => none
  | k + 1, x1, x5, x8, x9, x10 => if x10 < x9 then (if 0 ≤ x10 then (if x10 < (x8.length : Int) then (if x10 > 0 then (if x5.size + x1.size ≤ 9223372036854775807 then (if (x5 ++ x1).size + (rdOf ByteArray.empty x8 x10).size ≤ 9223372036854775807 then (spec_kyJoin.l0 k x1 ((x5 ++ x1) ++ (rdOf ByteArray.empty x8 x10)) x8 x9 (wrap64 (x10 + 1))) else (none)) else (none)) else (if x5.size + (rdOf ByteArray.empty x8 x10).size ≤ 9223372036854775807 then (spec_kyJoin.l0 k x1 (x5 ++ (rdOf ByteArray.empty x8 x10)) x8 x9 (wrap64 (x10 + 1))) else (none))) else (none)) else (none)) else (some x5)
def spec_kyJoin.f (k : Nat) (l0 : List ByteArray) (a1 : ByteArray) : Option (ByteArray) := spec_kyJoin.l0 k a1 (⟨#[]⟩ : ByteArray) l0 (l0.length : Int) 0
theorem spec_kyJoin.mono_l : ∀ k, (∀ y0 y1 y2 y3 y4, LeO (spec_kyJoin.l0 k y0 y1 y2 y3 y4) (spec_kyJoin.l0 (k + 1) y0 y1 y2 y3 y4))
  | 0 => fun _ _ _ _ _ r h => by simp [spec_kyJoin.l0] at h
  | k + 1 => by
    have ih0 := spec_kyJoin.mono_l k
    · intro y0 y1 y2 y3 y4
      unfold spec_kyJoin.l0
      repeat' first
      | (with_reducible exact ih0 _ _ _ _ _)
      | (with_reducible exact LeO.refl _)
      | (with_reducible exact LeO.none _)
      | (with_reducible refine LeO.ite ?_ ?_)
      | (with_reducible refine LeO.bind ?_ (fun _ => ?_))
      | exact ih0 _ _ _ _ _
      | exact LeO.none _
      | refine LeO.ite ?_ ?_
      | refine LeO.bind ?_ (fun _ => ?_)
theorem spec_kyJoin.mono : ∀ a0 a1 k, LeO (spec_kyJoin.f k a0 a1) (spec_kyJoin.f (k + 1) a0 a1) := by
  intro a0 a1 k
  have ih0 := spec_kyJoin.mono_l k
  unfold spec_kyJoin.f
  repeat' first
      | (with_reducible exact ih0 _ _ _ _ _)
      | (with_reducible exact LeO.refl _)
      | (with_reducible exact LeO.none _)
      | (with_reducible refine LeO.ite ?_ ?_)
      | (with_reducible refine LeO.bind ?_ (fun _ => ?_))
      | exact ih0 _ _ _ _ _
      | exact LeO.none _
      | refine LeO.ite ?_ ?_
      | refine LeO.bind ?_ (fun _ => ?_)
set_option maxHeartbeats 8000000 in
set_option maxRecDepth 100000 in
theorem spec_kyJoin.calls (k : Nat) (A0 : Option Addr) (c0 : Nat) (l0 : List ByteArray) (a1 : ByteArray) (r : ByteArray) (w : World) (hr0 : Kd.C Kd.string w A0 l0.length l0) (hc0 : l0.length ≤ c0) (h : spec_kyJoin.f k l0 a1 = some r) :
    Calls Try.prog 35 #[.slice A0 l0.length c0, .string a1] w fun e w' => e = .returned (.string r) ∧ Drawn0 w w' := by
  have HR0 := Aside0.mk hr0
  have HC0 := Aside0.mk hc0
  clear hr0 hc0
  have H : (spec_kyJoin.l0 k a1 (⟨#[]⟩ : ByteArray) l0 (l0.length : Int) 0) = some r := h
  clear h
  have H' := Aside0.mk H
  clear H
  go_enter Try.func35, Try.ntmps35
  go_wp2
  go_loopg [5, 10] k (fun kq v5 v10 w' => ∃ (x5_1 : ByteArray) (x10_1 : Int), v5 = .string x5_1 ∧ v10 = .int .i64 x10_1 ∧ Aside0 (spec_kyJoin.l0 kq a1 x5_1 l0 (l0.length : Int) x10_1 = some r) ∧ Aside0 (kq ≤ k) ∧ Drawn0 w w')
  case atStart => exact ⟨((⟨#[]⟩ : ByteArray)), (0), (by first | rfl | (simp; done) | (simp [*]; done)), (by first | rfl | (simp; done) | (simp [*]; done)), H', ⟨Nat.le_refl _⟩, by repeat (first | exact Drawn0.refl _ | apply Drawn0.step)⟩
  case round =>
    clear H'
    try clear p2
    obtain ⟨x5_1, x10_1, rfl, rfl, HA, HK1, ⟨m1, rfl⟩⟩ := hrel
    cases gk with
    | zero => exact absurd HA.out (by simp [spec_kyJoin.l0])
    | succ k1 =>
      have H := HA.out
      clear HA
      simp only [spec_kyJoin.l0] at H
      by_cases c3 : x10_1 < (l0.length : Int)
      · rw [if_pos c3] at H
        have c3b0 : decide (x10_1 < (l0.length : Int)) = true := decide_eq_true c3
        clear c3
        by_cases c4 : 0 ≤ x10_1
        · rw [if_pos c4] at H
          have c4b0 : decide (0 ≤ x10_1) = true := decide_eq_true c4
          clear c4
          by_cases c5 : x10_1 < (l0.length : Int)
          · rw [if_pos c5] at H
            have c5b0 : decide (x10_1 < (l0.length : Int)) = true := decide_eq_true c5
            clear c5
            by_cases c6 : x10_1 > 0
            · rw [if_pos c6] at H
              have c6b0 : decide (0 < x10_1) = true := decide_eq_true c6
              clear c6
              by_cases c7 : x5_1.size + a1.size ≤ 9223372036854775807
              · rw [if_pos c7] at H
                have c7b0 := eq_true c7
                have c7b1 : decide (x5_1.size + a1.size ≤ 9223372036854775807) = true := decide_eq_true c7
                try have c7b2 : (9223372036854775807 < x5_1.size + a1.size) = False := eq_false (Nat.not_lt.2 c7)
                by_cases c8 : (x5_1 ++ a1).size + (rdOf ByteArray.empty l0 x10_1).size ≤ 9223372036854775807
                · rw [if_pos c8] at H
                  have c8b0 := eq_true c8
                  have c8b1 : decide ((x5_1 ++ a1).size + (rdOf ByteArray.empty l0 x10_1).size ≤ 9223372036854775807) = true := decide_eq_true c8
                  try have c8b2 : (9223372036854775807 < (x5_1 ++ a1).size + (rdOf ByteArray.empty l0 x10_1).size) = False := eq_false (Nat.not_lt.2 c8)
                  try (have c8b3 := c8b2; rw [ByteArray.size_append] at c8b3)
                  try (have c8b4 : (9223372036854775807 < x5_1.size + a1.size + (rdOf ByteArray.empty l0 x10_1).size) = False := by have h_ := c8b2; simp only [ByteArray.size_append] at h_; exact h_)
                  have H' := Aside0.mk H
                  clear H
                  have p200 : 0 ≤ (x10_1 : Int) := of_decide_eq_true (by first | (with_reducible assumption) | assumption)
                  have q200 : x10_1 < (l0.length : Int) := of_decide_eq_true (by first | (with_reducible assumption) | assumption)
                  obtain ⟨ad200, e200, hx200_0⟩ := Kd.at_string HR0.out x10_1 p200 q200
                  cases e200
                  replace p200 := eq_true p200
                  replace q200 := eq_true q200
                  go_wp2
                  go_roundg k1
                  case measure => have := HK1.out; omega
                  case rel => exact ⟨((x5_1 ++ a1) ++ (rdOf ByteArray.empty l0 x10_1)), (wrap64 (x10_1 + 1)), (by first | rfl | (simp; done) | (simp [*]; done)), (by first | rfl | (simp; done) | (simp [*]; done)), H', ⟨by have := HK1.out; omega⟩, by repeat (first | exact Drawn0.refl _ | apply Drawn0.step)⟩
                · rw [if_neg c8] at H
                  exact absurd H (by simp)
              · rw [if_neg c7] at H
                exact absurd H (by simp)
            · rw [if_neg c6] at H
              have c6b0 : decide (0 < x10_1) = false := decide_eq_false c6
              clear c6
              by_cases c9 : x5_1.size + (rdOf ByteArray.empty l0 x10_1).size ≤ 9223372036854775807
              · rw [if_pos c9] at H
                have c9b0 := eq_true c9
                have c9b1 : decide (x5_1.size + (rdOf ByteArray.empty l0 x10_1).size ≤ 9223372036854775807) = true := decide_eq_true c9
                try have c9b2 : (9223372036854775807 < x5_1.size + (rdOf ByteArray.empty l0 x10_1).size) = False := eq_false (Nat.not_lt.2 c9)
                have H' := Aside0.mk H
                clear H
                have p200 : 0 ≤ (x10_1 : Int) := of_decide_eq_true (by first | (with_reducible assumption) | assumption)
                have q200 : x10_1 < (l0.length : Int) := of_decide_eq_true (by first | (with_reducible assumption) | assumption)
                obtain ⟨ad200, e200, hx200_0⟩ := Kd.at_string HR0.out x10_1 p200 q200
                cases e200
                replace p200 := eq_true p200
                replace q200 := eq_true q200
                go_wp2
                go_roundg k1
                case measure => have := HK1.out; omega
                case rel => exact ⟨(x5_1 ++ (rdOf ByteArray.empty l0 x10_1)), (wrap64 (x10_1 + 1)), (by first | rfl | (simp; done) | (simp [*]; done)), (by first | rfl | (simp; done) | (simp [*]; done)), H', ⟨by have := HK1.out; omega⟩, by repeat (first | exact Drawn0.refl _ | apply Drawn0.step)⟩
              · rw [if_neg c9] at H
                exact absurd H (by simp)
          · rw [if_neg c5] at H
            exact absurd H (by simp)
        · rw [if_neg c4] at H
          exact absurd H (by simp)
      · rw [if_neg c3] at H
        have c3b0 : decide (x10_1 < (l0.length : Int)) = false := decide_eq_false c3
        clear c3
        obtain rfl := Option.some.inj H
        go_wp2
        go_ret
        exact ⟨by first | rfl | (simp; done) | (simp [*]; done), by repeat (first | exact Drawn0.refl _ | apply Drawn0.step)⟩

/-! ### spec_KyGvkOf: function 21 -/
def spec_KyGvkOf.f (k : Nat) (a0 : ByteArray) : Option (ByteArray × ByteArray × ByteArray × ByteArray × ByteArray) := (spec_kySplit.f k a0 (⟨#[46]⟩ : ByteArray)).bind fun t202 => (if (t202.length : Int) < 3 then (some ((⟨#[91, 110, 111, 71, 114, 112, 93]⟩ : ByteArray), (⟨#[91, 110, 111, 86, 101, 114, 93]⟩ : ByteArray), (⟨#[91, 110, 111, 75, 105, 110, 100, 93]⟩ : ByteArray), (⟨#[]⟩ : ByteArray), (⟨#[]⟩ : ByteArray))) else (if 0 < (t202.length : Int) then ((spec_kyUnless.f (rdOf ByteArray.empty t202 0) (⟨#[91, 110, 111, 75, 105, 110, 100, 93]⟩ : ByteArray)).bind fun t206 => (if 1 < (t202.length : Int) then ((spec_kyUnless.f (rdOf ByteArray.empty t202 1) (⟨#[91, 110, 111, 86, 101, 114, 93]⟩ : ByteArray)).bind fun t208 => (if 2 ≤ (t202.length : Int) then ((spec_kyJoin.f k (t202.drop 2) (⟨#[46]⟩ : ByteArray)).bind fun t213 => ((spec_kyUnless.f t213 (⟨#[91, 110, 111, 71, 114, 112, 93]⟩ : ByteArray)).bind fun t214 => (some (t214, t208, t206, (⟨#[]⟩ : ByteArray), (⟨#[]⟩ : ByteArray))))) else (none))) else (none))) else (none)))
theorem spec_KyGvkOf.mono : ∀ a0 k, LeO (spec_KyGvkOf.f k a0) (spec_KyGvkOf.f (k + 1) a0) := by
  intro a0 k
  unfold spec_KyGvkOf.f
  repeat' first
      | (with_reducible exact spec_kyJoin.mono _ _ _)
      | (with_reducible exact spec_kySplit.mono _ _ _)
      | (with_reducible exact LeO.refl _)
      | (with_reducible exact LeO.none _)
      | (with_reducible refine LeO.ite ?_ ?_)
      | (with_reducible refine LeO.bind ?_ (fun _ => ?_))
      | exact spec_kyJoin.mono _ _ _
      | exact spec_kySplit.mono _ _ _
      | exact LeO.none _
      | refine LeO.ite ?_ ?_
      | refine LeO.bind ?_ (fun _ => ?_)
def spec_KyGvkOf.T4 : Bool × List (List Nat × List Nat) := (true, [([], []), ([0], [0]), ([1], [1]), ([2], [2]), ([], []), ([4], [4]), ([5], [5]), ([6, 3], [6]), ([], []), ([8], [8]), ([9, 7], [9]), ([10, 10], [10]), ([3, 7, 11], [3, 7, 11]), ([12, 11, 0, 1, 2, 3, 4, 5, 6, 7, 8, 9, 10, 11, 12], [12])])
def spec_KyGvkOf.B4 : List Nat := [0, 1, 3, 7, 0, 16, 48, 127, 0, 256, 1023, 2047, 4095, 8191]
theorem spec_KyGvkOf.tab4 : rtab .any (opsOf Try.f21 4) = spec_KyGvkOf.T4 := by kernel_rfl
theorem spec_KyGvkOf.bits4 : waitsOk spec_KyGvkOf.T4.2 spec_KyGvkOf.B4 = true := by kernel_rfl
set_option maxHeartbeats 8000000 in
set_option maxRecDepth 100000 in
theorem spec_KyGvkOf.calls (k : Nat) (a0 : ByteArray) (r1 : ByteArray) (r2 : ByteArray) (r3 : ByteArray) (r4 : ByteArray) (r5 : ByteArray) (w : World) (h : spec_KyGvkOf.f k a0 = some (r1, r2, r3, r4, r5)) :
    Calls Try.prog 21 #[.string a0] w fun e w' => e = .returned (.agg #[.string r1, .string r2, .string r3, .string r4, .string r5]) ∧ Below w.heap.size w w' := by
  have hu39 := Try.underlying39
  have HB := Aside0.mk (Below.refl w.heap.size w)
  have H : ((spec_kySplit.f k a0 (⟨#[46]⟩ : ByteArray)).bind fun t202 => (if (t202.length : Int) < 3 then (some ((⟨#[91, 110, 111, 71, 114, 112, 93]⟩ : ByteArray), (⟨#[91, 110, 111, 86, 101, 114, 93]⟩ : ByteArray), (⟨#[91, 110, 111, 75, 105, 110, 100, 93]⟩ : ByteArray), (⟨#[]⟩ : ByteArray), (⟨#[]⟩ : ByteArray))) else (if 0 < (t202.length : Int) then ((spec_kyUnless.f (rdOf ByteArray.empty t202 0) (⟨#[91, 110, 111, 75, 105, 110, 100, 93]⟩ : ByteArray)).bind fun t206 => (if 1 < (t202.length : Int) then ((spec_kyUnless.f (rdOf ByteArray.empty t202 1) (⟨#[91, 110, 111, 86, 101, 114, 93]⟩ : ByteArray)).bind fun t208 => (if 2 ≤ (t202.length : Int) then ((spec_kyJoin.f k (t202.drop 2) (⟨#[46]⟩ : ByteArray)).bind fun t213 => ((spec_kyUnless.f t213 (⟨#[91, 110, 111, 71, 114, 112, 93]⟩ : ByteArray)).bind fun t214 => (some (t214, t208, t206, (⟨#[]⟩ : ByteArray), (⟨#[]⟩ : ByteArray))))) else (none))) else (none))) else (none)))) = some (r1, r2, r3, r4, r5) := h
  clear h
  replace H := Option.bind_eq_some_iff.mp H
  obtain ⟨t202, A20, H⟩ := H
  replace H : (if (t202.length : Int) < 3 then (some ((⟨#[91, 110, 111, 71, 114, 112, 93]⟩ : ByteArray), (⟨#[91, 110, 111, 86, 101, 114, 93]⟩ : ByteArray), (⟨#[91, 110, 111, 75, 105, 110, 100, 93]⟩ : ByteArray), (⟨#[]⟩ : ByteArray), (⟨#[]⟩ : ByteArray))) else (if 0 < (t202.length : Int) then ((spec_kyUnless.f (rdOf ByteArray.empty t202 0) (⟨#[91, 110, 111, 75, 105, 110, 100, 93]⟩ : ByteArray)).bind fun t206 => (if 1 < (t202.length : Int) then ((spec_kyUnless.f (rdOf ByteArray.empty t202 1) (⟨#[91, 110, 111, 86, 101, 114, 93]⟩ : ByteArray)).bind fun t208 => (if 2 ≤ (t202.length : Int) then ((spec_kyJoin.f k (t202.drop 2) (⟨#[46]⟩ : ByteArray)).bind fun t213 => ((spec_kyUnless.f t213 (⟨#[91, 110, 111, 71, 114, 112, 93]⟩ : ByteArray)).bind fun t214 => (some (t214, t208, t206, (⟨#[]⟩ : ByteArray), (⟨#[]⟩ : ByteArray))))) else (none))) else (none))) else (none))) = some (r1, r2, r3, r4, r5) := H
  have A2 := Aside0.mk A20
  clear A20
  by_cases c3 : (t202.length : Int) < 3
  · rw [if_pos c3] at H
    have c3b0 : decide ((t202.length : Int) < 3) = true := decide_eq_true c3
    have c3b1 : decide (t202.length < 3) = true := decide_eq_true (by omega)
    clear c3
    simp only [Option.some.injEq, Prod.mk.injEq] at H
    obtain ⟨rfl, rfl, rfl, rfl, rfl⟩ := H
    go_enter Try.func21, Try.ntmps21
    go_wp2_with (first | ((with_reducible refine gate_dst (N := 2) rfl ?_); refine box_event ?hg (N := 2) ?hd (cs := #[.string (⟨#[]⟩ : ByteArray), .string (⟨#[]⟩ : ByteArray), .string (⟨#[]⟩ : ByteArray), .string (⟨#[]⟩ : ByteArray), .string (⟨#[]⟩ : ByteArray)]) (t := 39) ?hr ?_; (case hd => rfl); (case hg => rfl); (case hr => first | (go_simp; done) | (go_simp; rfl)); intro gb201 hg w4 hbox hb; have n0_ := Aside0.mk (below_step (by repeat (first | (with_reducible first | exact HB.out | apply below_alloc | apply pw_below_drewN | apply below_drew1) | exact HB.out)) hb); have n1_ := Aside0.mk (hbox); have n2_ := Aside0.mk ((by rw [hg]; exact (below_size (by repeat (first | (with_reducible first | exact HB.out | apply below_alloc | apply pw_below_drewN | apply below_drew1) | exact HB.out))) : w.heap.size ≤ gb201)); have n3_ := Aside0.mk ((by rw [hg]; exact (below_size (by repeat (first | (with_reducible first | exact HB.out | apply below_alloc | apply pw_below_drewN | apply below_drew1) | exact HB.out))) : w.heap.size ≤ gb201)); clear HB; have HB := n0_; have BK201 := n1_; have GW201 := n2_; have GE201 := n3_; clear n0_ n1_ n2_ n3_; clear hb hbox hg) | ((with_reducible refine gate_callee (f := 33) rfl ?_); refine goesL_ (some 5) rfl rfl Try.func33 (by kernel_rfl) rfl #[.string a0, .string (⟨#[46]⟩ : ByteArray)] rfl (by (try simp only [List.map_toArray, List.map_cons, List.map_nil]); first | done | rfl | (simp only [List.length_drop, List.length_take]; rfl)) ?_; (with_reducible refine (spec_kySplit.calls k a0 (⟨#[46]⟩ : ByteArray) t202 _ A2.out).mono ?_); rintro e w5 ⟨v203, rfl, ho0, hb⟩; refine ⟨_, rfl, ?_⟩; have n0_ := Aside0.mk (Kd.R_lower ho0 (below_size (by repeat (first | (with_reducible first | exact HB.out | apply below_alloc | apply pw_below_drewN | apply below_drew1 | refine below_set ?_ GE201.out) | exact HB.out)))); have n1_ := Aside0.mk (blk_below (g := gb201) (o := .cells #[.string (⟨#[]⟩ : ByteArray), .string (⟨#[]⟩ : ByteArray), .string (⟨#[]⟩ : ByteArray), .string (⟨#[]⟩ : ByteArray), .string (⟨#[]⟩ : ByteArray)] 39 (0, 0)) (by (with_reducible repeat (first | refine blk_drewN ?_ _ | refine blk_drew ?_ | refine blk_alloc ?_ _)); exact BK201.out) hb); have n2_ := Aside0.mk (below_step (by repeat (first | (with_reducible first | exact HB.out | apply below_alloc | apply pw_below_drewN | apply below_drew1 | refine below_set ?_ GE201.out) | exact HB.out)) hb); clear BK201; clear HB; have HO204 := n0_; have BK201 := n1_; have HB := n2_; clear n0_ n1_ n2_; (try clear hb); (try clear hb2); (try clear hk); (try clear hi); (try clear ho0); obtain ⟨Ao6, co6, eo6⟩ := Kd.R_slice HO204.out; subst eo6; have hcz7_0 : w5.cell? ⟨gb201, 0, none⟩ = some (.string (⟨#[]⟩ : ByteArray)) := (blk_cell BK201.out 0).trans rfl; have hcz7_1 : w5.cell? ⟨gb201, 1, none⟩ = some (.string (⟨#[]⟩ : ByteArray)) := (blk_cell BK201.out 1).trans rfl; have hcz7_2 : w5.cell? ⟨gb201, 2, none⟩ = some (.string (⟨#[]⟩ : ByteArray)) := (blk_cell BK201.out 2).trans rfl; have hcz7_3 : w5.cell? ⟨gb201, 3, none⟩ = some (.string (⟨#[]⟩ : ByteArray)) := (blk_cell BK201.out 3).trans rfl; have hcz7_4 : w5.cell? ⟨gb201, 4, none⟩ = some (.string (⟨#[]⟩ : ByteArray)) := (blk_cell BK201.out 4).trans rfl; have hfz7_0 := blk_frozen BK201.out 0; have hfz7_1 := blk_frozen BK201.out 1; have hfz7_2 := blk_frozen BK201.out 2; have hfz7_3 := blk_frozen BK201.out 3; have hfz7_4 := blk_frozen BK201.out 4))
    refine bodyPost_ret (results_cell_row rfl _ _ gb201 39 #[.string (⟨#[91, 110, 111, 71, 114, 112, 93]⟩ : ByteArray), .string (⟨#[91, 110, 111, 86, 101, 114, 93]⟩ : ByteArray), .string (⟨#[91, 110, 111, 75, 105, 110, 100, 93]⟩ : ByteArray), .string (⟨#[]⟩ : ByteArray), .string (⟨#[]⟩ : ByteArray)] (0, 0) _ rfl (by (with_reducible repeat (first | refine blk_drewN ?_ _ | refine blk_drew ?_ | refine blk_alloc ?_ _)); refine blk_put (cs := #[.string (⟨#[91, 110, 111, 71, 114, 112, 93]⟩ : ByteArray), .string (⟨#[91, 110, 111, 86, 101, 114, 93]⟩ : ByteArray), .string (⟨#[91, 110, 111, 75, 105, 110, 100, 93]⟩ : ByteArray), .string (⟨#[]⟩ : ByteArray), .string (⟨#[]⟩ : ByteArray)]) ?_ 4 _ rfl; (with_reducible repeat (first | refine blk_drewN ?_ _ | refine blk_drew ?_ | refine blk_alloc ?_ _)); refine blk_put (cs := #[.string (⟨#[91, 110, 111, 71, 114, 112, 93]⟩ : ByteArray), .string (⟨#[91, 110, 111, 86, 101, 114, 93]⟩ : ByteArray), .string (⟨#[91, 110, 111, 75, 105, 110, 100, 93]⟩ : ByteArray), .string (⟨#[]⟩ : ByteArray), .string (⟨#[]⟩ : ByteArray)]) ?_ 3 _ rfl; (with_reducible repeat (first | refine blk_drewN ?_ _ | refine blk_drew ?_ | refine blk_alloc ?_ _)); refine blk_put (cs := #[.string (⟨#[91, 110, 111, 71, 114, 112, 93]⟩ : ByteArray), .string (⟨#[91, 110, 111, 86, 101, 114, 93]⟩ : ByteArray), .string (⟨#[]⟩ : ByteArray), .string (⟨#[]⟩ : ByteArray), .string (⟨#[]⟩ : ByteArray)]) ?_ 2 _ rfl; (with_reducible repeat (first | refine blk_drewN ?_ _ | refine blk_drew ?_ | refine blk_alloc ?_ _)); refine blk_put (cs := #[.string (⟨#[91, 110, 111, 71, 114, 112, 93]⟩ : ByteArray), .string (⟨#[]⟩ : ByteArray), .string (⟨#[]⟩ : ByteArray), .string (⟨#[]⟩ : ByteArray), .string (⟨#[]⟩ : ByteArray)]) ?_ 1 _ rfl; (with_reducible repeat (first | refine blk_drewN ?_ _ | refine blk_drew ?_ | refine blk_alloc ?_ _)); refine blk_put (cs := #[.string (⟨#[]⟩ : ByteArray), .string (⟨#[]⟩ : ByteArray), .string (⟨#[]⟩ : ByteArray), .string (⟨#[]⟩ : ByteArray), .string (⟨#[]⟩ : ByteArray)]) ?_ 0 _ rfl; (with_reducible repeat (first | refine blk_drewN ?_ _ | refine blk_drew ?_ | refine blk_alloc ?_ _)); exact BK201.out) Try.underlying39 rfl (by kernel_rfl)) rfl ?_
    exact ⟨by first | rfl | (simp [errW_none, errW_some] <;> rfl) | (simp [*, errW_none, errW_some] <;> rfl), by repeat (first | (with_reducible first | exact HB.out | apply below_alloc | apply pw_below_drewN | apply below_drew1 | refine below_set ?_ GE201.out) | exact HB.out)⟩
  · rw [if_neg c3] at H
    have c3b0 : decide ((t202.length : Int) < 3) = false := decide_eq_false c3
    have c3b1 : decide (t202.length < 3) = false := decide_eq_false (by omega)
    clear c3
    by_cases c8 : 0 < (t202.length : Int)
    · rw [if_pos c8] at H
      have c8b0 : decide (0 < (t202.length : Int)) = true := decide_eq_true c8
      have c8b1 : decide (0 < t202.length) = true := decide_eq_true (by omega)
      clear c8
      replace H := Option.bind_eq_some_iff.mp H
      obtain ⟨t206, A90, H⟩ := H
      replace H : (if 1 < (t202.length : Int) then ((spec_kyUnless.f (rdOf ByteArray.empty t202 1) (⟨#[91, 110, 111, 86, 101, 114, 93]⟩ : ByteArray)).bind fun t208 => (if 2 ≤ (t202.length : Int) then ((spec_kyJoin.f k (t202.drop 2) (⟨#[46]⟩ : ByteArray)).bind fun t213 => ((spec_kyUnless.f t213 (⟨#[91, 110, 111, 71, 114, 112, 93]⟩ : ByteArray)).bind fun t214 => (some (t214, t208, t206, (⟨#[]⟩ : ByteArray), (⟨#[]⟩ : ByteArray))))) else (none))) else (none)) = some (r1, r2, r3, r4, r5) := H
      have A9 := Aside0.mk A90
      clear A90
      by_cases c10 : 1 < (t202.length : Int)
      · rw [if_pos c10] at H
        have c10b0 : decide (1 < (t202.length : Int)) = true := decide_eq_true c10
        have c10b1 : decide (1 < t202.length) = true := decide_eq_true (by omega)
        clear c10
        replace H := Option.bind_eq_some_iff.mp H
        obtain ⟨t208, A110, H⟩ := H
        replace H : (if 2 ≤ (t202.length : Int) then ((spec_kyJoin.f k (t202.drop 2) (⟨#[46]⟩ : ByteArray)).bind fun t213 => ((spec_kyUnless.f t213 (⟨#[91, 110, 111, 71, 114, 112, 93]⟩ : ByteArray)).bind fun t214 => (some (t214, t208, t206, (⟨#[]⟩ : ByteArray), (⟨#[]⟩ : ByteArray))))) else (none)) = some (r1, r2, r3, r4, r5) := H
        have A11 := Aside0.mk A110
        clear A110
        by_cases c12 : 2 ≤ (t202.length : Int)
        · rw [if_pos c12] at H
          have c12b0 := eq_true c12
          have c12b1 : decide (2 ≤ (t202.length : Int)) = true := decide_eq_true c12
          clear c12
          obtain ⟨y209, hy209⟩ : ∃ y_ : List ByteArray, y_ = (t202.drop 2) := ⟨_, rfl⟩
          replace H : ((spec_kyJoin.f k y209 (⟨#[46]⟩ : ByteArray)).bind fun t213 => ((spec_kyUnless.f t213 (⟨#[91, 110, 111, 71, 114, 112, 93]⟩ : ByteArray)).bind fun t214 => (some (t214, t208, t206, (⟨#[]⟩ : ByteArray), (⟨#[]⟩ : ByteArray))))) = some (r1, r2, r3, r4, r5) := by first | (rw [hy209]; with_reducible exact H) | (have H2_ := (Option.bind_some _ _).symm.trans H; rw [hy209]; with_reducible exact H2_) | (have H2_ := (Option.bind_some _ _).symm.trans H; with_reducible exact H2_) | with_reducible exact H | (rw [hy209]; exact H) | exact H
          have Ny209 := Aside0.mk hy209
          clear hy209
          replace H := Option.bind_eq_some_iff.mp H
          obtain ⟨t213, A130, H⟩ := H
          replace H : ((spec_kyUnless.f t213 (⟨#[91, 110, 111, 71, 114, 112, 93]⟩ : ByteArray)).bind fun t214 => (some (t214, t208, t206, (⟨#[]⟩ : ByteArray), (⟨#[]⟩ : ByteArray)))) = some (r1, r2, r3, r4, r5) := H
          have A13 := Aside0.mk A130
          clear A130
          replace H := Option.bind_eq_some_iff.mp H
          obtain ⟨t214, A140, H⟩ := H
          replace H : (some (t214, t208, t206, (⟨#[]⟩ : ByteArray), (⟨#[]⟩ : ByteArray))) = some (r1, r2, r3, r4, r5) := H
          have A14 := Aside0.mk A140
          clear A140
          simp only [Option.some.injEq, Prod.mk.injEq] at H
          obtain ⟨rfl, rfl, rfl, rfl, rfl⟩ := H
          go_enter Try.func21, Try.ntmps21
          try go_wp2_with (first | ((with_reducible refine gate_dst (N := 2) rfl ?_); refine box_event ?hg (N := 2) ?hd (cs := #[.string (⟨#[]⟩ : ByteArray), .string (⟨#[]⟩ : ByteArray), .string (⟨#[]⟩ : ByteArray), .string (⟨#[]⟩ : ByteArray), .string (⟨#[]⟩ : ByteArray)]) (t := 39) ?hr ?_; (case hd => rfl); (case hg => rfl); (case hr => first | (go_simp; done) | (go_simp; rfl)); intro gb201 hg w15 hbox hb; have n0_ := Aside0.mk (below_step (by repeat (first | (with_reducible first | exact HB.out | apply below_alloc | apply pw_below_drewN | apply below_drew1) | exact HB.out)) hb); have n1_ := Aside0.mk (hbox); have n2_ := Aside0.mk ((by rw [hg]; exact (below_size (by repeat (first | (with_reducible first | exact HB.out | apply below_alloc | apply pw_below_drewN | apply below_drew1) | exact HB.out))) : w.heap.size ≤ gb201)); have n3_ := Aside0.mk ((by rw [hg]; exact (below_size (by repeat (first | (with_reducible first | exact HB.out | apply below_alloc | apply pw_below_drewN | apply below_drew1) | exact HB.out))) : w.heap.size ≤ gb201)); clear HB; have HB := n0_; have BK201 := n1_; have GW201 := n2_; have GE201 := n3_; clear n0_ n1_ n2_ n3_; clear hb hbox hg) | ((with_reducible refine gate_callee (f := 33) rfl ?_); refine goesL_ (some 5) rfl rfl Try.func33 (by kernel_rfl) rfl #[.string a0, .string (⟨#[46]⟩ : ByteArray)] rfl (by (try simp only [List.map_toArray, List.map_cons, List.map_nil]); first | done | rfl | (simp only [List.length_drop, List.length_take]; rfl)) ?_; (with_reducible refine (spec_kySplit.calls k a0 (⟨#[46]⟩ : ByteArray) t202 _ A2.out).mono ?_); rintro e w16 ⟨v203, rfl, ho0, hb⟩; refine ⟨_, rfl, ?_⟩; have n0_ := Aside0.mk (Kd.R_lower ho0 (below_size (by repeat (first | (with_reducible first | exact HB.out | apply below_alloc | apply pw_below_drewN | apply below_drew1 | refine below_set ?_ GE201.out) | exact HB.out)))); have n1_ := Aside0.mk (blk_below (g := gb201) (o := .cells #[.string (⟨#[]⟩ : ByteArray), .string (⟨#[]⟩ : ByteArray), .string (⟨#[]⟩ : ByteArray), .string (⟨#[]⟩ : ByteArray), .string (⟨#[]⟩ : ByteArray)] 39 (0, 0)) (by (with_reducible repeat (first | refine blk_drewN ?_ _ | refine blk_drew ?_ | refine blk_alloc ?_ _)); exact BK201.out) hb); have n2_ := Aside0.mk (below_step (by repeat (first | (with_reducible first | exact HB.out | apply below_alloc | apply pw_below_drewN | apply below_drew1 | refine below_set ?_ GE201.out) | exact HB.out)) hb); clear BK201; clear HB; have HO204 := n0_; have BK201 := n1_; have HB := n2_; clear n0_ n1_ n2_; (try clear hb); (try clear hb2); (try clear hk); (try clear hi); (try clear ho0); obtain ⟨Ao17, co17, eo17⟩ := Kd.R_slice HO204.out; subst eo17))
          have n0_ := Aside0.mk (Kd.R_drew HO204.out)
          have n1_ := Aside0.mk (blk_drew BK201.out)
          have n2_ := Aside0.mk (below_drew1 HB.out)
          clear HO204
          clear BK201
          clear HB
          have HO204 := n0_
          have BK201 := n1_
          have HB := n2_
          clear n0_ n1_ n2_
          have p205 : 0 ≤ (0 : Int) := (by omega)
          have q205 : 0 < (t202.length : Int) := of_decide_eq_true (by first | (with_reducible assumption) | assumption)
          obtain ⟨ad205, e205, hx205_0⟩ := Kd.at_string (Kd.R_reads' HO204.out).2.2 0 p205 q205
          cases e205
          have qi205 : (0 < t202.length) = True := eq_true (by omega)
          (try rw [show ((0 : Int)).toNat = 0 from rfl] at hx205_0)
          (try rw [Addr.add_zero'] at hx205_0)
          replace p205 := eq_true p205
          replace q205 := eq_true q205
          have p207 : 0 ≤ (1 : Int) := (by omega)
          have q207 : 1 < (t202.length : Int) := of_decide_eq_true (by first | (with_reducible assumption) | assumption)
          obtain ⟨ad207, e207, hx207_0⟩ := Kd.at_string (Kd.R_reads' HO204.out).2.2 1 p207 q207
          obtain rfl : ad205 = ad207 := (by injection e207)
          (try simp only [show (1 : Int).toNat = 1 from rfl, Nat.reduceMul, Nat.reduceEqDiff, Go.Addr.add, ↓reduceIte] at hx207_0)
          have qi207 : (1 < t202.length) = True := eq_true (by omega)
          (try rw [show ((1 : Int)).toNat = 1 from rfl] at hx207_0)
          replace p207 := eq_true p207
          replace q207 := eq_true q207
          have q19 : (2 : Int) ≤ ((t202.length : Int) : Int) := of_decide_eq_true (by first | (with_reducible assumption) | assumption)
          obtain ⟨i019, hi019, _, hsz19, _⟩ := info_parts info9
          have hroom19 : t202.length ≤ co17 := (Kd.R_reads' HO204.out).2.1
          have hC19 : Kd.C Kd.string _ (some ad205) t202.length t202 := (Kd.R_reads' HO204.out).2.2
          have hcut19 := cut_from (P := Try.prog) 27 9 .i64 Try.underlying27 hi019 1 hsz19 (some ad205) t202.length co17 2 (by omega) q19
          have hr19 := Kd.C_drop (m := (2 : Int).toNat) (c := co17) hC19 (by omega) hroom19
          obtain ⟨A19, hA19⟩ : ∃ A1, A1 = (if co17 = (2 : Int).toNat then (some ad205) else ((some ad205) : Option Addr).map (·.add ((2 : Int).toNat * 1))) := ⟨_, rfl⟩
          obtain ⟨c19, hc19⟩ : ∃ c1, c1 = co17 - (2 : Int).toNat := ⟨_, rfl⟩
          have hy19 : y209.length = t202.length - (2 : Int).toNat := (by rw [Ny209.out, List.length_drop] <;> omega)
          rw [show (t202).drop (2 : Int).toNat = y209 from Ny209.out.symm] at hr19
          replace hr19 : Kd.C Kd.string _ A19 y209.length y209 := (by rw [hA19]; exact hr19)
          rw [← hy19, ← hA19, ← hc19] at hcut19
          have HR212 := Aside0.mk hr19
          have HC212 := Aside0.mk (show y209.length ≤ c19 from by rw [hy19, hc19]; exact Nat.sub_le_sub_right hroom19 _)
          clear hr19 hC19 hroom19 hi019 hsz19 hc19
          have KY19 := Aside0.mk hy19
          have KA19 := Aside0.mk hA19
          clear hy19 hA19
          have KL19 := Aside0.mk (show 2 ≤ t202.length from by omega)
          replace q19 := eq_true q19
          refine start_ (n := 14) (S := fun w' => w'.cell? ad205 = some (.string (rdOf ByteArray.empty t202 0)) ∧ w'.cell? ⟨ad205.block, ad205.off + 1, none⟩ = some (.string (rdOf ByteArray.empty t202 1))) (ds := []) #[false, false, false, false, false, false, false, false, false, false, false, false, false, false] (by kernel_rfl) rfl rfl ⟨hx205_0, hx207_0⟩ (fun hHeld => ?_); refine with_tabW spec_KyGvkOf.tab4 spec_KyGvkOf.bits4 (fun HT_ HW_ => ?_)
          generalize w16.drew = w18 at HO204 BK201 HB HR212 hx205_0 hx207_0 hHeld ⊢
          refine pure_ (i := 0) (N := some 10) (v := ?_) (a' := ?_) #[true, false, false, false, false, false, false, false, false, false, false, false, false, false] rfl rfl (any_of HT_.out (by kernel_rfl)) (fun _ _ _ h => h) (Or.inl ⟨by rfl, ?_⟩) ?_ ?_
          rotate_left
          · intro w'
            go_simp
            with_reducible rfl
          rotate_left
          · simp only [Act.put, List.setIfInBounds_toArray, List.set_cons_zero, List.set_cons_succ, i64_w, i32_w]
            rfl
          refine pure_ (i := 1) (N := some 11) (v := ?_) (a' := ?_) #[true, true, false, false, false, false, false, false, false, false, false, false, false, false] rfl rfl (any_of HT_.out (by kernel_rfl)) (fun _ _ _ h => h) (Or.inl ⟨by rfl, ?_⟩) ?_ ?_
          rotate_left
          · intro w'
            go_simp
            with_reducible rfl
          rotate_left
          · simp only [Act.put, List.setIfInBounds_toArray, List.set_cons_zero, List.set_cons_succ, i64_w, i32_w]
            rfl
          refine pure_ (i := 4) (N := some 14) (v := ?_) (a' := ?_) #[true, true, false, false, true, false, false, false, false, false, false, false, false, false] rfl rfl (any_of HT_.out (by kernel_rfl)) (fun _ _ _ h => h) (Or.inl ⟨by rfl, ?_⟩) ?_ ?_
          rotate_left
          · intro w'
            go_simp
            with_reducible rfl
          rotate_left
          · simp only [Act.put, List.setIfInBounds_toArray, List.set_cons_zero, List.set_cons_succ, i64_w, i32_w]
            rfl
          refine pure_ (i := 5) (N := some 15) (v := ?_) (a' := ?_) #[true, true, false, false, true, true, false, false, false, false, false, false, false, false] rfl rfl (any_of HT_.out (by kernel_rfl)) (fun _ _ _ h => h) (Or.inl ⟨by rfl, ?_⟩) ?_ ?_
          rotate_left
          · intro w'
            go_simp
            with_reducible rfl
          rotate_left
          · simp only [Act.put, List.setIfInBounds_toArray, List.set_cons_zero, List.set_cons_succ, i64_w, i32_w]
            rfl
          refine pure_ (i := 8) (N := some 18) (v := ?_) (a' := ?_) #[true, true, false, false, true, true, false, false, true, false, false, false, false, false] rfl rfl (any_of HT_.out (by kernel_rfl)) (fun _ _ _ h => h) (Or.inl ⟨by rfl, ?_⟩) ?_ ?_
          rotate_left
          · intro w'
            go_simp
            with_reducible rfl
          rotate_left
          · simp only [Act.put, List.setIfInBounds_toArray, List.set_cons_zero, List.set_cons_succ, i64_w, i32_w]
            rfl
          refine pure_ (i := 9) (N := some 19) (v := ?_) (a' := ?_) #[true, true, false, false, true, true, false, false, true, true, false, false, false, false] rfl rfl (any_of HT_.out (by kernel_rfl)) (fun _ _ _ h => h) (Or.inl ⟨by rfl, ?_⟩) ?_ ?_
          rotate_left
          · intro w'
            go_simp
            with_reducible rfl
          rotate_left
          · simp only [Act.put, List.setIfInBounds_toArray, List.set_cons_zero, List.set_cons_succ, i64_w, i32_w]
            rfl
          refine take_ (i := 2) (N := some 12) (v := ?_) (a' := ?_) #[true, true, true, false, true, true, false, false, true, true, false, false, false, false] rfl rfl (take_ofW HT_.out HW_.out (by kernel_rfl)) (fun _ _ _ h => h) (Or.inl ⟨by rfl, ?_⟩) hHeld ?_ ?_
          rotate_left
          · rintro w' ⟨s0, s1⟩
            go_simp
            with_reducible rfl
          rotate_left
          · simp only [Act.put, List.setIfInBounds_toArray, List.set_cons_zero, List.set_cons_succ, i64_w, i32_w]
            rfl
          refine take_ (i := 6) (N := some 16) (v := ?_) (a' := ?_) #[true, true, true, false, true, true, true, false, true, true, false, false, false, false] rfl rfl (take_ofW HT_.out HW_.out (by kernel_rfl)) (fun _ _ _ h => h) (Or.inl ⟨by rfl, ?_⟩) hHeld ?_ ?_
          rotate_left
          · rintro w' ⟨s0, s1⟩
            go_simp
            with_reducible rfl
          rotate_left
          · simp only [Act.put, List.setIfInBounds_toArray, List.set_cons_zero, List.set_cons_succ, i64_w, i32_w]
            rfl
          refine one_ (i := 3) (N := some 13) #[true, true, true, true, true, true, true, false, true, true, false, false, false, false] rfl rfl (one_of HT_.out (by kernel_rfl)) (by decide) (fun K hK => ?_)
          refine goes_ Try.func34 (by kernel_rfl) rfl #[.string (rdOf ByteArray.empty t202 0), .string (⟨#[91, 110, 111, 75, 105, 110, 100, 93]⟩ : ByteArray)] (by rfl) rfl rfl (by (try simp only [List.map_toArray, List.map_cons, List.map_nil]); first | done | rfl | (simp only [List.length_drop, List.length_take]; rfl)) ?_
          with_reducible refine (spec_kyUnless.calls (rdOf ByteArray.empty t202 0) (⟨#[91, 110, 111, 75, 105, 110, 100, 93]⟩ : ByteArray) t206 _ A9.out).mono ?_
          rintro e w' ⟨rfl, ⟨nd, rfl⟩⟩
          refine ⟨_, rfl, ?_⟩
          refine hK.out _ _ ⟨hHeld.1, hHeld.2⟩ (fun hHeld => ?_)
          clear hK K
          refine norm_ (a' := ?_) ?_ ?_
          rotate_left
          · show Act.put _ (some 13) _ = _
            simp only [Act.put, List.setIfInBounds_toArray, List.set_cons_zero, List.set_cons_succ, i64_w, i32_w]
            rfl
          refine one_ (i := 7) (N := some 17) #[true, true, true, true, true, true, true, true, true, true, false, false, false, false] rfl rfl (one_of HT_.out (by kernel_rfl)) (by decide) (fun K hK => ?_)
          refine goes_ Try.func34 (by kernel_rfl) rfl #[.string (rdOf ByteArray.empty t202 1), .string (⟨#[91, 110, 111, 86, 101, 114, 93]⟩ : ByteArray)] (by rfl) rfl rfl (by (try simp only [List.map_toArray, List.map_cons, List.map_nil]); first | done | rfl | (simp only [List.length_drop, List.length_take]; rfl)) ?_
          with_reducible refine (spec_kyUnless.calls (rdOf ByteArray.empty t202 1) (⟨#[91, 110, 111, 86, 101, 114, 93]⟩ : ByteArray) t208 _ A11.out).mono ?_
          rintro e w' ⟨rfl, ⟨nd, rfl⟩⟩
          refine ⟨_, rfl, ?_⟩
          refine hK.out _ _ ⟨hHeld.1, hHeld.2⟩ (fun hHeld => ?_)
          clear hK K
          refine norm_ (a' := ?_) ?_ ?_
          rotate_left
          · show Act.put _ (some 17) _ = _
            simp only [Act.put, List.setIfInBounds_toArray, List.set_cons_zero, List.set_cons_succ, i64_w, i32_w]
            rfl
          refine one_ (i := 10) (N := some 20) #[true, true, true, true, true, true, true, true, true, true, true, false, false, false] rfl rfl (one_of HT_.out (by kernel_rfl)) (by decide) (fun K hK => ?_)
          refine goes_ Try.func35 (by kernel_rfl) rfl #[.slice A19 y209.length c19, .string (⟨#[46]⟩ : ByteArray)] (by rfl) rfl rfl (by (try simp only [List.map_toArray, List.map_cons, List.map_nil]); first | done | rfl | (simp only [List.length_drop, List.length_take]; rfl)) ?_
          with_reducible refine (spec_kyJoin.calls k _ _ y209 (⟨#[46]⟩ : ByteArray) t213 _ ?side1 ?side2 A13.out).mono ?_
          (case side1 => repeat (first | exact (by repeat (first | (with_reducible exact HR212.out) | (with_reducible refine Kd.C_alloc ?_ _) | (with_reducible refine Kd.C_drewN ?_ _) | (with_reducible refine Kd.C_drew ?_) | exact HR212.out)) | (with_reducible refine Kd.C_alloc ?_ _) | (with_reducible refine Kd.C_drewN ?_ _) | (with_reducible refine Kd.C_drew ?_)))
          (case side2 => exact HC212.out)
          rintro e w' ⟨rfl, ⟨nd, rfl⟩⟩
          refine ⟨_, rfl, ?_⟩
          refine hK.out _ _ ⟨hHeld.1, hHeld.2⟩ (fun hHeld => ?_)
          clear hK K
          refine norm_ (a' := ?_) ?_ ?_
          rotate_left
          · show Act.put _ (some 20) _ = _
            simp only [Act.put, List.setIfInBounds_toArray, List.set_cons_zero, List.set_cons_succ, i64_w, i32_w]
            rfl
          refine one_ (i := 11) (N := some 21) #[true, true, true, true, true, true, true, true, true, true, true, true, false, false] rfl rfl (one_of HT_.out (by kernel_rfl)) (by decide) (fun K hK => ?_)
          refine goes_ Try.func34 (by kernel_rfl) rfl #[.string t213, .string (⟨#[91, 110, 111, 71, 114, 112, 93]⟩ : ByteArray)] (by rfl) rfl rfl (by (try simp only [List.map_toArray, List.map_cons, List.map_nil]); first | done | rfl | (simp only [List.length_drop, List.length_take]; rfl)) ?_
          with_reducible refine (spec_kyUnless.calls t213 (⟨#[91, 110, 111, 71, 114, 112, 93]⟩ : ByteArray) t214 _ A14.out).mono ?_
          rintro e w' ⟨rfl, ⟨nd, rfl⟩⟩
          refine ⟨_, rfl, ?_⟩
          refine hK.out _ _ ⟨hHeld.1, hHeld.2⟩ (fun hHeld => ?_)
          clear hK K
          refine norm_ (a' := ?_) ?_ ?_
          rotate_left
          · show Act.put _ (some 21) _ = _
            simp only [Act.put, List.setIfInBounds_toArray, List.set_cons_zero, List.set_cons_succ, i64_w, i32_w]
            rfl
          refine pure_ (i := 12) (N := some 22) (v := ?_) (a' := ?_) #[true, true, true, true, true, true, true, true, true, true, true, true, true, false] rfl rfl (any_of HT_.out (by kernel_rfl)) (fun _ _ _ h => h) (Or.inl ⟨by rfl, ?_⟩) ?_ ?_
          rotate_left
          · intro w'
            go_simp
            with_reducible rfl
          rotate_left
          · simp only [Act.put, List.setIfInBounds_toArray, List.set_cons_zero, List.set_cons_succ, i64_w, i32_w]
            rfl
          refine one_ (i := 13) (N := none) #[true, true, true, true, true, true, true, true, true, true, true, true, true, true] rfl rfl (one_of HT_.out (by kernel_rfl)) (by decide) (fun K hK => ?_)
          have hs20 : w18.cell? ⟨gb201, 0, none⟩ = some (.string (⟨#[]⟩ : ByteArray)) := (blk_cell BK201.out 0).trans rfl
          have hfs20 := blk_frozen BK201.out 0
          have hs21 : w18.cell? ⟨gb201, 1, none⟩ = some (.string (⟨#[]⟩ : ByteArray)) := (blk_cell BK201.out 1).trans rfl
          have hfs21 := blk_frozen BK201.out 1
          have hs22 : w18.cell? ⟨gb201, 2, none⟩ = some (.string (⟨#[]⟩ : ByteArray)) := (blk_cell BK201.out 2).trans rfl
          have hfs22 := blk_frozen BK201.out 2
          have hs23 : w18.cell? ⟨gb201, 3, none⟩ = some (.string (⟨#[]⟩ : ByteArray)) := (blk_cell BK201.out 3).trans rfl
          have hfs23 := blk_frozen BK201.out 3
          have hs24 : w18.cell? ⟨gb201, 4, none⟩ = some (.string (⟨#[]⟩ : ByteArray)) := (blk_cell BK201.out 4).trans rfl
          have hfs24 := blk_frozen BK201.out 4
          refine skip_ (w1 := ?_) (by rfl) rfl ?_ ?_
          rotate_left
          · go_simp
            rfl
          refine hK.out _ _ ⟨((cell_far (p := ⟨gb201, _, none⟩) (by first | exact Kd.own_blk (Kd.R_ne HO204.out BK201.out (by decide)) | (rw [add_block]; exact Kd.own_blk (Kd.R_ne HO204.out BK201.out (by decide))) | (show (Addr.add _ _).block ≠ _; rw [add_block]; exact Kd.own_blk (Kd.R_ne HO204.out BK201.out (by decide))) | (dsimp only; exact Kd.own_blk (Kd.R_ne HO204.out BK201.out (by decide)))) _).trans (((cell_far (p := ⟨gb201, _, none⟩) (by first | exact Kd.own_blk (Kd.R_ne HO204.out BK201.out (by decide)) | (rw [add_block]; exact Kd.own_blk (Kd.R_ne HO204.out BK201.out (by decide))) | (show (Addr.add _ _).block ≠ _; rw [add_block]; exact Kd.own_blk (Kd.R_ne HO204.out BK201.out (by decide))) | (dsimp only; exact Kd.own_blk (Kd.R_ne HO204.out BK201.out (by decide)))) _).trans (((cell_far (p := ⟨gb201, _, none⟩) (by first | exact Kd.own_blk (Kd.R_ne HO204.out BK201.out (by decide)) | (rw [add_block]; exact Kd.own_blk (Kd.R_ne HO204.out BK201.out (by decide))) | (show (Addr.add _ _).block ≠ _; rw [add_block]; exact Kd.own_blk (Kd.R_ne HO204.out BK201.out (by decide))) | (dsimp only; exact Kd.own_blk (Kd.R_ne HO204.out BK201.out (by decide)))) _).trans (((cell_far (p := ⟨gb201, _, none⟩) (by first | exact Kd.own_blk (Kd.R_ne HO204.out BK201.out (by decide)) | (rw [add_block]; exact Kd.own_blk (Kd.R_ne HO204.out BK201.out (by decide))) | (show (Addr.add _ _).block ≠ _; rw [add_block]; exact Kd.own_blk (Kd.R_ne HO204.out BK201.out (by decide))) | (dsimp only; exact Kd.own_blk (Kd.R_ne HO204.out BK201.out (by decide)))) _).trans (((cell_far (p := ⟨gb201, _, none⟩) (by first | exact Kd.own_blk (Kd.R_ne HO204.out BK201.out (by decide)) | (rw [add_block]; exact Kd.own_blk (Kd.R_ne HO204.out BK201.out (by decide))) | (show (Addr.add _ _).block ≠ _; rw [add_block]; exact Kd.own_blk (Kd.R_ne HO204.out BK201.out (by decide))) | (dsimp only; exact Kd.own_blk (Kd.R_ne HO204.out BK201.out (by decide)))) _).trans (hHeld.1)))))))))), ((cell_far (p := ⟨gb201, _, none⟩) (by first | exact Kd.own_blk (Kd.R_ne HO204.out BK201.out (by decide)) | (rw [add_block]; exact Kd.own_blk (Kd.R_ne HO204.out BK201.out (by decide))) | (show (Addr.add _ _).block ≠ _; rw [add_block]; exact Kd.own_blk (Kd.R_ne HO204.out BK201.out (by decide))) | (dsimp only; exact Kd.own_blk (Kd.R_ne HO204.out BK201.out (by decide)))) _).trans (((cell_far (p := ⟨gb201, _, none⟩) (by first | exact Kd.own_blk (Kd.R_ne HO204.out BK201.out (by decide)) | (rw [add_block]; exact Kd.own_blk (Kd.R_ne HO204.out BK201.out (by decide))) | (show (Addr.add _ _).block ≠ _; rw [add_block]; exact Kd.own_blk (Kd.R_ne HO204.out BK201.out (by decide))) | (dsimp only; exact Kd.own_blk (Kd.R_ne HO204.out BK201.out (by decide)))) _).trans (((cell_far (p := ⟨gb201, _, none⟩) (by first | exact Kd.own_blk (Kd.R_ne HO204.out BK201.out (by decide)) | (rw [add_block]; exact Kd.own_blk (Kd.R_ne HO204.out BK201.out (by decide))) | (show (Addr.add _ _).block ≠ _; rw [add_block]; exact Kd.own_blk (Kd.R_ne HO204.out BK201.out (by decide))) | (dsimp only; exact Kd.own_blk (Kd.R_ne HO204.out BK201.out (by decide)))) _).trans (((cell_far (p := ⟨gb201, _, none⟩) (by first | exact Kd.own_blk (Kd.R_ne HO204.out BK201.out (by decide)) | (rw [add_block]; exact Kd.own_blk (Kd.R_ne HO204.out BK201.out (by decide))) | (show (Addr.add _ _).block ≠ _; rw [add_block]; exact Kd.own_blk (Kd.R_ne HO204.out BK201.out (by decide))) | (dsimp only; exact Kd.own_blk (Kd.R_ne HO204.out BK201.out (by decide)))) _).trans (((cell_far (p := ⟨gb201, _, none⟩) (by first | exact Kd.own_blk (Kd.R_ne HO204.out BK201.out (by decide)) | (rw [add_block]; exact Kd.own_blk (Kd.R_ne HO204.out BK201.out (by decide))) | (show (Addr.add _ _).block ≠ _; rw [add_block]; exact Kd.own_blk (Kd.R_ne HO204.out BK201.out (by decide))) | (dsimp only; exact Kd.own_blk (Kd.R_ne HO204.out BK201.out (by decide)))) _).trans (hHeld.2))))))))))⟩ (fun hHeld => ?_)
          clear hK K
          refine done_ (done_of HT_.out (by kernel_rfl)) ?_
          try go_wp2
          refine bodyPost_ret (results_cell_row rfl _ _ gb201 39 #[.string t214, .string t208, .string t206, .string (⟨#[]⟩ : ByteArray), .string (⟨#[]⟩ : ByteArray)] (0, 0) _ rfl (by (with_reducible repeat (first | refine blk_drewN ?_ _ | refine blk_drew ?_ | refine blk_alloc ?_ _)); refine blk_put (cs := #[.string t214, .string t208, .string t206, .string (⟨#[]⟩ : ByteArray), .string (⟨#[]⟩ : ByteArray)]) ?_ 4 _ rfl; (with_reducible repeat (first | refine blk_drewN ?_ _ | refine blk_drew ?_ | refine blk_alloc ?_ _)); refine blk_put (cs := #[.string t214, .string t208, .string t206, .string (⟨#[]⟩ : ByteArray), .string (⟨#[]⟩ : ByteArray)]) ?_ 3 _ rfl; (with_reducible repeat (first | refine blk_drewN ?_ _ | refine blk_drew ?_ | refine blk_alloc ?_ _)); refine blk_put (cs := #[.string t214, .string t208, .string (⟨#[]⟩ : ByteArray), .string (⟨#[]⟩ : ByteArray), .string (⟨#[]⟩ : ByteArray)]) ?_ 2 _ rfl; (with_reducible repeat (first | refine blk_drewN ?_ _ | refine blk_drew ?_ | refine blk_alloc ?_ _)); refine blk_put (cs := #[.string t214, .string (⟨#[]⟩ : ByteArray), .string (⟨#[]⟩ : ByteArray), .string (⟨#[]⟩ : ByteArray), .string (⟨#[]⟩ : ByteArray)]) ?_ 1 _ rfl; (with_reducible repeat (first | refine blk_drewN ?_ _ | refine blk_drew ?_ | refine blk_alloc ?_ _)); refine blk_put (cs := #[.string (⟨#[]⟩ : ByteArray), .string (⟨#[]⟩ : ByteArray), .string (⟨#[]⟩ : ByteArray), .string (⟨#[]⟩ : ByteArray), .string (⟨#[]⟩ : ByteArray)]) ?_ 0 _ rfl; (with_reducible repeat (first | refine blk_drewN ?_ _ | refine blk_drew ?_ | refine blk_alloc ?_ _)); exact BK201.out) Try.underlying39 rfl (by kernel_rfl)) rfl ?_
          exact ⟨by first | rfl | (simp [errW_none, errW_some] <;> rfl) | (simp [*, errW_none, errW_some] <;> rfl), by repeat (first | (with_reducible first | exact HB.out | apply below_alloc | apply pw_below_drewN | apply below_drew1 | refine below_set ?_ GE201.out) | exact HB.out)⟩
        · rw [if_neg c12] at H
          exact absurd H (by simp)
      · rw [if_neg c10] at H
        exact absurd H (by simp)
    · rw [if_neg c8] at H
      exact absurd H (by simp)

end Go.Proofs.Ytdomnigegpigiab.PFnGvkBack

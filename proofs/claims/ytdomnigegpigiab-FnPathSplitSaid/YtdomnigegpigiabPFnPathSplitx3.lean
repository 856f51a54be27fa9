-- printed by a program of this session: the print, turned for a few more operations
import Derived.Test.YtdomnigegpigiabPFnPathSplitx0
import Derived.Test.YtdomnigegpigiabPFnPathSplitx1
import Derived.Test.YtdomnigegpigiabPFnPathSplitx2
namespace Go.Proofs.Ytdomnigegpigiab.PFnPathSplit
open Go.RowKit Go.Proofs.YtdomnigegpigiabW.PrintWords Go.Proofs.YtdomnigegpigiabW.PrintLast Go.Proofs.YtdomnigegpigiabW.PrintMore
attribute [local go_sem] max2_int min2_int max_two min_two max_three min_three max_four min_four   -- for this text's walks alone
set_option linter.unusedVariables false
set_option linter.unusedSimpArgs false

/-! ### spec_Apart: function 16 -/
mutual
def spec_Apart.l0 : Nat → ByteArray → Int → List ByteArray → List Int → Int → Option (List ByteArray)
  | 0, _, _, _, _, _ => none
  | k + 1, x0, x1, x5, x6, x7 => if x7 < (x0.size : Int) then (if 0 ≤ x7 then (if (bt x0 x7) = 92 then (if (wrap64 (x7 + 1)) < (x0.size : Int) then (if 0 ≤ (wrap64 (x7 + 1)) then (spec_Apart.j1 k x0 x1 x5 x6 x7 ((bt x0 (wrap64 (x7 + 1))) == x1)) else (none)) else (spec_Apart.j1 k x0 x1 x5 x6 x7 false)) else (spec_Apart.j1 k x0 x1 x5 x6 x7 false)) else (none)) else (if x5.length < 8796093022208 then ((some (x5 ++ [strOfNums x6] : List ByteArray)).bind fun y140 => (if (y140.length : Int) > 1 then (if 0 < (x0.size : Int) then (if (bt x0 0) = x1 then (if 1 ≤ (y140.length : Int) then (some (y140.drop (1 : Int).toNat)) else (none)) else (some y140)) else (none)) else (some y140))) else (none))
def spec_Apart.j1 : Nat → ByteArray → Int → List ByteArray → List Int → Int → Bool → Option (List ByteArray)
  | 0, _, _, _, _, _, _ => none
  | k + 1, x0, x1, x5, x6, x7, x20 => if x20 = true then (if x6.length < 140737488355328 then (spec_Apart.l0 k x0 x1 x5 (x6 ++ [x1]) (wrap64 ((wrap64 (x7 + 1)) + 1))) else (none)) else (if 0 ≤ x7 then (if x7 < (x0.size : Int) then (if (bt x0 x7) = x1 then (if x5.length < 8796093022208 then (spec_Apart.l0 k x0 x1 (x5 ++ [strOfNums x6]) ([] : List Int) (wrap64 (x7 + 1))) else (none)) else (if x6.length < 140737488355328 then (spec_Apart.l0 k x0 x1 x5 (x6 ++ [bt x0 x7]) (wrap64 (x7 + 1))) else (none))) else (none)) else (none))
end
def spec_Apart.f (k : Nat) (a0 : ByteArray) (a1 : Int) : Option (List ByteArray) := spec_Apart.l0 k a0 a1 ([] : List ByteArray) ([] : List Int) 0
theorem spec_Apart.mono_l : ∀ k, (∀ y0 y1 y2 y3 y4, LeO (spec_Apart.l0 k y0 y1 y2 y3 y4) (spec_Apart.l0 (k + 1) y0 y1 y2 y3 y4)) ∧ (∀ y0 y1 y2 y3 y4 y5, LeO (spec_Apart.j1 k y0 y1 y2 y3 y4 y5) (spec_Apart.j1 (k + 1) y0 y1 y2 y3 y4 y5))
  | 0 => ⟨fun _ _ _ _ _ r h => by simp [spec_Apart.l0] at h, fun _ _ _ _ _ _ r h => by simp [spec_Apart.j1] at h⟩
  | k + 1 => by
    obtain ⟨ih0, ih1⟩ := spec_Apart.mono_l k
    refine ⟨?_, ?_⟩
    · intro y0 y1 y2 y3 y4
      unfold spec_Apart.l0
      repeat' first
      | (with_reducible exact ih0 _ _ _ _ _)
      | (with_reducible exact ih1 _ _ _ _ _ _)
      | (with_reducible exact LeO.refl _)
      | (with_reducible exact LeO.none _)
      | (with_reducible refine LeO.ite ?_ ?_)
      | (with_reducible refine LeO.bind ?_ (fun _ => ?_))
      | exact ih0 _ _ _ _ _
      | exact ih1 _ _ _ _ _ _
      | exact LeO.none _
      | refine LeO.ite ?_ ?_
      | refine LeO.bind ?_ (fun _ => ?_)
    · intro y0 y1 y2 y3 y4 y5
      unfold spec_Apart.j1
      repeat' first
      | (with_reducible exact ih0 _ _ _ _ _)
      | (with_reducible exact ih1 _ _ _ _ _ _)
      | (with_reducible exact LeO.refl _)
      | (with_reducible exact LeO.none _)
      | (with_reducible refine LeO.ite ?_ ?_)
      | (with_reducible refine LeO.bind ?_ (fun _ => ?_))
      | exact ih0 _ _ _ _ _
      | exact ih1 _ _ _ _ _ _
      | exact LeO.none _
      | refine LeO.ite ?_ ?_
      | refine LeO.bind ?_ (fun _ => ?_)
theorem spec_Apart.mono : ∀ a0 a1 k, LeO (spec_Apart.f k a0 a1) (spec_Apart.f (k + 1) a0 a1) := by
  intro a0 a1 k
  obtain ⟨ih0, ih1⟩ := spec_Apart.mono_l k
  unfold spec_Apart.f
  repeat' first
      | (with_reducible exact ih0 _ _ _ _ _)
      | (with_reducible exact ih1 _ _ _ _ _ _)
      | (with_reducible exact LeO.refl _)
      | (with_reducible exact LeO.none _)
      | (with_reducible refine LeO.ite ?_ ?_)
      | (with_reducible refine LeO.bind ?_ (fun _ => ?_))
      | exact ih0 _ _ _ _ _
      | exact ih1 _ _ _ _ _ _
      | exact LeO.none _
      | refine LeO.ite ?_ ?_
      | refine LeO.bind ?_ (fun _ => ?_)
set_option maxHeartbeats 8000000 in
set_option maxRecDepth 100000 in
theorem spec_Apart.calls (k : Nat) (a0 : ByteArray) (a1 : Int) (r : List ByteArray) (w : World) (h : spec_Apart.f k a0 a1 = some r) :
    Calls Try.prog 16 #[.string a0, .int .u8 a1] w fun e w' => ∃ v0_ : Value, e = .returned (v0_) ∧ Kd.Q Kd.string 9 w' w.heap.size (fun _ => True) v0_ r ∧ Below w.heap.size w w' := by
  have HB := Aside0.mk (Below.refl w.heap.size w)
  have H : (spec_Apart.l0 k a0 a1 ([] : List ByteArray) ([] : List Int) 0) = some r := h
  clear h
  have H' := Aside0.mk H
  clear H
  go_enter Try.func16, Try.ntmps16
  go_wp2
  go_loopg [5, 6, 7] k (fun kq v5 v6 v7 w' => ∃ (x5_1 : List ByteArray) (x6_1 : List Int) (x7_1 : Int), v7 = .int .i64 x7_1 ∧ Aside0 (spec_Apart.l0 kq a0 a1 x5_1 x6_1 x7_1 = some r) ∧ Aside0 (kq ≤ k) ∧ Aside0 (Kd.Q Kd.string 9 w' w.heap.size (fun _ => True) v5 x5_1) ∧ Aside0 (Kd.R (Kd.int .u8) 5 w' w.heap.size (fun _ => True) v6 x6_1) ∧ Aside0 (Below w.heap.size w w'))
  case atStart => exact ⟨(([] : List ByteArray)), (([] : List Int)), (0), (by first | rfl | (simp; done) | (simp [*]; done)), H', ⟨Nat.le_refl _⟩, ⟨Kd.Q_of_R (by first | exact Kd.R_nil _ _ _ _ _ | exact Kd.N_nil _ _ _ _ _ | exact Kd.V_nil _ _ _ _ _ | exact Kd.Q_nil _ _ _ _ _ | exact Kd.S_nil _ _ _ _ _)⟩, ⟨by first | exact Kd.R_nil _ _ _ _ _ | exact Kd.N_nil _ _ _ _ _ | exact Kd.V_nil _ _ _ _ _ | exact Kd.Q_nil _ _ _ _ _ | exact Kd.S_nil _ _ _ _ _⟩, ⟨by repeat (first | (with_reducible first | exact HB.out | apply below_alloc | apply pw_below_drewN | apply below_drew1) | exact HB.out)⟩⟩
  case round =>
    clear H'
    try clear c1
    try clear p2
    obtain ⟨x5_1, x6_1, x7_1, rfl, HA, HK1, HO_5, HO_6, HB⟩ := hrel
    cases gk with
    | zero => exact absurd HA.out (by simp [spec_Apart.l0])
    | succ k1 =>
      have H := HA.out
      clear HA
      simp only [spec_Apart.l0] at H
      by_cases c3 : x7_1 < (a0.size : Int)
      · rw [if_pos c3] at H
        have c3b0 : decide (x7_1 < (a0.size : Int)) = true := decide_eq_true c3
        clear c3
        have HC4 := Aside0.mk H
        clear H
        go_upto_region 7 with (fail)
        go_cut [20] (fun v20 wc => ∃ (kq : Nat) (x20_3 : Bool), v20 = .bool x20_3 ∧ Aside0 (spec_Apart.j1 kq a0 a1 x5_1 x6_1 x7_1 x20_3 = some r) ∧ Aside0 (kq ≤ k1) ∧ Aside0 (Kd.Q Kd.string 9 wc w.heap.size (fun _ => True) u5 x5_1) ∧ Aside0 (Kd.R (Kd.int .u8) 5 wc w.heap.size (fun _ => True) u6 x6_1) ∧ Aside0 (Below w.heap.size w wc))
        case first =>
          have H := HC4.out
          clear HC4
          by_cases c5 : 0 ≤ x7_1
          · rw [if_pos c5] at H
            have c5b0 : decide (0 ≤ x7_1) = true := decide_eq_true c5
            clear c5
            (first | rw [c5b0] | (simp only [i64_w, i32_w]; rw [c5b0]) | skip)
            by_cases c7 : (bt a0 x7_1) = 92
            · rw [if_pos c7] at H
              have c7b0 : ((bt a0 x7_1) == 92) = true := beq_iff_eq.mpr c7
              have c7b1 : ((bt a0 x7_1) != 92) = false := bne_eq_false_iff_eq.mpr c7
              clear c7
              by_cases c8 : (wrap64 (x7_1 + 1)) < (a0.size : Int)
              · rw [if_pos c8] at H
                have c8b0 : decide ((wrap64 (x7_1 + 1)) < (a0.size : Int)) = true := decide_eq_true c8
                clear c8
                obtain ⟨ji9, hji9⟩ : ∃ j_ : Int, (wrap64 (x7_1 + 1)) = j_ := ⟨_, rfl⟩
                replace H : (if 0 ≤ (ji9) then (spec_Apart.j1 k1 a0 a1 x5_1 x6_1 x7_1 ((bt a0 (ji9)) == a1)) else (none)) = some r := by first | (rw [hji9] at H; exact H) | (simp only [hji9] at H ⊢; exact H)
                (try rw [hji9] at c8b0)
                have hji9w : (IntKind.i64.wrap (x7_1 + 1)) = ji9 := (i64_w _).trans hji9
                by_cases c10 : 0 ≤ (ji9)
                · rw [if_pos c10] at H
                  have c10b0 : decide (0 ≤ (ji9)) = true := decide_eq_true c10
                  clear c10
                  have H' := Aside0.mk H
                  clear H
                  have p6 : 0 ≤ (x7_1 : Int) := of_decide_eq_true (by first | (with_reducible assumption) | assumption)
                  have q6 : x7_1 < (a0.size : Int) := of_decide_eq_true (by first | (with_reducible assumption) | assumption)
                  have hx6 := bt_at a0 x7_1
                  replace p6 := eq_true p6
                  replace q6 := eq_true q6
                  have p11 : 0 ≤ ((ji9) : Int) := of_decide_eq_true (by first | (with_reducible assumption) | assumption)
                  have q11 : (ji9) < (a0.size : Int) := of_decide_eq_true (by first | (with_reducible assumption) | assumption)
                  have hx11 := bt_at a0 (ji9)
                  replace p11 := eq_true p11
                  replace q11 := eq_true q11
                  go_wp2
                  go_meet
                  case rel => exact ⟨_, (((bt a0 (ji9)) == a1)), (by first | rfl | (simp; done) | (simp only [← hji9] <;> (first | rfl | simp)) | (simp [*]; done)), H', ⟨by have := HK1.out; first | omega | exact Nat.le_refl _⟩, ⟨by (with_reducible repeat (first | apply Kd.Q_alloc | apply Kd.Q_drewN | apply Kd.Q_drew)); exact HO_5.out⟩, ⟨by (with_reducible repeat (first | apply Kd.R_alloc | apply Kd.R_drewN | apply Kd.R_drew)); exact HO_6.out⟩, ⟨by repeat (first | (with_reducible first | exact HB.out | apply below_alloc | apply pw_below_drewN | apply below_drew1) | exact HB.out)⟩⟩
                · rw [if_neg c10] at H
                  exact absurd H (by simp)
              · rw [if_neg c8] at H
                have c8b0 : decide ((wrap64 (x7_1 + 1)) < (a0.size : Int)) = false := decide_eq_false c8
                clear c8
                have H' := Aside0.mk H
                clear H
                have p6 : 0 ≤ (x7_1 : Int) := of_decide_eq_true (by first | (with_reducible assumption) | assumption)
                have q6 : x7_1 < (a0.size : Int) := of_decide_eq_true (by first | (with_reducible assumption) | assumption)
                have hx6 := bt_at a0 x7_1
                replace p6 := eq_true p6
                replace q6 := eq_true q6
                go_wp2
                go_meet
                case rel => exact ⟨_, (false), (by first | rfl | (simp; done) | (simp [*]; done)), H', ⟨by have := HK1.out; first | omega | exact Nat.le_refl _⟩, ⟨by (with_reducible repeat (first | apply Kd.Q_alloc | apply Kd.Q_drewN | apply Kd.Q_drew)); exact HO_5.out⟩, ⟨by (with_reducible repeat (first | apply Kd.R_alloc | apply Kd.R_drewN | apply Kd.R_drew)); exact HO_6.out⟩, ⟨by repeat (first | (with_reducible first | exact HB.out | apply below_alloc | apply pw_below_drewN | apply below_drew1) | exact HB.out)⟩⟩
            · rw [if_neg c7] at H
              have c7b0 : ((bt a0 x7_1) == 92) = false := beq_eq_false_iff_ne.mpr c7
              have c7b1 : ((bt a0 x7_1) != 92) = true := bne_iff_ne.mpr c7
              have H' := Aside0.mk H
              clear H
              have p6 : 0 ≤ (x7_1 : Int) := of_decide_eq_true (by first | (with_reducible assumption) | assumption)
              have q6 : x7_1 < (a0.size : Int) := of_decide_eq_true (by first | (with_reducible assumption) | assumption)
              have hx6 := bt_at a0 x7_1
              replace p6 := eq_true p6
              replace q6 := eq_true q6
              go_wp2
              go_meet
              case rel => exact ⟨_, (false), (by first | rfl | (simp; done) | (simp [*]; done)), H', ⟨by have := HK1.out; first | omega | exact Nat.le_refl _⟩, ⟨by (with_reducible repeat (first | apply Kd.Q_alloc | apply Kd.Q_drewN | apply Kd.Q_drew)); exact HO_5.out⟩, ⟨by (with_reducible repeat (first | apply Kd.R_alloc | apply Kd.R_drewN | apply Kd.R_drew)); exact HO_6.out⟩, ⟨by repeat (first | (with_reducible first | exact HB.out | apply below_alloc | apply pw_below_drewN | apply below_drew1) | exact HB.out)⟩⟩
          · rw [if_neg c5] at H
            exact absurd H (by simp)
        case rest =>
          clear HC4
          try clear c1
          try clear p1
          try clear q1
          try clear hx1
          try clear p2
          try clear c3
          try clear c3b0
          try clear c5
          try clear c5b0
          try clear p6
          try clear q6
          try clear hx6
          try clear c7
          try clear c7b0
          try clear c7b1
          try clear c8
          try clear c8b0
          try clear c10
          try clear c10b0
          try clear p11
          try clear q11
          try clear hx11
          try clear p11
          try clear p2
          try clear p6
          try clear q11
          try clear q6
          obtain ⟨kq, x20_3, rfl, HA, HJ3, HO_5, HO_6, HB⟩ := hcut
          cases kq with
          | zero => exact absurd HA.out (by simp [spec_Apart.j1])
          | succ kj3 =>
            have H := HA.out
            clear HA
            simp only [spec_Apart.j1] at H
            by_cases c12 : x20_3 = true
            · subst c12
              have H1 : (if x6_1.length < 140737488355328 then (spec_Apart.l0 kj3 a0 a1 x5_1 (x6_1 ++ [a1]) (wrap64 ((wrap64 (x7_1 + 1)) + 1))) else (none)) = some r := by rw [if_pos rfl] at H; exact H
              clear H
              have H := H1
              clear H1
              by_cases c13 : x6_1.length < 140737488355328
              · rw [if_pos c13] at H
                have LMc13 := Aside0.mk c13
                clear c13
                obtain ⟨y146, hy146⟩ : ∃ y_ : List Int, y_ = (x6_1 ++ [a1]) := ⟨_, rfl⟩
                replace H : (spec_Apart.l0 kj3 a0 a1 x5_1 y146 (wrap64 ((wrap64 (x7_1 + 1)) + 1))) = some r := by first | (rw [hy146]; with_reducible exact H) | (have H2_ := (Option.bind_some _ _).symm.trans H; rw [hy146]; with_reducible exact H2_) | (have H2_ := (Option.bind_some _ _).symm.trans H; with_reducible exact H2_) | with_reducible exact H | (rw [hy146]; exact H) | exact H
                have Ny146 := Aside0.mk hy146
                clear hy146
                have H' := Aside0.mk H
                clear H
                go_wp2_with (first | ((with_reducible refine gate_builtin (b := .append) (xs := #[.tmp 40, .tmp 42]) rfl ?_); (try (refine gate_guard (by rfl) ?_; dsimp only)); at_builtin; refine Kd.R_append (Kd.int .u8) (w0 := w) w.heap.size rfl (.tmp 40) (.tmp 42) 54 5 (.int .u8 0) 1 rfl Try.underlying54 info5 rfl (by decide) (by omega) u6 x6_1 a1 [.int .u8 a1] (fun _ => True) (fun _ => False) rfl rfl ?aP (fun _ hk => hk.elim) ?aF ?aO ?aB ?aS ?aL ?_; (case aP => exact rfl); (case aB => exact (by repeat (first | (with_reducible first | exact HB.out | apply below_alloc | apply pw_below_drewN | apply below_drew1) | exact HB.out))); (case aF => exact (fun _ _ => trivial)); (case aO => exact (by (with_reducible repeat (first | apply Kd.R_alloc | apply Kd.R_drewN | apply Kd.R_drew)); exact HO_6.out)); (case aS => exact (below_size (by repeat (first | (with_reducible first | exact HB.out | apply below_alloc | apply pw_below_drewN | apply below_drew1) | exact HB.out)))); (case aL => have := LMc13.out; omega); intro v147 w14 ho hb hg hat; rw [← Ny146.out] at ho; have n0_ := Aside0.mk (Kd.Q_over' (by (with_reducible repeat (first | apply Kd.Q_alloc | apply Kd.Q_drewN | apply Kd.Q_drew)); exact HO_5.out) (Kd.R_typed (by (with_reducible repeat (first | apply Kd.R_alloc | apply Kd.R_drewN | apply Kd.R_drew)); exact HO_6.out)) (by decide) hg); have n1_ := Aside0.mk (hb); have n2_ := Aside0.mk (ho); clear HO_5; clear HB; clear HO_6; have HO_5 := n0_; have HB := n1_; have HO148 := n2_; clear n0_ n1_ n2_; clear ho hb hg hat))
                go_roundg kj3
                case measure => have := HK1.out; have := HJ3.out; omega
                case rel => exact ⟨(x5_1), (y146), (wrap64 ((wrap64 (x7_1 + 1)) + 1)), (by first | rfl | (simp; done) | (simp [*]; done)), H', ⟨by have := HK1.out; have := HJ3.out; omega⟩, ⟨by (with_reducible repeat (first | apply Kd.Q_alloc | apply Kd.Q_drewN | apply Kd.Q_drew)); exact HO_5.out⟩, ⟨by (with_reducible repeat (first | apply Kd.R_alloc | apply Kd.R_drewN | apply Kd.R_drew)); exact HO148.out⟩, ⟨by repeat (first | (with_reducible first | exact HB.out | apply below_alloc | apply pw_below_drewN | apply below_drew1) | exact HB.out)⟩⟩
              · rw [if_neg c13] at H
                exact absurd H (by simp)
            · replace c12 := Bool.eq_false_iff.mpr c12
              subst c12
              have H1 : (if 0 ≤ x7_1 then (if x7_1 < (a0.size : Int) then (if (bt a0 x7_1) = a1 then (if x5_1.length < 8796093022208 then (spec_Apart.l0 kj3 a0 a1 (x5_1 ++ [strOfNums x6_1]) ([] : List Int) (wrap64 (x7_1 + 1))) else (none)) else (if x6_1.length < 140737488355328 then (spec_Apart.l0 kj3 a0 a1 x5_1 (x6_1 ++ [bt a0 x7_1]) (wrap64 (x7_1 + 1))) else (none))) else (none)) else (none)) = some r := by rw [if_neg (show ¬ (false = true) by decide)] at H; exact H
              clear H
              have H := H1
              clear H1
              by_cases c15 : 0 ≤ x7_1
              · rw [if_pos c15] at H
                have c15b0 : decide (0 ≤ x7_1) = true := decide_eq_true c15
                clear c15
                by_cases c16 : x7_1 < (a0.size : Int)
                · rw [if_pos c16] at H
                  have c16b0 : decide (x7_1 < (a0.size : Int)) = true := decide_eq_true c16
                  clear c16
                  by_cases c18 : (bt a0 x7_1) = a1
                  · rw [if_pos c18] at H
                    have c18b0 : ((bt a0 x7_1) == a1) = true := beq_iff_eq.mpr c18
                    have c18b1 : ((bt a0 x7_1) != a1) = false := bne_eq_false_iff_eq.mpr c18
                    clear c18
                    by_cases c19 : x5_1.length < 8796093022208
                    · rw [if_pos c19] at H
                      have LMc19 := Aside0.mk c19
                      clear c19
                      obtain ⟨y149, hy149⟩ : ∃ y_ : List ByteArray, y_ = (x5_1 ++ [strOfNums x6_1]) := ⟨_, rfl⟩
                      replace H : (spec_Apart.l0 kj3 a0 a1 y149 ([] : List Int) (wrap64 (x7_1 + 1))) = some r := by first | (rw [hy149]; with_reducible exact H) | (have H2_ := (Option.bind_some _ _).symm.trans H; rw [hy149]; with_reducible exact H2_) | (have H2_ := (Option.bind_some _ _).symm.trans H; with_reducible exact H2_) | with_reducible exact H | (rw [hy149]; exact H) | exact H
                      have Ny149 := Aside0.mk hy149
                      clear hy149
                      have H' := Aside0.mk H
                      clear H
                      have p17 : 0 ≤ (x7_1 : Int) := of_decide_eq_true (by first | (with_reducible assumption) | assumption)
                      have q17 : x7_1 < (a0.size : Int) := of_decide_eq_true (by first | (with_reducible assumption) | assumption)
                      have hx17 := bt_at a0 x7_1
                      replace p17 := eq_true p17
                      replace q17 := eq_true q17
                      have hcv20 := own_string (P := Try.prog) Try.underlying54 Try.underlying5 Try.underlying9 (Kd.own_of_R HO_6.out)
                      go_wp2_with (first | ((with_reducible refine gate_builtin (b := .append) (xs := #[.tmp 52, .tmp 55]) rfl ?_); (try (refine gate_guard (by rfl) ?_; dsimp only)); at_builtin; refine Kd.Q_append Kd.string (w0 := w) w.heap.size rfl (.tmp 52) (.tmp 55) 27 9 (.string ⟨#[]⟩) 16 rfl Try.underlying27 info9 rfl (by decide) (by omega) u5 x5_1 (strOfNums x6_1) [.string (strOfNums x6_1)] (fun _ => True) (fun _ => False) rfl rfl ?aP (fun _ hk => hk.elim) ?aF ?aO ?aB ?aS ?aL ?_; (case aP => exact rfl); (case aB => exact (by repeat (first | (with_reducible first | exact HB.out | apply below_alloc | apply pw_below_drewN | apply below_drew1) | exact HB.out))); (case aF => exact (fun _ _ => trivial)); (case aO => exact (by (with_reducible repeat (first | apply Kd.Q_alloc | apply Kd.Q_drewN | apply Kd.Q_drew)); exact HO_5.out)); (case aS => exact (below_size (by repeat (first | (with_reducible first | exact HB.out | apply below_alloc | apply pw_below_drewN | apply below_drew1) | exact HB.out)))); (case aL => have := LMc19.out; omega); intro v150 w21 ho hb hg hat; rw [← Ny149.out] at ho; have n0_ := Aside0.mk (Kd.R_over' (by (with_reducible repeat (first | apply Kd.R_alloc | apply Kd.R_drewN | apply Kd.R_drew)); exact HO_6.out) (Kd.Q_typed (by (with_reducible repeat (first | apply Kd.Q_alloc | apply Kd.Q_drewN | apply Kd.Q_drew)); exact HO_5.out)) (by decide) hg); have n1_ := Aside0.mk (hb); have n2_ := Aside0.mk (ho); clear HO_6; clear HB; clear HO_5; have HO_6 := n0_; have HB := n1_; have HO151 := n2_; clear n0_ n1_ n2_; clear ho hb hg hat))
                      go_roundg kj3
                      case measure => have := HK1.out; have := HJ3.out; omega
                      case rel => exact ⟨(y149), (([] : List Int)), (wrap64 (x7_1 + 1)), (by first | rfl | (simp; done) | (simp [*]; done)), H', ⟨by have := HK1.out; have := HJ3.out; omega⟩, ⟨by (with_reducible repeat (first | apply Kd.Q_alloc | apply Kd.Q_drewN | apply Kd.Q_drew)); exact HO151.out⟩, ⟨by first | exact Kd.R_nil _ _ _ _ _ | exact Kd.N_nil _ _ _ _ _ | exact Kd.V_nil _ _ _ _ _ | exact Kd.Q_nil _ _ _ _ _ | exact Kd.S_nil _ _ _ _ _⟩, ⟨by repeat (first | (with_reducible first | exact HB.out | apply below_alloc | apply pw_below_drewN | apply below_drew1) | exact HB.out)⟩⟩
                    · rw [if_neg c19] at H
                      exact absurd H (by simp)
                  · rw [if_neg c18] at H
                    have c18b0 : ((bt a0 x7_1) == a1) = false := beq_eq_false_iff_ne.mpr c18
                    have c18b1 : ((bt a0 x7_1) != a1) = true := bne_iff_ne.mpr c18
                    by_cases c23 : x6_1.length < 140737488355328
                    · rw [if_pos c23] at H
                      have LMc23 := Aside0.mk c23
                      clear c23
                      obtain ⟨y152, hy152⟩ : ∃ y_ : List Int, y_ = (x6_1 ++ [bt a0 x7_1]) := ⟨_, rfl⟩
                      replace H : (spec_Apart.l0 kj3 a0 a1 x5_1 y152 (wrap64 (x7_1 + 1))) = some r := by first | (rw [hy152]; with_reducible exact H) | (have H2_ := (Option.bind_some _ _).symm.trans H; rw [hy152]; with_reducible exact H2_) | (have H2_ := (Option.bind_some _ _).symm.trans H; with_reducible exact H2_) | with_reducible exact H | (rw [hy152]; exact H) | exact H
                      have Ny152 := Aside0.mk hy152
                      clear hy152
                      have H' := Aside0.mk H
                      clear H
                      have p17 : 0 ≤ (x7_1 : Int) := of_decide_eq_true (by first | (with_reducible assumption) | assumption)
                      have q17 : x7_1 < (a0.size : Int) := of_decide_eq_true (by first | (with_reducible assumption) | assumption)
                      have hx17 := bt_at a0 x7_1
                      replace p17 := eq_true p17
                      replace q17 := eq_true q17
                      have p22 : 0 ≤ (x7_1 : Int) := of_decide_eq_true (by first | (with_reducible assumption) | assumption)
                      have q22 : x7_1 < (a0.size : Int) := of_decide_eq_true (by first | (with_reducible assumption) | assumption)
                      have hx22 := bt_at a0 x7_1
                      replace p22 := eq_true p22
                      replace q22 := eq_true q22
                      go_wp2_with (first | ((with_reducible refine gate_builtin (b := .append) (xs := #[.tmp 14, .tmp 18]) rfl ?_); (try (refine gate_guard (by rfl) ?_; dsimp only)); at_builtin; refine Kd.R_append (Kd.int .u8) (w0 := w) w.heap.size rfl (.tmp 14) (.tmp 18) 54 5 (.int .u8 0) 1 rfl Try.underlying54 info5 rfl (by decide) (by omega) u6 x6_1 (bt a0 x7_1) [.int .u8 (bt a0 x7_1)] (fun _ => True) (fun _ => False) rfl rfl ?aP (fun _ hk => hk.elim) ?aF ?aO ?aB ?aS ?aL ?_; (case aP => exact rfl); (case aB => exact (by repeat (first | (with_reducible first | exact HB.out | apply below_alloc | apply pw_below_drewN | apply below_drew1) | exact HB.out))); (case aF => exact (fun _ _ => trivial)); (case aO => exact (by (with_reducible repeat (first | apply Kd.R_alloc | apply Kd.R_drewN | apply Kd.R_drew)); exact HO_6.out)); (case aS => exact (below_size (by repeat (first | (with_reducible first | exact HB.out | apply below_alloc | apply pw_below_drewN | apply below_drew1) | exact HB.out)))); (case aL => have := LMc23.out; omega); intro v153 w24 ho hb hg hat; rw [← Ny152.out] at ho; have n0_ := Aside0.mk (Kd.Q_over' (by (with_reducible repeat (first | apply Kd.Q_alloc | apply Kd.Q_drewN | apply Kd.Q_drew)); exact HO_5.out) (Kd.R_typed (by (with_reducible repeat (first | apply Kd.R_alloc | apply Kd.R_drewN | apply Kd.R_drew)); exact HO_6.out)) (by decide) hg); have n1_ := Aside0.mk (hb); have n2_ := Aside0.mk (ho); clear HO_5; clear HB; clear HO_6; have HO_5 := n0_; have HB := n1_; have HO154 := n2_; clear n0_ n1_ n2_; clear ho hb hg hat))
                      go_roundg kj3
                      case measure => have := HK1.out; have := HJ3.out; omega
                      case rel => exact ⟨(x5_1), (y152), (wrap64 (x7_1 + 1)), (by first | rfl | (simp; done) | (simp [*]; done)), H', ⟨by have := HK1.out; have := HJ3.out; omega⟩, ⟨by (with_reducible repeat (first | apply Kd.Q_alloc | apply Kd.Q_drewN | apply Kd.Q_drew)); exact HO_5.out⟩, ⟨by (with_reducible repeat (first | apply Kd.R_alloc | apply Kd.R_drewN | apply Kd.R_drew)); exact HO154.out⟩, ⟨by repeat (first | (with_reducible first | exact HB.out | apply below_alloc | apply pw_below_drewN | apply below_drew1) | exact HB.out)⟩⟩
                    · rw [if_neg c23] at H
                      exact absurd H (by simp)
                · rw [if_neg c16] at H
                  exact absurd H (by simp)
              · rw [if_neg c15] at H
                exact absurd H (by simp)
      · rw [if_neg c3] at H
        have c3b0 : decide (x7_1 < (a0.size : Int)) = false := decide_eq_false c3
        clear c3
        by_cases c25 : x5_1.length < 8796093022208
        · rw [if_pos c25] at H
          have LMc25 := Aside0.mk c25
          clear c25
          obtain ⟨y140, hy140⟩ : ∃ y_ : List ByteArray, y_ = (x5_1 ++ [strOfNums x6_1]) := ⟨_, rfl⟩
          replace H : (if (y140.length : Int) > 1 then (if 0 < (a0.size : Int) then (if (bt a0 0) = a1 then (if 1 ≤ (y140.length : Int) then (some (y140.drop (1 : Int).toNat)) else (none)) else (some y140)) else (none)) else (some y140)) = some r := by first | (rw [hy140]; with_reducible exact H) | (have H2_ := (Option.bind_some _ _).symm.trans H; rw [hy140]; with_reducible exact H2_) | (have H2_ := (Option.bind_some _ _).symm.trans H; with_reducible exact H2_) | with_reducible exact H | (rw [hy140]; exact H) | exact H
          have Ny140 := Aside0.mk hy140
          clear hy140
          by_cases c26 : (y140.length : Int) > 1
          · rw [if_pos c26] at H
            have c26b0 : decide (1 < (y140.length : Int)) = true := decide_eq_true c26
            have c26b1 : decide (1 < y140.length) = true := decide_eq_true (by omega)
            clear c26
            by_cases c27 : 0 < (a0.size : Int)
            · rw [if_pos c27] at H
              have c27b0 : decide (0 < (a0.size : Int)) = true := decide_eq_true c27
              have c27b1 : decide (0 < a0.size) = true := decide_eq_true (by omega)
              clear c27
              by_cases c29 : (bt a0 0) = a1
              · rw [if_pos c29] at H
                have c29b0 : ((bt a0 0) == a1) = true := beq_iff_eq.mpr c29
                have c29b1 : ((bt a0 0) != a1) = false := bne_eq_false_iff_eq.mpr c29
                clear c29
                by_cases c30 : 1 ≤ (y140.length : Int)
                · rw [if_pos c30] at H
                  have c30b0 := eq_true c30
                  have c30b1 : decide (1 ≤ (y140.length : Int)) = true := decide_eq_true c30
                  clear c30
                  obtain ⟨y143, hy143⟩ : ∃ y_ : List ByteArray, y_ = (y140.drop (1 : Int).toNat) := ⟨_, rfl⟩
                  replace H : (some y143) = some r := by first | (rw [hy143]; with_reducible exact H) | (have H2_ := (Option.bind_some _ _).symm.trans H; rw [hy143]; with_reducible exact H2_) | (have H2_ := (Option.bind_some _ _).symm.trans H; with_reducible exact H2_) | with_reducible exact H | (rw [hy143]; exact H) | exact H
                  have Ny143 := Aside0.mk hy143
                  clear hy143
                  obtain rfl := Option.some.inj H
                  have hcv31 := own_string (P := Try.prog) Try.underlying54 Try.underlying5 Try.underlying9 (Kd.own_of_R HO_6.out)
                  go_wp2_with (first | ((with_reducible refine gate_builtin (b := .append) (xs := #[.tmp 57, .tmp 60]) rfl ?_); (try (refine gate_guard (by rfl) ?_; dsimp only)); at_builtin; refine Kd.Q_append Kd.string (w0 := w) w.heap.size rfl (.tmp 57) (.tmp 60) 27 9 (.string ⟨#[]⟩) 16 rfl Try.underlying27 info9 rfl (by decide) (by omega) u5 x5_1 (strOfNums x6_1) [.string (strOfNums x6_1)] (fun _ => True) (fun _ => False) rfl rfl ?aP (fun _ hk => hk.elim) ?aF ?aO ?aB ?aS ?aL ?_; (case aP => exact rfl); (case aB => exact (by repeat (first | (with_reducible first | exact HB.out | apply below_alloc | apply pw_below_drewN | apply below_drew1) | exact HB.out))); (case aF => exact (fun _ _ => trivial)); (case aO => exact (by (with_reducible repeat (first | apply Kd.Q_alloc | apply Kd.Q_drewN | apply Kd.Q_drew)); exact HO_5.out)); (case aS => exact (below_size (by repeat (first | (with_reducible first | exact HB.out | apply below_alloc | apply pw_below_drewN | apply below_drew1) | exact HB.out)))); (case aL => have := LMc25.out; omega); intro v141 w32 ho hb hg hat; rw [← Ny140.out] at ho; have n0_ := Aside0.mk (Kd.R_over' (by (with_reducible repeat (first | apply Kd.R_alloc | apply Kd.R_drewN | apply Kd.R_drew)); exact HO_6.out) (Kd.Q_typed (by (with_reducible repeat (first | apply Kd.Q_alloc | apply Kd.Q_drewN | apply Kd.Q_drew)); exact HO_5.out)) (by decide) hg); have n1_ := Aside0.mk (hb); have n2_ := Aside0.mk (ho); clear HO_6; clear HB; clear HO_5; have HO_6 := n0_; have HB := n1_; have HO142 := n2_; clear n0_ n1_ n2_; clear ho hb hg hat; obtain ⟨Ao33, co33, eo33, _⟩ := Kd.Q_slice HO142.out; subst eo33; have p28 : 0 ≤ (0 : Int) := (by omega); have q28 : 0 < a0.size := (by have : (0 : Int) < (a0.size : Int) := of_decide_eq_true (by first | (with_reducible assumption) | assumption); omega); have hx28 : ∀ h : 0 < a0.size, ((a0[0]'h).toNat : Int) = bt a0 0 := bt_at a0 0; clear p28; have qi28 : (0 < (a0.size : Int)) = True := eq_true (of_decide_eq_true (by first | (with_reducible assumption) | assumption)); replace q28 := eq_true q28; have q34 : (1 : Int) ≤ ((y140.length : Int) : Int) := of_decide_eq_true (by first | (with_reducible assumption) | assumption); obtain ⟨i034, hi034, _, hsz34, _⟩ := info_parts info9; have hcut34 := cut_from (P := Try.prog) 27 9 .i64 Try.underlying27 hi034 1 hsz34 Ao33 y140.length co33 1 (by omega) q34; have hr34 := Kd.Q_drop (k := (1 : Int).toNat) HO142.out (by omega); obtain ⟨A34, hA34⟩ : ∃ A1, A1 = (if co33 = (1 : Int).toNat then Ao33 else (Ao33 : Option Addr).map (·.add ((1 : Int).toNat * 1))) := ⟨_, rfl⟩; obtain ⟨c34, hc34⟩ : ∃ c1, c1 = co33 - (1 : Int).toNat := ⟨_, rfl⟩; have hy34 : y143.length = y140.length - (1 : Int).toNat := (by rw [Ny143.out, List.length_drop]); rw [← Ny143.out] at hr34; rw [← hy34, ← hA34, ← hc34] at hcut34; replace hr34 : Kd.Q Kd.string 9 w32 w.heap.size (fun _ => True) (.slice A34 y143.length c34) y143 := (by rw [hA34, hc34, hy34]; exact hr34); have HE34 : Aside0 ((Value.slice A34 y143.length c34).ownBlock = (.slice Ao33 y140.length co33 : Value).ownBlock) := ⟨by rw [hA34]; split <;> (cases (Ao33 : Option Addr) <;> rfl)⟩; clear hy34 hi034 hsz34 HO142 hA34 hc34; have HO145 := Aside0.mk hr34; clear hr34; replace q34 := eq_true q34))
                  go_ret
                  exact ⟨_, by first | rfl | (simp [errW_none, errW_some] <;> rfl) | (simp [*, errW_none, errW_some] <;> rfl), by (with_reducible repeat (first | apply Kd.Q_alloc | apply Kd.Q_drewN | apply Kd.Q_drew)); exact HO145.out, by repeat (first | (with_reducible first | exact HB.out | apply below_alloc | apply pw_below_drewN | apply below_drew1) | exact HB.out)⟩
                · rw [if_neg c30] at H
                  exact absurd H (by simp)
              · rw [if_neg c29] at H
                have c29b0 : ((bt a0 0) == a1) = false := beq_eq_false_iff_ne.mpr c29
                have c29b1 : ((bt a0 0) != a1) = true := bne_iff_ne.mpr c29
                obtain rfl := Option.some.inj H
                have hcv35 := own_string (P := Try.prog) Try.underlying54 Try.underlying5 Try.underlying9 (Kd.own_of_R HO_6.out)
                go_wp2_with (first | ((with_reducible refine gate_builtin (b := .append) (xs := #[.tmp 57, .tmp 60]) rfl ?_); (try (refine gate_guard (by rfl) ?_; dsimp only)); at_builtin; refine Kd.Q_append Kd.string (w0 := w) w.heap.size rfl (.tmp 57) (.tmp 60) 27 9 (.string ⟨#[]⟩) 16 rfl Try.underlying27 info9 rfl (by decide) (by omega) u5 x5_1 (strOfNums x6_1) [.string (strOfNums x6_1)] (fun _ => True) (fun _ => False) rfl rfl ?aP (fun _ hk => hk.elim) ?aF ?aO ?aB ?aS ?aL ?_; (case aP => exact rfl); (case aB => exact (by repeat (first | (with_reducible first | exact HB.out | apply below_alloc | apply pw_below_drewN | apply below_drew1) | exact HB.out))); (case aF => exact (fun _ _ => trivial)); (case aO => exact (by (with_reducible repeat (first | apply Kd.Q_alloc | apply Kd.Q_drewN | apply Kd.Q_drew)); exact HO_5.out)); (case aS => exact (below_size (by repeat (first | (with_reducible first | exact HB.out | apply below_alloc | apply pw_below_drewN | apply below_drew1) | exact HB.out)))); (case aL => have := LMc25.out; omega); intro v141 w36 ho hb hg hat; rw [← Ny140.out] at ho; have n0_ := Aside0.mk (Kd.R_over' (by (with_reducible repeat (first | apply Kd.R_alloc | apply Kd.R_drewN | apply Kd.R_drew)); exact HO_6.out) (Kd.Q_typed (by (with_reducible repeat (first | apply Kd.Q_alloc | apply Kd.Q_drewN | apply Kd.Q_drew)); exact HO_5.out)) (by decide) hg); have n1_ := Aside0.mk (hb); have n2_ := Aside0.mk (ho); clear HO_6; clear HB; clear HO_5; have HO_6 := n0_; have HB := n1_; have HO142 := n2_; clear n0_ n1_ n2_; clear ho hb hg hat; obtain ⟨Ao37, co37, eo37, _⟩ := Kd.Q_slice HO142.out; subst eo37; have p28 : 0 ≤ (0 : Int) := (by omega); have q28 : 0 < a0.size := (by have : (0 : Int) < (a0.size : Int) := of_decide_eq_true (by first | (with_reducible assumption) | assumption); omega); have hx28 : ∀ h : 0 < a0.size, ((a0[0]'h).toNat : Int) = bt a0 0 := bt_at a0 0; clear p28; have qi28 : (0 < (a0.size : Int)) = True := eq_true (of_decide_eq_true (by first | (with_reducible assumption) | assumption)); replace q28 := eq_true q28))
                go_ret
                exact ⟨_, by first | rfl | (simp [errW_none, errW_some] <;> rfl) | (simp [*, errW_none, errW_some] <;> rfl), by (with_reducible repeat (first | apply Kd.Q_alloc | apply Kd.Q_drewN | apply Kd.Q_drew)); exact HO142.out, by repeat (first | (with_reducible first | exact HB.out | apply below_alloc | apply pw_below_drewN | apply below_drew1) | exact HB.out)⟩
            · rw [if_neg c27] at H
              exact absurd H (by simp)
          · rw [if_neg c26] at H
            have c26b0 : decide (1 < (y140.length : Int)) = false := decide_eq_false c26
            have c26b1 : decide (1 < y140.length) = false := decide_eq_false (by omega)
            clear c26
            obtain rfl := Option.some.inj H
            have hcv38 := own_string (P := Try.prog) Try.underlying54 Try.underlying5 Try.underlying9 (Kd.own_of_R HO_6.out)
            go_wp2_with (first | ((with_reducible refine gate_builtin (b := .append) (xs := #[.tmp 57, .tmp 60]) rfl ?_); (try (refine gate_guard (by rfl) ?_; dsimp only)); at_builtin; refine Kd.Q_append Kd.string (w0 := w) w.heap.size rfl (.tmp 57) (.tmp 60) 27 9 (.string ⟨#[]⟩) 16 rfl Try.underlying27 info9 rfl (by decide) (by omega) u5 x5_1 (strOfNums x6_1) [.string (strOfNums x6_1)] (fun _ => True) (fun _ => False) rfl rfl ?aP (fun _ hk => hk.elim) ?aF ?aO ?aB ?aS ?aL ?_; (case aP => exact rfl); (case aB => exact (by repeat (first | (with_reducible first | exact HB.out | apply below_alloc | apply pw_below_drewN | apply below_drew1) | exact HB.out))); (case aF => exact (fun _ _ => trivial)); (case aO => exact (by (with_reducible repeat (first | apply Kd.Q_alloc | apply Kd.Q_drewN | apply Kd.Q_drew)); exact HO_5.out)); (case aS => exact (below_size (by repeat (first | (with_reducible first | exact HB.out | apply below_alloc | apply pw_below_drewN | apply below_drew1) | exact HB.out)))); (case aL => have := LMc25.out; omega); intro v141 w39 ho hb hg hat; rw [← Ny140.out] at ho; have n0_ := Aside0.mk (Kd.R_over' (by (with_reducible repeat (first | apply Kd.R_alloc | apply Kd.R_drewN | apply Kd.R_drew)); exact HO_6.out) (Kd.Q_typed (by (with_reducible repeat (first | apply Kd.Q_alloc | apply Kd.Q_drewN | apply Kd.Q_drew)); exact HO_5.out)) (by decide) hg); have n1_ := Aside0.mk (hb); have n2_ := Aside0.mk (ho); clear HO_6; clear HB; clear HO_5; have HO_6 := n0_; have HB := n1_; have HO142 := n2_; clear n0_ n1_ n2_; clear ho hb hg hat; obtain ⟨Ao40, co40, eo40, _⟩ := Kd.Q_slice HO142.out; subst eo40))
            go_ret
            exact ⟨_, by first | rfl | (simp [errW_none, errW_some] <;> rfl) | (simp [*, errW_none, errW_some] <;> rfl), by (with_reducible repeat (first | apply Kd.Q_alloc | apply Kd.Q_drewN | apply Kd.Q_drew)); exact HO142.out, by repeat (first | (with_reducible first | exact HB.out | apply below_alloc | apply pw_below_drewN | apply below_drew1) | exact HB.out)⟩
        · rw [if_neg c25] at H
          exact absurd H (by simp)

/-! ### laws_FnPathSplit: function 5 -/
def laws_FnPathSplit.j0 : Nat → ByteArray → Int → Bool → Option (Bool)
  | 0, _, _, _ => none
  | k + 1, x0, x1, x22 => if x22 = true then (some true) else ((impl_SplitPath.f k x0 (Utf8.encode (wrap32 (x1)))).bind fun t155 => ((spec_Apart.f k x0 x1).bind fun t158 => ((laws_heSame.f k t155 t158).bind fun t161 => (some t161))))
def laws_FnPathSplit.f (k : Nat) (a0 : ByteArray) (a1 : Int) : Option (Bool) := if (a0.size : Int) > 2147483647 then (some true) else (if (a0.size : Int) > 200 then (laws_FnPathSplit.j0 k a0 a1 true) else (if a1 = 92 then (laws_FnPathSplit.j0 k a0 a1 true) else (if a1 = 0 then (laws_FnPathSplit.j0 k a0 a1 true) else (laws_FnPathSplit.j0 k a0 a1 (decide (a1 > 127))))))
theorem laws_FnPathSplit.mono_l : ∀ k, (∀ y0 y1 y2, LeO (laws_FnPathSplit.j0 k y0 y1 y2) (laws_FnPathSplit.j0 (k + 1) y0 y1 y2))
  | 0 => fun _ _ _ r h => by simp [laws_FnPathSplit.j0] at h
  | k + 1 => by
    have ih0 := laws_FnPathSplit.mono_l k
    · intro y0 y1 y2
      unfold laws_FnPathSplit.j0
      repeat' first
      | (with_reducible exact ih0 _ _ _)
      | (with_reducible exact impl_SplitPath.mono _ _ _)
      | (with_reducible exact laws_heSame.mono _ _ _)
      | (with_reducible exact spec_Apart.mono _ _ _)
      | (with_reducible exact LeO.refl _)
      | (with_reducible exact LeO.none _)
      | (with_reducible refine LeO.ite ?_ ?_)
      | (with_reducible refine LeO.bind ?_ (fun _ => ?_))
      | exact ih0 _ _ _
      | exact impl_SplitPath.mono _ _ _
      | exact laws_heSame.mono _ _ _
      | exact spec_Apart.mono _ _ _
      | exact LeO.none _
      | refine LeO.ite ?_ ?_
      | refine LeO.bind ?_ (fun _ => ?_)
theorem laws_FnPathSplit.mono : ∀ a0 a1 k, LeO (laws_FnPathSplit.f k a0 a1) (laws_FnPathSplit.f (k + 1) a0 a1) := by
  intro a0 a1 k
  have ih0 := laws_FnPathSplit.mono_l k
  unfold laws_FnPathSplit.f
  repeat' first
      | (with_reducible exact ih0 _ _ _)
      | (with_reducible exact impl_SplitPath.mono _ _ _)
      | (with_reducible exact laws_heSame.mono _ _ _)
      | (with_reducible exact spec_Apart.mono _ _ _)
      | (with_reducible exact LeO.refl _)
      | (with_reducible exact LeO.none _)
      | (with_reducible refine LeO.ite ?_ ?_)
      | (with_reducible refine LeO.bind ?_ (fun _ => ?_))
      | exact ih0 _ _ _
      | exact impl_SplitPath.mono _ _ _
      | exact laws_heSame.mono _ _ _
      | exact spec_Apart.mono _ _ _
      | exact LeO.none _
      | refine LeO.ite ?_ ?_
      | refine LeO.bind ?_ (fun _ => ?_)
set_option maxHeartbeats 8000000 in
set_option maxRecDepth 100000 in
theorem laws_FnPathSplit.calls (k : Nat) (a0 : ByteArray) (a1 : Int) (r : Bool) (w : World) (h : laws_FnPathSplit.f k a0 a1 = some r) :
    Calls Try.prog 5 #[.string a0, .int .u8 a1] w fun e w' => e = .returned (.bool r) ∧ Below w.heap.size w w' := by
  have HB := Aside0.mk (Below.refl w.heap.size w)
  have H : (if (a0.size : Int) > 2147483647 then (some true) else (if (a0.size : Int) > 200 then (laws_FnPathSplit.j0 k a0 a1 true) else (if a1 = 92 then (laws_FnPathSplit.j0 k a0 a1 true) else (if a1 = 0 then (laws_FnPathSplit.j0 k a0 a1 true) else (laws_FnPathSplit.j0 k a0 a1 (decide (a1 > 127))))))) = some r := h
  clear h
  by_cases c3 : (a0.size : Int) > 2147483647
  · rw [if_pos c3] at H
    have c3b0 : decide (2147483647 < (a0.size : Int)) = true := decide_eq_true c3
    have c3b1 : decide (2147483647 < a0.size) = true := decide_eq_true (by omega)
    clear c3
    obtain rfl := Option.some.inj H
    go_enter Try.func5, Try.ntmps5
    go_wp2
    go_ret
    exact ⟨by first | rfl | (simp [errW_none, errW_some] <;> rfl) | (simp [*, errW_none, errW_some] <;> rfl), by repeat (first | (with_reducible first | exact HB.out | apply below_alloc | apply pw_below_drewN | apply below_drew1) | exact HB.out)⟩
  · rw [if_neg c3] at H
    have c3b0 : decide (2147483647 < (a0.size : Int)) = false := decide_eq_false c3
    have c3b1 : decide (2147483647 < a0.size) = false := decide_eq_false (by omega)
    clear c3
    have HC4 := Aside0.mk H
    clear H
    go_enter Try.func5, Try.ntmps5
    go_upto_region 3 with (fail)
    go_cut [22] (fun v22 wc => ∃ (kq : Nat) (x22_3 : Bool), v22 = .bool x22_3 ∧ Aside0 (laws_FnPathSplit.j0 kq a0 a1 x22_3 = some r) ∧ Aside0 (kq ≤ k) ∧ Aside0 (Below w.heap.size w wc))
    case first =>
      have H := HC4.out
      clear HC4
      by_cases c5 : (a0.size : Int) > 200
      · rw [if_pos c5] at H
        have c5b0 : decide (200 < (a0.size : Int)) = true := decide_eq_true c5
        have c5b1 : decide (200 < a0.size) = true := decide_eq_true (by omega)
        clear c5
        (first | rw [c5b0] | (simp only [i64_w, i32_w]; rw [c5b0]) | skip)
        have H' := Aside0.mk H
        clear H
        go_wp2
        go_meet
        case rel => exact ⟨_, (true), (by first | rfl | (simp; done) | (simp [*]; done)), H', ⟨by first | omega | exact Nat.le_refl _⟩, ⟨by repeat (first | (with_reducible first | exact HB.out | apply below_alloc | apply pw_below_drewN | apply below_drew1) | exact HB.out)⟩⟩
      · rw [if_neg c5] at H
        have c5b0 : decide (200 < (a0.size : Int)) = false := decide_eq_false c5
        have c5b1 : decide (200 < a0.size) = false := decide_eq_false (by omega)
        clear c5
        (first | rw [c5b0] | (simp only [i64_w, i32_w]; rw [c5b0]) | skip)
        by_cases c6 : a1 = 92
        · rw [if_pos c6] at H
          have c6b0 : (a1 == 92) = true := beq_iff_eq.mpr c6
          have c6b1 : (a1 != 92) = false := bne_eq_false_iff_eq.mpr c6
          clear c6
          have H' := Aside0.mk H
          clear H
          go_wp2
          go_meet
          case rel => exact ⟨_, (true), (by first | rfl | (simp; done) | (simp [*]; done)), H', ⟨by first | omega | exact Nat.le_refl _⟩, ⟨by repeat (first | (with_reducible first | exact HB.out | apply below_alloc | apply pw_below_drewN | apply below_drew1) | exact HB.out)⟩⟩
        · rw [if_neg c6] at H
          have c6b0 : (a1 == 92) = false := beq_eq_false_iff_ne.mpr c6
          have c6b1 : (a1 != 92) = true := bne_iff_ne.mpr c6
          by_cases c7 : a1 = 0
          · rw [if_pos c7] at H
            have c7b0 : (a1 == 0) = true := beq_iff_eq.mpr c7
            have c7b1 : (a1 != 0) = false := bne_eq_false_iff_eq.mpr c7
            clear c7
            have H' := Aside0.mk H
            clear H
            go_wp2
            go_meet
            case rel => exact ⟨_, (true), (by first | rfl | (simp; done) | (simp [*]; done)), H', ⟨by first | omega | exact Nat.le_refl _⟩, ⟨by repeat (first | (with_reducible first | exact HB.out | apply below_alloc | apply pw_below_drewN | apply below_drew1) | exact HB.out)⟩⟩
          · rw [if_neg c7] at H
            have c7b0 : (a1 == 0) = false := beq_eq_false_iff_ne.mpr c7
            have c7b1 : (a1 != 0) = true := bne_iff_ne.mpr c7
            have H' := Aside0.mk H
            clear H
            go_wp2
            go_meet
            case rel => exact ⟨_, (decide (a1 > 127)), (by first | rfl | (simp; done) | (simp [*]; done)), H', ⟨by first | omega | exact Nat.le_refl _⟩, ⟨by repeat (first | (with_reducible first | exact HB.out | apply below_alloc | apply pw_below_drewN | apply below_drew1) | exact HB.out)⟩⟩
    case rest =>
      clear HC4
      try clear p2
      try clear c3
      try clear c3b0
      try clear c3b1
      try clear c5
      try clear c5b0
      try clear c5b1
      try clear c6
      try clear c6b0
      try clear c6b1
      try clear c7
      try clear c7b0
      try clear c7b1
      obtain ⟨kq, x22_3, rfl, HA, HJ3, HB⟩ := hcut
      cases kq with
      | zero => exact absurd HA.out (by simp [laws_FnPathSplit.j0])
      | succ kj3 =>
        have H := HA.out
        clear HA
        simp only [laws_FnPathSplit.j0] at H
        by_cases c8 : x22_3 = true
        · subst c8
          have H1 : (some true) = some r := by rw [if_pos rfl] at H; exact H
          clear H
          have H := H1
          clear H1
          obtain rfl := Option.some.inj H
          go_wp2
          go_ret
          exact ⟨by first | rfl | (simp [errW_none, errW_some] <;> rfl) | (simp [*, errW_none, errW_some] <;> rfl), by repeat (first | (with_reducible first | exact HB.out | apply below_alloc | apply pw_below_drewN | apply below_drew1) | exact HB.out)⟩
        · replace c8 := Bool.eq_false_iff.mpr c8
          subst c8
          have H1 : ((impl_SplitPath.f kj3 a0 (Utf8.encode (wrap32 (a1)))).bind fun t155 => ((spec_Apart.f kj3 a0 a1).bind fun t158 => ((laws_heSame.f kj3 t155 t158).bind fun t161 => (some t161)))) = some r := by rw [if_neg (show ¬ (false = true) by decide)] at H; exact H
          clear H
          have H := H1
          clear H1
          replace H := Option.bind_eq_some_iff.mp H
          obtain ⟨t155, A90, H⟩ := H
          replace H : ((spec_Apart.f kj3 a0 a1).bind fun t158 => ((laws_heSame.f kj3 t155 t158).bind fun t161 => (some t161))) = some r := H
          have A9 := Aside0.mk A90
          clear A90
          replace H := Option.bind_eq_some_iff.mp H
          obtain ⟨t158, A100, H⟩ := H
          replace H : ((laws_heSame.f kj3 t155 t158).bind fun t161 => (some t161)) = some r := H
          have A10 := Aside0.mk A100
          clear A100
          replace H := Option.bind_eq_some_iff.mp H
          obtain ⟨t161, A110, H⟩ := H
          replace H : (some t161) = some r := H
          have A11 := Aside0.mk A110
          clear A110
          obtain rfl := Option.some.inj H
          go_wp2_with (first | ((with_reducible refine gate_callee (f := 15) rfl ?_); refine goesL_ (some 27) rfl rfl Try.func15 (by kernel_rfl) rfl #[.string a0, .string (Utf8.encode (wrap32 (a1)))] rfl (by (try simp only [List.map_toArray, List.map_cons, List.map_nil]); first | done | rfl | (simp only [List.length_drop, List.length_take]; rfl)) ?_; (with_reducible refine (impl_SplitPath.calls kj3 a0 (Utf8.encode (wrap32 (a1))) t155 _ A9.out).mono ?_); rintro e w12 ⟨v156, rfl, ho0, hb⟩; refine ⟨_, rfl, ?_⟩; have n0_ := Aside0.mk (Kd.R_lower ho0 (below_size (by repeat (first | (with_reducible first | exact HB.out | apply below_alloc | apply pw_below_drewN | apply below_drew1) | exact HB.out)))); have n1_ := Aside0.mk (below_step (by repeat (first | (with_reducible first | exact HB.out | apply below_alloc | apply pw_below_drewN | apply below_drew1) | exact HB.out)) hb); clear HB; have HO157 := n0_; have HB := n1_; clear n0_ n1_; (try clear hb); (try clear hb2); (try clear hk); (try clear hi); (try clear ho0)) | ((with_reducible refine gate_callee (f := 16) rfl ?_); refine goesL_ (some 30) rfl rfl Try.func16 (by kernel_rfl) rfl #[.string a0, .int .u8 a1] rfl (by (try simp only [List.map_toArray, List.map_cons, List.map_nil]); first | done | rfl | (simp only [List.length_drop, List.length_take]; rfl)) ?_; (with_reducible refine (spec_Apart.calls kj3 a0 a1 t158 _ A10.out).mono ?_); rintro e w13 ⟨v159, rfl, ho0, hb⟩; refine ⟨_, rfl, ?_⟩; have n0_ := Aside0.mk (Kd.R_elder' (by (with_reducible repeat (first | apply Kd.R_alloc | apply Kd.R_drewN | apply Kd.R_drew)); exact HO157.out) (Kd.Q_base ho0) hb); have n1_ := Aside0.mk (Kd.Q_lower (Kd.Q_new' ho0 (Kd.R_lt (by (with_reducible repeat (first | apply Kd.R_alloc | apply Kd.R_drewN | apply Kd.R_drew)); exact HO157.out))) (below_size (by repeat (first | (with_reducible first | exact HB.out | apply below_alloc | apply pw_below_drewN | apply below_drew1) | exact HB.out)))); have n2_ := Aside0.mk (below_step (by repeat (first | (with_reducible first | exact HB.out | apply below_alloc | apply pw_below_drewN | apply below_drew1) | exact HB.out)) hb); clear HO157; clear HB; have HO157 := n0_; have HO160 := n1_; have HB := n2_; clear n0_ n1_ n2_; (try clear hb); (try clear hb2); (try clear hk); (try clear hi); (try clear ho0); obtain ⟨Ao14, co14, eo14⟩ := Kd.R_slice HO157.out; subst eo14; obtain ⟨Ao15, co15, eo15, _⟩ := Kd.Q_slice HO160.out; subst eo15) | ((with_reducible refine gate_callee (f := 14) rfl ?_); refine goesL_ (some 31) rfl rfl Try.func14 (by kernel_rfl) rfl #[.slice Ao14 t155.length co14, .slice Ao15 t158.length co15] rfl (by (try simp only [List.map_toArray, List.map_cons, List.map_nil]); first | done | rfl | (simp only [List.length_drop, List.length_take]; rfl)) ?_; (with_reducible refine (laws_heSame.calls kj3 _ _ t155 _ _ t158 t161 _ ?side1 ?side2 ?side3 ?side4 A11.out).mono ?_); (case side1 => repeat (first | exact (Kd.R_reads' HO157.out).2.2 | (with_reducible refine Kd.C_alloc ?_ _) | (with_reducible refine Kd.C_drewN ?_ _) | (with_reducible refine Kd.C_drew ?_))); (case side2 => exact (Kd.R_reads' HO157.out).2.1); (case side3 => repeat (first | exact (Kd.Q_reads' HO160.out).2.2 | (with_reducible refine Kd.C_alloc ?_ _) | (with_reducible refine Kd.C_drewN ?_ _) | (with_reducible refine Kd.C_drew ?_))); (case side4 => exact (Kd.Q_reads' HO160.out).2.1); rintro e w' ⟨rfl, ⟨nd, rfl⟩⟩; refine ⟨_, rfl, ?_⟩))
          go_ret
          exact ⟨by first | rfl | (simp [errW_none, errW_some] <;> rfl) | (simp [*, errW_none, errW_some] <;> rfl), by repeat (first | (with_reducible first | exact HB.out | apply below_alloc | apply pw_below_drewN | apply below_drew1) | exact HB.out)⟩

/-- THE ONE PURE STATEMENT of laws_FnPathSplit: yours. -/
def laws_FnPathSplit.Pure : Prop := ∀ (a0 : ByteArray) (a1 : Int), a0.size ≤ 140737488351232 → (Lit.int .u8 a1).wf = true → ∃ k, laws_FnPathSplit.f k a0 a1 = some true
theorem laws_FnPathSplit.walk (P : laws_FnPathSplit.Pure) (a0 : ByteArray) (a1 : Int) (w : World) (w0 : a0.size ≤ 140737488351232) (w1 : (Lit.int .u8 a1).wf = true) :
    Calls Try.prog 5 #[.string a0, .int .u8 a1] w fun e w' => e = .returned (.bool true) ∧ Below w.heap.size w w' := by
  obtain ⟨k, h⟩ := P a0 a1 w0 w1
  refine (laws_FnPathSplit.calls k a0 a1 true w h).mono ?_
  rintro e w' ⟨rfl, hd⟩
  exact ⟨rfl, hd⟩

end Go.Proofs.Ytdomnigegpigiab.PFnPathSplit

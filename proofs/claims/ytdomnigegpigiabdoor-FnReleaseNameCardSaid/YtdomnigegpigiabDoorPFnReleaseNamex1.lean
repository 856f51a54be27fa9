-- printed by a program of this session: the print, turned for a few more operations
import Derived.Test.YtdomnigegpigiabDoorPFnReleaseNamex0
import Derived.Test.YtdomnigegpigiabDoorHRel
namespace Go.Proofs.YtdomnigegpigiabDoor.PFnReleaseName
open Go.RowKit Go.Proofs.YtdomnigegpigiabDoorW.PrintWords Go.Proofs.YtdomnigegpigiabDoorW.PrintLast Go.Proofs.YtdomnigegpigiabDoorW.PrintMore
attribute [local go_sem] max2_int min2_int max_two min_two max_three min_three max_four min_four   -- for this text's walks alone
set_option linter.unusedVariables false
set_option linter.unusedSimpArgs false

-- function 5 (impl_ReleaseName): ours, in YtdomnigegpigiabDoorHRel

/-! ### spec_Label: function 12 -/
def spec_Label.l0 : Nat → ByteArray → Int → Int → Option (Bool)
  | 0, _, _, _ => none
  | k + 1, x0, x6, x7 => if x7 < x6 then (if 0 ≤ x7 then (if x7 < (x0.size : Int) then (if (bt x0 x7) ≥ 97 then (if (bt x0 x7) ≤ 122 then (spec_Label.l0 k x0 x6 (wrap64 (x7 + 1))) else (if (bt x0 x7) ≥ 48 then (if (bt x0 x7) ≤ 57 then (spec_Label.l0 k x0 x6 (wrap64 (x7 + 1))) else (if (bt x0 x7) = 45 then (if x7 > 0 then (if ((wrap64 (x7 + 1)) < (x0.size : Int)) then (spec_Label.l0 k x0 x6 (wrap64 (x7 + 1))) else (some false)) else (some false)) else (some false))) else (if (bt x0 x7) = 45 then (if x7 > 0 then (if ((wrap64 (x7 + 1)) < (x0.size : Int)) then (spec_Label.l0 k x0 x6 (wrap64 (x7 + 1))) else (some false)) else (some false)) else (some false)))) else (if (bt x0 x7) ≥ 48 then (if (bt x0 x7) ≤ 57 then (spec_Label.l0 k x0 x6 (wrap64 (x7 + 1))) else (if (bt x0 x7) = 45 then (if x7 > 0 then (if ((wrap64 (x7 + 1)) < (x0.size : Int)) then (spec_Label.l0 k x0 x6 (wrap64 (x7 + 1))) else (some false)) else (some false)) else (some false))) else (if (bt x0 x7) = 45 then (if x7 > 0 then (if ((wrap64 (x7 + 1)) < (x0.size : Int)) then (spec_Label.l0 k x0 x6 (wrap64 (x7 + 1))) else (some false)) else (some false)) else (some false)))) else (none)) else (none)) else (some (x0.toList != ([] : List UInt8)))
def spec_Label.f (k : Nat) (a0 : ByteArray) : Option (Bool) := spec_Label.l0 k a0 (a0.size : Int) 0
theorem spec_Label.mono_l : ∀ k, (∀ y0 y1 y2, LeO (spec_Label.l0 k y0 y1 y2) (spec_Label.l0 (k + 1) y0 y1 y2))
  | 0 => fun _ _ _ r h => by simp [spec_Label.l0] at h
  | k + 1 => by
    have ih0 := spec_Label.mono_l k
    · intro y0 y1 y2
      unfold spec_Label.l0
      repeat' first
      | (with_reducible exact ih0 _ _ _)
      | (with_reducible exact LeO.refl _)
      | (with_reducible exact LeO.none _)
      | (with_reducible refine LeO.ite ?_ ?_)
      | (with_reducible refine LeO.bind ?_ (fun _ => ?_))
      | exact ih0 _ _ _
      | exact LeO.none _
      | refine LeO.ite ?_ ?_
      | refine LeO.bind ?_ (fun _ => ?_)
theorem spec_Label.mono : ∀ a0 k, LeO (spec_Label.f k a0) (spec_Label.f (k + 1) a0) := by
  intro a0 k
  have ih0 := spec_Label.mono_l k
  unfold spec_Label.f
  repeat' first
      | (with_reducible exact ih0 _ _ _)
      | (with_reducible exact LeO.refl _)
      | (with_reducible exact LeO.none _)
      | (with_reducible refine LeO.ite ?_ ?_)
      | (with_reducible refine LeO.bind ?_ (fun _ => ?_))
      | exact ih0 _ _ _
      | exact LeO.none _
      | refine LeO.ite ?_ ?_
      | refine LeO.bind ?_ (fun _ => ?_)
set_option maxHeartbeats 8000000 in
set_option maxRecDepth 100000 in
theorem spec_Label.calls (k : Nat) (a0 : ByteArray) (r : Bool) (w : World) (h : spec_Label.f k a0 = some r) :
    Calls Tryd.prog 12 #[.string a0] w fun e w' => e = .returned (.bool r) ∧ Drawn0 w w' := by
  have H : (spec_Label.l0 k a0 (a0.size : Int) 0) = some r := h
  clear h
  have H' := Aside0.mk H
  clear H
  go_enter Tryd.func12, Tryd.ntmps12
  go_wp2
  go_loopg [7] k (fun kq v7 w' => ∃ (x7_1 : Int), v7 = .int .i64 x7_1 ∧ Aside0 (spec_Label.l0 kq a0 (a0.size : Int) x7_1 = some r) ∧ Aside0 (kq ≤ k) ∧ Drawn0 w w')
  case atStart => exact ⟨(0), (by first | rfl | (simp; done) | (simp [*]; done) | (simp; generalize ByteArray.toList a0 = l_; cases l_ <;> simp)), H', ⟨Nat.le_refl _⟩, by repeat (first | exact Drawn0.refl _ | apply Drawn0.step)⟩
  case round =>
    clear H'
    try clear c1
    obtain ⟨x7_1, rfl, HA, HK1, ⟨m1, rfl⟩⟩ := hrel
    cases gk with
    | zero => exact absurd HA.out (by simp [spec_Label.l0])
    | succ k1 =>
      have H := HA.out
      clear HA
      simp only [spec_Label.l0] at H
      by_cases c2 : x7_1 < (a0.size : Int)
      · rw [if_pos c2] at H
        have c2b0 : decide (x7_1 < (a0.size : Int)) = true := decide_eq_true c2
        clear c2
        by_cases c3 : 0 ≤ x7_1
        · rw [if_pos c3] at H
          have c3b0 : decide (0 ≤ x7_1) = true := decide_eq_true c3
          clear c3
          by_cases c4 : x7_1 < (a0.size : Int)
          · rw [if_pos c4] at H
            have c4b0 : decide (x7_1 < (a0.size : Int)) = true := decide_eq_true c4
            clear c4
            by_cases c6 : (bt a0 x7_1) ≥ 97
            · rw [if_pos c6] at H
              have c6b0 : decide (97 ≤ (bt a0 x7_1)) = true := decide_eq_true c6
              clear c6
              by_cases c7 : (bt a0 x7_1) ≤ 122
              · rw [if_pos c7] at H
                have c7b0 : decide ((bt a0 x7_1) ≤ 122) = true := decide_eq_true c7
                clear c7
                have H' := Aside0.mk H
                clear H
                have p5 : 0 ≤ (x7_1 : Int) := of_decide_eq_true (by first | (with_reducible assumption) | assumption)
                have q5 : x7_1 < (a0.size : Int) := of_decide_eq_true (by first | (with_reducible assumption) | assumption)
                have hx5 := bt_at a0 x7_1
                replace p5 := eq_true p5
                replace q5 := eq_true q5
                go_wp2
                go_roundg k1
                case measure => have := HK1.out; omega
                case rel => exact ⟨(wrap64 (x7_1 + 1)), (by first | rfl | (simp; done) | (simp [*]; done) | (simp; generalize ByteArray.toList a0 = l_; cases l_ <;> simp)), H', ⟨by have := HK1.out; omega⟩, by repeat (first | exact Drawn0.refl _ | apply Drawn0.step)⟩
              · rw [if_neg c7] at H
                have c7b0 : decide ((bt a0 x7_1) ≤ 122) = false := decide_eq_false c7
                clear c7
                by_cases c8 : (bt a0 x7_1) ≥ 48
                · rw [if_pos c8] at H
                  have c8b0 : decide (48 ≤ (bt a0 x7_1)) = true := decide_eq_true c8
                  clear c8
                  by_cases c9 : (bt a0 x7_1) ≤ 57
                  · rw [if_pos c9] at H
                    have c9b0 : decide ((bt a0 x7_1) ≤ 57) = true := decide_eq_true c9
                    clear c9
                    have H' := Aside0.mk H
                    clear H
                    have p5 : 0 ≤ (x7_1 : Int) := of_decide_eq_true (by first | (with_reducible assumption) | assumption)
                    have q5 : x7_1 < (a0.size : Int) := of_decide_eq_true (by first | (with_reducible assumption) | assumption)
                    have hx5 := bt_at a0 x7_1
                    replace p5 := eq_true p5
                    replace q5 := eq_true q5
                    go_wp2
                    go_roundg k1
                    case measure => have := HK1.out; omega
                    case rel => exact ⟨(wrap64 (x7_1 + 1)), (by first | rfl | (simp; done) | (simp [*]; done) | (simp; generalize ByteArray.toList a0 = l_; cases l_ <;> simp)), H', ⟨by have := HK1.out; omega⟩, by repeat (first | exact Drawn0.refl _ | apply Drawn0.step)⟩
                  · rw [if_neg c9] at H
                    have c9b0 : decide ((bt a0 x7_1) ≤ 57) = false := decide_eq_false c9
                    clear c9
                    by_cases c10 : (bt a0 x7_1) = 45
                    · rw [if_pos c10] at H
                      have c10b0 : ((bt a0 x7_1) == 45) = true := beq_iff_eq.mpr c10
                      have c10b1 : ((bt a0 x7_1) != 45) = false := bne_eq_false_iff_eq.mpr c10
                      clear c10
                      by_cases c11 : x7_1 > 0
                      · rw [if_pos c11] at H
                        have c11b0 : decide (0 < x7_1) = true := decide_eq_true c11
                        clear c11
                        by_cases c12 : ((wrap64 (x7_1 + 1)) < (a0.size : Int))
                        · rw [if_pos c12] at H
                          have c12b0 : decide ((wrap64 (x7_1 + 1)) < (a0.size : Int)) = true := decide_eq_true c12
                          clear c12
                          have H' := Aside0.mk H
                          clear H
                          have p5 : 0 ≤ (x7_1 : Int) := of_decide_eq_true (by first | (with_reducible assumption) | assumption)
                          have q5 : x7_1 < (a0.size : Int) := of_decide_eq_true (by first | (with_reducible assumption) | assumption)
                          have hx5 := bt_at a0 x7_1
                          replace p5 := eq_true p5
                          replace q5 := eq_true q5
                          go_wp2
                          go_roundg k1
                          case measure => have := HK1.out; omega
                          case rel => exact ⟨(wrap64 (x7_1 + 1)), (by first | rfl | (simp; done) | (simp [*]; done) | (simp; generalize ByteArray.toList a0 = l_; cases l_ <;> simp)), H', ⟨by have := HK1.out; omega⟩, by repeat (first | exact Drawn0.refl _ | apply Drawn0.step)⟩
                        · rw [if_neg c12] at H
                          have c12b0 : decide ((wrap64 (x7_1 + 1)) < (a0.size : Int)) = false := decide_eq_false c12
                          clear c12
                          obtain rfl := Option.some.inj H
                          have p5 : 0 ≤ (x7_1 : Int) := of_decide_eq_true (by first | (with_reducible assumption) | assumption)
                          have q5 : x7_1 < (a0.size : Int) := of_decide_eq_true (by first | (with_reducible assumption) | assumption)
                          have hx5 := bt_at a0 x7_1
                          replace p5 := eq_true p5
                          replace q5 := eq_true q5
                          go_wp2
                          go_ret
                          exact ⟨by first | rfl | (simp; done) | (simp [*]; done) | (simp; generalize ByteArray.toList a0 = l_; cases l_ <;> simp), by repeat (first | exact Drawn0.refl _ | apply Drawn0.step)⟩
                      · rw [if_neg c11] at H
                        have c11b0 : decide (0 < x7_1) = false := decide_eq_false c11
                        clear c11
                        obtain rfl := Option.some.inj H
                        have p5 : 0 ≤ (x7_1 : Int) := of_decide_eq_true (by first | (with_reducible assumption) | assumption)
                        have q5 : x7_1 < (a0.size : Int) := of_decide_eq_true (by first | (with_reducible assumption) | assumption)
                        have hx5 := bt_at a0 x7_1
                        replace p5 := eq_true p5
                        replace q5 := eq_true q5
                        go_wp2
                        go_ret
                        exact ⟨by first | rfl | (simp; done) | (simp [*]; done) | (simp; generalize ByteArray.toList a0 = l_; cases l_ <;> simp), by repeat (first | exact Drawn0.refl _ | apply Drawn0.step)⟩
                    · rw [if_neg c10] at H
                      have c10b0 : ((bt a0 x7_1) == 45) = false := beq_eq_false_iff_ne.mpr c10
                      have c10b1 : ((bt a0 x7_1) != 45) = true := bne_iff_ne.mpr c10
                      obtain rfl := Option.some.inj H
                      have p5 : 0 ≤ (x7_1 : Int) := of_decide_eq_true (by first | (with_reducible assumption) | assumption)
                      have q5 : x7_1 < (a0.size : Int) := of_decide_eq_true (by first | (with_reducible assumption) | assumption)
                      have hx5 := bt_at a0 x7_1
                      replace p5 := eq_true p5
                      replace q5 := eq_true q5
                      go_wp2
                      go_ret
                      exact ⟨by first | rfl | (simp; done) | (simp [*]; done) | (simp; generalize ByteArray.toList a0 = l_; cases l_ <;> simp), by repeat (first | exact Drawn0.refl _ | apply Drawn0.step)⟩
                · rw [if_neg c8] at H
                  have c8b0 : decide (48 ≤ (bt a0 x7_1)) = false := decide_eq_false c8
                  clear c8
                  by_cases c13 : (bt a0 x7_1) = 45
                  · rw [if_pos c13] at H
                    have c13b0 : ((bt a0 x7_1) == 45) = true := beq_iff_eq.mpr c13
                    have c13b1 : ((bt a0 x7_1) != 45) = false := bne_eq_false_iff_eq.mpr c13
                    clear c13
                    by_cases c14 : x7_1 > 0
                    · rw [if_pos c14] at H
                      have c14b0 : decide (0 < x7_1) = true := decide_eq_true c14
                      clear c14
                      by_cases c15 : ((wrap64 (x7_1 + 1)) < (a0.size : Int))
                      · rw [if_pos c15] at H
                        have c15b0 : decide ((wrap64 (x7_1 + 1)) < (a0.size : Int)) = true := decide_eq_true c15
                        clear c15
                        have H' := Aside0.mk H
                        clear H
                        have p5 : 0 ≤ (x7_1 : Int) := of_decide_eq_true (by first | (with_reducible assumption) | assumption)
                        have q5 : x7_1 < (a0.size : Int) := of_decide_eq_true (by first | (with_reducible assumption) | assumption)
                        have hx5 := bt_at a0 x7_1
                        replace p5 := eq_true p5
                        replace q5 := eq_true q5
                        go_wp2
                        go_roundg k1
                        case measure => have := HK1.out; omega
                        case rel => exact ⟨(wrap64 (x7_1 + 1)), (by first | rfl | (simp; done) | (simp [*]; done) | (simp; generalize ByteArray.toList a0 = l_; cases l_ <;> simp)), H', ⟨by have := HK1.out; omega⟩, by repeat (first | exact Drawn0.refl _ | apply Drawn0.step)⟩
                      · rw [if_neg c15] at H
                        have c15b0 : decide ((wrap64 (x7_1 + 1)) < (a0.size : Int)) = false := decide_eq_false c15
                        clear c15
                        obtain rfl := Option.some.inj H
                        have p5 : 0 ≤ (x7_1 : Int) := of_decide_eq_true (by first | (with_reducible assumption) | assumption)
                        have q5 : x7_1 < (a0.size : Int) := of_decide_eq_true (by first | (with_reducible assumption) | assumption)
                        have hx5 := bt_at a0 x7_1
                        replace p5 := eq_true p5
                        replace q5 := eq_true q5
                        go_wp2
                        go_ret
                        exact ⟨by first | rfl | (simp; done) | (simp [*]; done) | (simp; generalize ByteArray.toList a0 = l_; cases l_ <;> simp), by repeat (first | exact Drawn0.refl _ | apply Drawn0.step)⟩
                    · rw [if_neg c14] at H
                      have c14b0 : decide (0 < x7_1) = false := decide_eq_false c14
                      clear c14
                      obtain rfl := Option.some.inj H
                      have p5 : 0 ≤ (x7_1 : Int) := of_decide_eq_true (by first | (with_reducible assumption) | assumption)
                      have q5 : x7_1 < (a0.size : Int) := of_decide_eq_true (by first | (with_reducible assumption) | assumption)
                      have hx5 := bt_at a0 x7_1
                      replace p5 := eq_true p5
                      replace q5 := eq_true q5
                      go_wp2
                      go_ret
                      exact ⟨by first | rfl | (simp; done) | (simp [*]; done) | (simp; generalize ByteArray.toList a0 = l_; cases l_ <;> simp), by repeat (first | exact Drawn0.refl _ | apply Drawn0.step)⟩
                  · rw [if_neg c13] at H
                    have c13b0 : ((bt a0 x7_1) == 45) = false := beq_eq_false_iff_ne.mpr c13
                    have c13b1 : ((bt a0 x7_1) != 45) = true := bne_iff_ne.mpr c13
                    obtain rfl := Option.some.inj H
                    have p5 : 0 ≤ (x7_1 : Int) := of_decide_eq_true (by first | (with_reducible assumption) | assumption)
                    have q5 : x7_1 < (a0.size : Int) := of_decide_eq_true (by first | (with_reducible assumption) | assumption)
                    have hx5 := bt_at a0 x7_1
                    replace p5 := eq_true p5
                    replace q5 := eq_true q5
                    go_wp2
                    go_ret
                    exact ⟨by first | rfl | (simp; done) | (simp [*]; done) | (simp; generalize ByteArray.toList a0 = l_; cases l_ <;> simp), by repeat (first | exact Drawn0.refl _ | apply Drawn0.step)⟩
            · rw [if_neg c6] at H
              have c6b0 : decide (97 ≤ (bt a0 x7_1)) = false := decide_eq_false c6
              clear c6
              by_cases c16 : (bt a0 x7_1) ≥ 48
              · rw [if_pos c16] at H
                have c16b0 : decide (48 ≤ (bt a0 x7_1)) = true := decide_eq_true c16
                clear c16
                by_cases c17 : (bt a0 x7_1) ≤ 57
                · rw [if_pos c17] at H
                  have c17b0 : decide ((bt a0 x7_1) ≤ 57) = true := decide_eq_true c17
                  clear c17
                  have H' := Aside0.mk H
                  clear H
                  have p5 : 0 ≤ (x7_1 : Int) := of_decide_eq_true (by first | (with_reducible assumption) | assumption)
                  have q5 : x7_1 < (a0.size : Int) := of_decide_eq_true (by first | (with_reducible assumption) | assumption)
                  have hx5 := bt_at a0 x7_1
                  replace p5 := eq_true p5
                  replace q5 := eq_true q5
                  go_wp2
                  go_roundg k1
                  case measure => have := HK1.out; omega
                  case rel => exact ⟨(wrap64 (x7_1 + 1)), (by first | rfl | (simp; done) | (simp [*]; done) | (simp; generalize ByteArray.toList a0 = l_; cases l_ <;> simp)), H', ⟨by have := HK1.out; omega⟩, by repeat (first | exact Drawn0.refl _ | apply Drawn0.step)⟩
                · rw [if_neg c17] at H
                  have c17b0 : decide ((bt a0 x7_1) ≤ 57) = false := decide_eq_false c17
                  clear c17
                  by_cases c18 : (bt a0 x7_1) = 45
                  · rw [if_pos c18] at H
                    have c18b0 : ((bt a0 x7_1) == 45) = true := beq_iff_eq.mpr c18
                    have c18b1 : ((bt a0 x7_1) != 45) = false := bne_eq_false_iff_eq.mpr c18
                    clear c18
                    by_cases c19 : x7_1 > 0
                    · rw [if_pos c19] at H
                      have c19b0 : decide (0 < x7_1) = true := decide_eq_true c19
                      clear c19
                      by_cases c20 : ((wrap64 (x7_1 + 1)) < (a0.size : Int))
                      · rw [if_pos c20] at H
                        have c20b0 : decide ((wrap64 (x7_1 + 1)) < (a0.size : Int)) = true := decide_eq_true c20
                        clear c20
                        have H' := Aside0.mk H
                        clear H
                        have p5 : 0 ≤ (x7_1 : Int) := of_decide_eq_true (by first | (with_reducible assumption) | assumption)
                        have q5 : x7_1 < (a0.size : Int) := of_decide_eq_true (by first | (with_reducible assumption) | assumption)
                        have hx5 := bt_at a0 x7_1
                        replace p5 := eq_true p5
                        replace q5 := eq_true q5
                        go_wp2
                        go_roundg k1
                        case measure => have := HK1.out; omega
                        case rel => exact ⟨(wrap64 (x7_1 + 1)), (by first | rfl | (simp; done) | (simp [*]; done) | (simp; generalize ByteArray.toList a0 = l_; cases l_ <;> simp)), H', ⟨by have := HK1.out; omega⟩, by repeat (first | exact Drawn0.refl _ | apply Drawn0.step)⟩
                      · rw [if_neg c20] at H
                        have c20b0 : decide ((wrap64 (x7_1 + 1)) < (a0.size : Int)) = false := decide_eq_false c20
                        clear c20
                        obtain rfl := Option.some.inj H
                        have p5 : 0 ≤ (x7_1 : Int) := of_decide_eq_true (by first | (with_reducible assumption) | assumption)
                        have q5 : x7_1 < (a0.size : Int) := of_decide_eq_true (by first | (with_reducible assumption) | assumption)
                        have hx5 := bt_at a0 x7_1
                        replace p5 := eq_true p5
                        replace q5 := eq_true q5
                        go_wp2
                        go_ret
                        exact ⟨by first | rfl | (simp; done) | (simp [*]; done) | (simp; generalize ByteArray.toList a0 = l_; cases l_ <;> simp), by repeat (first | exact Drawn0.refl _ | apply Drawn0.step)⟩
                    · rw [if_neg c19] at H
                      have c19b0 : decide (0 < x7_1) = false := decide_eq_false c19
                      clear c19
                      obtain rfl := Option.some.inj H
                      have p5 : 0 ≤ (x7_1 : Int) := of_decide_eq_true (by first | (with_reducible assumption) | assumption)
                      have q5 : x7_1 < (a0.size : Int) := of_decide_eq_true (by first | (with_reducible assumption) | assumption)
                      have hx5 := bt_at a0 x7_1
                      replace p5 := eq_true p5
                      replace q5 := eq_true q5
                      go_wp2
                      go_ret
                      exact ⟨by first | rfl | (simp; done) | (simp [*]; done) | (simp; generalize ByteArray.toList a0 = l_; cases l_ <;> simp), by repeat (first | exact Drawn0.refl _ | apply Drawn0.step)⟩
                  · rw [if_neg c18] at H
                    have c18b0 : ((bt a0 x7_1) == 45) = false := beq_eq_false_iff_ne.mpr c18
                    have c18b1 : ((bt a0 x7_1) != 45) = true := bne_iff_ne.mpr c18
                    obtain rfl := Option.some.inj H
                    have p5 : 0 ≤ (x7_1 : Int) := of_decide_eq_true (by first | (with_reducible assumption) | assumption)
                    have q5 : x7_1 < (a0.size : Int) := of_decide_eq_true (by first | (with_reducible assumption) | assumption)
                    have hx5 := bt_at a0 x7_1
                    replace p5 := eq_true p5
                    replace q5 := eq_true q5
                    go_wp2
                    go_ret
                    exact ⟨by first | rfl | (simp; done) | (simp [*]; done) | (simp; generalize ByteArray.toList a0 = l_; cases l_ <;> simp), by repeat (first | exact Drawn0.refl _ | apply Drawn0.step)⟩
              · rw [if_neg c16] at H
                have c16b0 : decide (48 ≤ (bt a0 x7_1)) = false := decide_eq_false c16
                clear c16
                by_cases c21 : (bt a0 x7_1) = 45
                · rw [if_pos c21] at H
                  have c21b0 : ((bt a0 x7_1) == 45) = true := beq_iff_eq.mpr c21
                  have c21b1 : ((bt a0 x7_1) != 45) = false := bne_eq_false_iff_eq.mpr c21
                  clear c21
                  by_cases c22 : x7_1 > 0
                  · rw [if_pos c22] at H
                    have c22b0 : decide (0 < x7_1) = true := decide_eq_true c22
                    clear c22
                    by_cases c23 : ((wrap64 (x7_1 + 1)) < (a0.size : Int))
                    · rw [if_pos c23] at H
                      have c23b0 : decide ((wrap64 (x7_1 + 1)) < (a0.size : Int)) = true := decide_eq_true c23
                      clear c23
                      have H' := Aside0.mk H
                      clear H
                      have p5 : 0 ≤ (x7_1 : Int) := of_decide_eq_true (by first | (with_reducible assumption) | assumption)
                      have q5 : x7_1 < (a0.size : Int) := of_decide_eq_true (by first | (with_reducible assumption) | assumption)
                      have hx5 := bt_at a0 x7_1
                      replace p5 := eq_true p5
                      replace q5 := eq_true q5
                      go_wp2
                      go_roundg k1
                      case measure => have := HK1.out; omega
                      case rel => exact ⟨(wrap64 (x7_1 + 1)), (by first | rfl | (simp; done) | (simp [*]; done) | (simp; generalize ByteArray.toList a0 = l_; cases l_ <;> simp)), H', ⟨by have := HK1.out; omega⟩, by repeat (first | exact Drawn0.refl _ | apply Drawn0.step)⟩
                    · rw [if_neg c23] at H
                      have c23b0 : decide ((wrap64 (x7_1 + 1)) < (a0.size : Int)) = false := decide_eq_false c23
                      clear c23
                      obtain rfl := Option.some.inj H
                      have p5 : 0 ≤ (x7_1 : Int) := of_decide_eq_true (by first | (with_reducible assumption) | assumption)
                      have q5 : x7_1 < (a0.size : Int) := of_decide_eq_true (by first | (with_reducible assumption) | assumption)
                      have hx5 := bt_at a0 x7_1
                      replace p5 := eq_true p5
                      replace q5 := eq_true q5
                      go_wp2
                      go_ret
                      exact ⟨by first | rfl | (simp; done) | (simp [*]; done) | (simp; generalize ByteArray.toList a0 = l_; cases l_ <;> simp), by repeat (first | exact Drawn0.refl _ | apply Drawn0.step)⟩
                  · rw [if_neg c22] at H
                    have c22b0 : decide (0 < x7_1) = false := decide_eq_false c22
                    clear c22
                    obtain rfl := Option.some.inj H
                    have p5 : 0 ≤ (x7_1 : Int) := of_decide_eq_true (by first | (with_reducible assumption) | assumption)
                    have q5 : x7_1 < (a0.size : Int) := of_decide_eq_true (by first | (with_reducible assumption) | assumption)
                    have hx5 := bt_at a0 x7_1
                    replace p5 := eq_true p5
                    replace q5 := eq_true q5
                    go_wp2
                    go_ret
                    exact ⟨by first | rfl | (simp; done) | (simp [*]; done) | (simp; generalize ByteArray.toList a0 = l_; cases l_ <;> simp), by repeat (first | exact Drawn0.refl _ | apply Drawn0.step)⟩
                · rw [if_neg c21] at H
                  have c21b0 : ((bt a0 x7_1) == 45) = false := beq_eq_false_iff_ne.mpr c21
                  have c21b1 : ((bt a0 x7_1) != 45) = true := bne_iff_ne.mpr c21
                  obtain rfl := Option.some.inj H
                  have p5 : 0 ≤ (x7_1 : Int) := of_decide_eq_true (by first | (with_reducible assumption) | assumption)
                  have q5 : x7_1 < (a0.size : Int) := of_decide_eq_true (by first | (with_reducible assumption) | assumption)
                  have hx5 := bt_at a0 x7_1
                  replace p5 := eq_true p5
                  replace q5 := eq_true q5
                  go_wp2
                  go_ret
                  exact ⟨by first | rfl | (simp; done) | (simp [*]; done) | (simp; generalize ByteArray.toList a0 = l_; cases l_ <;> simp), by repeat (first | exact Drawn0.refl _ | apply Drawn0.step)⟩
          · rw [if_neg c4] at H
            exact absurd H (by simp)
        · rw [if_neg c3] at H
          exact absurd H (by simp)
      · rw [if_neg c2] at H
        have c2b0 : decide (x7_1 < (a0.size : Int)) = false := decide_eq_false c2
        clear c2
        obtain rfl := Option.some.inj H
        go_wp2
        go_ret
        exact ⟨by first | rfl | (simp; done) | (simp [*]; done) | (simp; generalize ByteArray.toList a0 = l_; cases l_ <;> simp), by repeat (first | exact Drawn0.refl _ | apply Drawn0.step)⟩

/-! ### spec_Metadata: function 6 -/
mutual
def spec_Metadata.l0 : Nat → ByteArray → Int → Int → Option (Bool)
  | 0, _, _, _ => none
  | k + 1, x0, x3, x4 => if x4 ≤ (x0.size : Int) then (if x4 = (x0.size : Int) then (spec_Metadata.j1 k x0 x3 x4 true) else (if 0 ≤ x4 then (if x4 < (x0.size : Int) then (spec_Metadata.j1 k x0 x3 x4 ((bt x0 x4) == 46)) else (none)) else (none))) else (some true)
def spec_Metadata.j1 : Nat → ByteArray → Int → Int → Bool → Option (Bool)
  | 0, _, _, _, _ => none
  | k + 1, x0, x3, x4, x20 => if x20 = true then (if 0 ≤ x3 then (if x3 ≤ x4 then (if x4 ≤ (x0.size : Int) then ((spec_Label.f k (x0.extract (x3 : Int).toNat (x4 : Int).toNat)).bind fun t101 => (if t101 = true then (spec_Metadata.l0 k x0 (wrap64 (x4 + 1)) (wrap64 (x4 + 1))) else (some false))) else (none)) else (none)) else (none)) else (spec_Metadata.l0 k x0 x3 (wrap64 (x4 + 1)))
end
def spec_Metadata.f (k : Nat) (a0 : ByteArray) : Option (Bool) := spec_Metadata.l0 k a0 0 0
theorem spec_Metadata.mono_l : ∀ k, (∀ y0 y1 y2, LeO (spec_Metadata.l0 k y0 y1 y2) (spec_Metadata.l0 (k + 1) y0 y1 y2)) ∧ (∀ y0 y1 y2 y3, LeO (spec_Metadata.j1 k y0 y1 y2 y3) (spec_Metadata.j1 (k + 1) y0 y1 y2 y3))
  | 0 => ⟨fun _ _ _ r h => by simp [spec_Metadata.l0] at h, fun _ _ _ _ r h => by simp [spec_Metadata.j1] at h⟩
  | k + 1 => by
    obtain ⟨ih0, ih1⟩ := spec_Metadata.mono_l k
    refine ⟨?_, ?_⟩
    · intro y0 y1 y2
      unfold spec_Metadata.l0
      repeat' first
      | (with_reducible exact ih0 _ _ _)
      | (with_reducible exact ih1 _ _ _ _)
      | (with_reducible exact spec_Label.mono _ _)
      | (with_reducible exact LeO.refl _)
      | (with_reducible exact LeO.none _)
      | (with_reducible refine LeO.ite ?_ ?_)
      | (with_reducible refine LeO.bind ?_ (fun _ => ?_))
      | exact ih0 _ _ _
      | exact ih1 _ _ _ _
      | exact spec_Label.mono _ _
      | exact LeO.none _
      | refine LeO.ite ?_ ?_
      | refine LeO.bind ?_ (fun _ => ?_)
    · intro y0 y1 y2 y3
      unfold spec_Metadata.j1
      repeat' first
      | (with_reducible exact ih0 _ _ _)
      | (with_reducible exact ih1 _ _ _ _)
      | (with_reducible exact spec_Label.mono _ _)
      | (with_reducible exact LeO.refl _)
      | (with_reducible exact LeO.none _)
      | (with_reducible refine LeO.ite ?_ ?_)
      | (with_reducible refine LeO.bind ?_ (fun _ => ?_))
      | exact ih0 _ _ _
      | exact ih1 _ _ _ _
      | exact spec_Label.mono _ _
      | exact LeO.none _
      | refine LeO.ite ?_ ?_
      | refine LeO.bind ?_ (fun _ => ?_)
theorem spec_Metadata.mono : ∀ a0 k, LeO (spec_Metadata.f k a0) (spec_Metadata.f (k + 1) a0) := by
  intro a0 k
  obtain ⟨ih0, ih1⟩ := spec_Metadata.mono_l k
  unfold spec_Metadata.f
  repeat' first
      | (with_reducible exact ih0 _ _ _)
      | (with_reducible exact ih1 _ _ _ _)
      | (with_reducible exact spec_Label.mono _ _)
      | (with_reducible exact LeO.refl _)
      | (with_reducible exact LeO.none _)
      | (with_reducible refine LeO.ite ?_ ?_)
      | (with_reducible refine LeO.bind ?_ (fun _ => ?_))
      | exact ih0 _ _ _
      | exact ih1 _ _ _ _
      | exact spec_Label.mono _ _
      | exact LeO.none _
      | refine LeO.ite ?_ ?_
      | refine LeO.bind ?_ (fun _ => ?_)
set_option maxHeartbeats 8000000 in
set_option maxRecDepth 100000 in
theorem spec_Metadata.calls (k : Nat) (a0 : ByteArray) (r : Bool) (w : World) (h : spec_Metadata.f k a0 = some r) :
    Calls Tryd.prog 6 #[.string a0] w fun e w' => e = .returned (.bool r) ∧ Drawn0 w w' := by
  have H : (spec_Metadata.l0 k a0 0 0) = some r := h
  clear h
  have H' := Aside0.mk H
  clear H
  go_enter Tryd.func6, Tryd.ntmps6
  go_wp2
  go_loopg [3, 4] k (fun kq v3 v4 w' => ∃ (x3_1 : Int) (x4_1 : Int), v3 = .int .i64 x3_1 ∧ v4 = .int .i64 x4_1 ∧ Aside0 (spec_Metadata.l0 kq a0 x3_1 x4_1 = some r) ∧ Aside0 (kq ≤ k) ∧ Drawn0 w w')
  case atStart => exact ⟨(0), (0), (by first | rfl | (simp; done) | (simp [*]; done) | (simp; generalize ByteArray.toList a0 = l_; cases l_ <;> simp)), (by first | rfl | (simp; done) | (simp [*]; done) | (simp; generalize ByteArray.toList a0 = l_; cases l_ <;> simp)), H', ⟨Nat.le_refl _⟩, by repeat (first | exact Drawn0.refl _ | apply Drawn0.step)⟩
  case round =>
    clear H'
    obtain ⟨x3_1, x4_1, rfl, rfl, HA, HK1, ⟨m1, rfl⟩⟩ := hrel
    cases gk with
    | zero => exact absurd HA.out (by simp [spec_Metadata.l0])
    | succ k1 =>
      have H := HA.out
      clear HA
      simp only [spec_Metadata.l0] at H
      by_cases c2 : x4_1 ≤ (a0.size : Int)
      · rw [if_pos c2] at H
        have c2b0 : decide (x4_1 ≤ (a0.size : Int)) = true := decide_eq_true c2
        clear c2
        have HC3 := Aside0.mk H
        clear H
        go_upto_region 5 with (fail)
        go_cut [20] (fun v20 wc => ∃ (kq : Nat) (x20_2 : Bool), v20 = .bool x20_2 ∧ Aside0 (spec_Metadata.j1 kq a0 x3_1 x4_1 x20_2 = some r) ∧ Aside0 (kq ≤ k1) ∧ Drawn0 w wc)
        case first =>
          have H := HC3.out
          clear HC3
          by_cases c4 : x4_1 = (a0.size : Int)
          · rw [if_pos c4] at H
            have c4b0 : (x4_1 == (a0.size : Int)) = true := beq_iff_eq.mpr c4
            have c4b1 : (x4_1 != (a0.size : Int)) = false := bne_eq_false_iff_eq.mpr c4
            clear c4
            (first | rw [c4b0] | (simp only [i64_w, i32_w]; rw [c4b0]) | rw [c4b3] | skip)
            have H' := Aside0.mk H
            clear H
            go_wp2
            go_meet
            case rel => exact ⟨_, (true), (by first | rfl | (simp; done) | (simp [*]; done) | (simp; generalize ByteArray.toList a0 = l_; cases l_ <;> simp)), H', ⟨by have := HK1.out; first | omega | exact Nat.le_refl _⟩, by repeat (first | exact Drawn0.refl _ | apply Drawn0.step)⟩
          · rw [if_neg c4] at H
            have c4b0 : (x4_1 == (a0.size : Int)) = false := beq_eq_false_iff_ne.mpr c4
            have c4b1 : (x4_1 != (a0.size : Int)) = true := bne_iff_ne.mpr c4
            (first | rw [c4b0] | (simp only [i64_w, i32_w]; rw [c4b0]) | rw [c4b3] | skip)
            by_cases c5 : 0 ≤ x4_1
            · rw [if_pos c5] at H
              have c5b0 : decide (0 ≤ x4_1) = true := decide_eq_true c5
              clear c5
              by_cases c6 : x4_1 < (a0.size : Int)
              · rw [if_pos c6] at H
                have c6b0 : decide (x4_1 < (a0.size : Int)) = true := decide_eq_true c6
                clear c6
                have H' := Aside0.mk H
                clear H
                have p7 : 0 ≤ (x4_1 : Int) := of_decide_eq_true (by first | (with_reducible assumption) | assumption)
                have q7 : x4_1 < (a0.size : Int) := of_decide_eq_true (by first | (with_reducible assumption) | assumption)
                have hx7 := bt_at a0 x4_1
                replace p7 := eq_true p7
                replace q7 := eq_true q7
                go_wp2
                go_meet
                case rel => exact ⟨_, (((bt a0 x4_1) == 46)), (by first | rfl | (simp; done) | (simp [*]; done) | (simp; generalize ByteArray.toList a0 = l_; cases l_ <;> simp)), H', ⟨by have := HK1.out; first | omega | exact Nat.le_refl _⟩, by repeat (first | exact Drawn0.refl _ | apply Drawn0.step)⟩
              · rw [if_neg c6] at H
                exact absurd H (by simp)
            · rw [if_neg c5] at H
              exact absurd H (by simp)
        case rest =>
          clear HC3
          try clear c2
          try clear c2b0
          try clear p2
          try clear c4
          try clear c4b0
          try clear c4b1
          try clear c5
          try clear c5b0
          try clear c6
          try clear c6b0
          try clear p7
          try clear q7
          try clear hx7
          try clear p7
          try clear q7
          obtain ⟨kq, x20_2, rfl, HA, HJ2, ⟨mc2, rfl⟩⟩ := hcut
          cases kq with
          | zero => exact absurd HA.out (by simp [spec_Metadata.j1])
          | succ kj2 =>
            have H := HA.out
            clear HA
            simp only [spec_Metadata.j1] at H
            by_cases c8 : x20_2 = true
            · subst c8
              have H1 : (if 0 ≤ x3_1 then (if x3_1 ≤ x4_1 then (if x4_1 ≤ (a0.size : Int) then ((spec_Label.f kj2 (a0.extract (x3_1 : Int).toNat (x4_1 : Int).toNat)).bind fun t101 => (if t101 = true then (spec_Metadata.l0 kj2 a0 (wrap64 (x4_1 + 1)) (wrap64 (x4_1 + 1))) else (some false))) else (none)) else (none)) else (none)) = some r := by rw [if_pos rfl] at H; exact H
              clear H
              have H := H1
              clear H1
              by_cases c9 : 0 ≤ x3_1
              · rw [if_pos c9] at H
                have c9b0 := eq_true c9
                have c9b1 : decide (0 ≤ x3_1) = true := decide_eq_true c9
                clear c9
                by_cases c10 : x3_1 ≤ x4_1
                · rw [if_pos c10] at H
                  have c10b0 := eq_true c10
                  have c10b1 : decide (x3_1 ≤ x4_1) = true := decide_eq_true c10
                  clear c10
                  by_cases c11 : x4_1 ≤ (a0.size : Int)
                  · rw [if_pos c11] at H
                    have c11b0 := eq_true c11
                    have c11b1 : decide (x4_1 ≤ (a0.size : Int)) = true := decide_eq_true c11
                    clear c11
                    replace H := Option.bind_eq_some_iff.mp H
                    obtain ⟨t101, A120, H⟩ := H
                    replace H : (if t101 = true then (spec_Metadata.l0 kj2 a0 (wrap64 (x4_1 + 1)) (wrap64 (x4_1 + 1))) else (some false)) = some r := H
                    have A12 := Aside0.mk A120
                    clear A120
                    by_cases c13 : t101 = true
                    · subst c13
                      have H1 : (spec_Metadata.l0 kj2 a0 (wrap64 (x4_1 + 1)) (wrap64 (x4_1 + 1))) = some r := by rw [if_pos rfl] at H; exact H
                      clear H
                      have H := H1
                      clear H1
                      have H' := Aside0.mk H
                      clear H
                      go_wp2_with (first | ((with_reducible refine gate_callee (f := 12) rfl ?_); refine goesL_ (some 25) rfl rfl Tryd.func12 (by kernel_rfl) rfl #[.string (a0.extract (x3_1 : Int).toNat (x4_1 : Int).toNat)] rfl (by (try simp only [List.map_toArray, List.map_cons, List.map_nil]); first | done | rfl | (simp only [List.length_drop, List.length_take]; rfl)) ?_; (with_reducible refine (spec_Label.calls kj2 (a0.extract (x3_1 : Int).toNat (x4_1 : Int).toNat) true _ A12.out).mono ?_); rintro e w' ⟨rfl, ⟨nd, rfl⟩⟩; refine ⟨_, rfl, ?_⟩))
                      go_roundg kj2
                      case measure => have := HK1.out; have := HJ2.out; omega
                      case rel => exact ⟨(wrap64 (x4_1 + 1)), (wrap64 (x4_1 + 1)), (by first | rfl | (simp; done) | (simp [*]; done) | (simp; generalize ByteArray.toList a0 = l_; cases l_ <;> simp)), (by first | rfl | (simp; done) | (simp [*]; done) | (simp; generalize ByteArray.toList a0 = l_; cases l_ <;> simp)), H', ⟨by have := HK1.out; have := HJ2.out; omega⟩, by repeat (first | exact Drawn0.refl _ | apply Drawn0.step)⟩
                    · replace c13 := Bool.eq_false_iff.mpr c13
                      subst c13
                      have H1 : (some false) = some r := by rw [if_neg (show ¬ (false = true) by decide)] at H; exact H
                      clear H
                      have H := H1
                      clear H1
                      obtain rfl := Option.some.inj H
                      go_wp2_with (first | ((with_reducible refine gate_callee (f := 12) rfl ?_); refine goesL_ (some 25) rfl rfl Tryd.func12 (by kernel_rfl) rfl #[.string (a0.extract (x3_1 : Int).toNat (x4_1 : Int).toNat)] rfl (by (try simp only [List.map_toArray, List.map_cons, List.map_nil]); first | done | rfl | (simp only [List.length_drop, List.length_take]; rfl)) ?_; (with_reducible refine (spec_Label.calls kj2 (a0.extract (x3_1 : Int).toNat (x4_1 : Int).toNat) false _ A12.out).mono ?_); rintro e w' ⟨rfl, ⟨nd, rfl⟩⟩; refine ⟨_, rfl, ?_⟩))
                      go_ret
                      exact ⟨by first | rfl | (simp; done) | (simp [*]; done) | (simp; generalize ByteArray.toList a0 = l_; cases l_ <;> simp), by repeat (first | exact Drawn0.refl _ | apply Drawn0.step)⟩
                  · rw [if_neg c11] at H
                    exact absurd H (by simp)
                · rw [if_neg c10] at H
                  exact absurd H (by simp)
              · rw [if_neg c9] at H
                exact absurd H (by simp)
            · replace c8 := Bool.eq_false_iff.mpr c8
              subst c8
              have H1 : (spec_Metadata.l0 kj2 a0 x3_1 (wrap64 (x4_1 + 1))) = some r := by rw [if_neg (show ¬ (false = true) by decide)] at H; exact H
              clear H
              have H := H1
              clear H1
              have H' := Aside0.mk H
              clear H
              go_wp2
              go_roundg kj2
              case measure => have := HK1.out; have := HJ2.out; omega
              case rel => exact ⟨(x3_1), (wrap64 (x4_1 + 1)), (by first | rfl | (simp; done) | (simp [*]; done) | (simp; generalize ByteArray.toList a0 = l_; cases l_ <;> simp)), (by first | rfl | (simp; done) | (simp [*]; done) | (simp; generalize ByteArray.toList a0 = l_; cases l_ <;> simp)), H', ⟨by have := HK1.out; have := HJ2.out; omega⟩, by repeat (first | exact Drawn0.refl _ | apply Drawn0.step)⟩
      · rw [if_neg c2] at H
        have c2b0 : decide (x4_1 ≤ (a0.size : Int)) = false := decide_eq_false c2
        clear c2
        obtain rfl := Option.some.inj H
        go_wp2
        go_ret
        exact ⟨by first | rfl | (simp; done) | (simp [*]; done) | (simp; generalize ByteArray.toList a0 = l_; cases l_ <;> simp), by repeat (first | exact Drawn0.refl _ | apply Drawn0.step)⟩

/-! ### laws_FnReleaseName: function 3 -/
def laws_FnReleaseName.f (k : Nat) (a0 : ByteArray) : Option (Bool) := if (a0.size : Int) > 2147483647 then (some true) else ((impl_ReleaseName.f k a0).bind fun t102 => ((spec_Metadata.f k a0).bind fun t103 => (if t103 = true then (if (t102 == (decide ((a0.size : Int) ≤ 53))) = true then ((impl_ReleaseName.f k (⟨#[97]⟩ : ByteArray)).bind fun t104 => (some t104)) else (some false)) else (if (t102 == false) = true then ((impl_ReleaseName.f k (⟨#[97]⟩ : ByteArray)).bind fun t105 => (some t105)) else (some false)))))
theorem laws_FnReleaseName.mono : ∀ a0 k, LeO (laws_FnReleaseName.f k a0) (laws_FnReleaseName.f (k + 1) a0) := by
  intro a0 k
  unfold laws_FnReleaseName.f
  repeat' first
      | (with_reducible exact impl_ReleaseName.mono _ _)
      | (with_reducible exact spec_Metadata.mono _ _)
      | (with_reducible exact LeO.refl _)
      | (with_reducible exact LeO.none _)
      | (with_reducible refine LeO.ite ?_ ?_)
      | (with_reducible refine LeO.bind ?_ (fun _ => ?_))
      | exact impl_ReleaseName.mono _ _
      | exact spec_Metadata.mono _ _
      | exact LeO.none _
      | refine LeO.ite ?_ ?_
      | refine LeO.bind ?_ (fun _ => ?_)
set_option maxHeartbeats 8000000 in
set_option maxRecDepth 100000 in
theorem laws_FnReleaseName.calls (k : Nat) (a0 : ByteArray) (r : Bool) (w : World) (h : laws_FnReleaseName.f k a0 = some r) (hG : Gl w) :
    Calls Tryd.prog 3 #[.string a0] w fun e w' => e = .returned (.bool r) ∧ Drawn0 w w' := by
  have H : (if (a0.size : Int) > 2147483647 then (some true) else ((impl_ReleaseName.f k a0).bind fun t102 => ((spec_Metadata.f k a0).bind fun t103 => (if t103 = true then (if (t102 == (decide ((a0.size : Int) ≤ 53))) = true then ((impl_ReleaseName.f k (⟨#[97]⟩ : ByteArray)).bind fun t104 => (some t104)) else (some false)) else (if (t102 == false) = true then ((impl_ReleaseName.f k (⟨#[97]⟩ : ByteArray)).bind fun t105 => (some t105)) else (some false)))))) = some r := h
  clear h
  have HG := Aside0.mk hG
  clear hG
  by_cases c2 : (a0.size : Int) > 2147483647
  · rw [if_pos c2] at H
    have c2b0 : decide (2147483647 < (a0.size : Int)) = true := decide_eq_true c2
    have c2b1 : decide (2147483647 < a0.size) = true := decide_eq_true (by omega)
    clear c2
    obtain rfl := Option.some.inj H
    go_enter Tryd.func3, Tryd.ntmps3
    go_wp2
    go_ret
    exact ⟨by first | rfl | (simp; done) | (simp [*]; done) | (simp; generalize ByteArray.toList a0 = l_; cases l_ <;> simp), by repeat (first | exact Drawn0.refl _ | apply Drawn0.step)⟩
  · rw [if_neg c2] at H
    have c2b0 : decide (2147483647 < (a0.size : Int)) = false := decide_eq_false c2
    have c2b1 : decide (2147483647 < a0.size) = false := decide_eq_false (by omega)
    clear c2
    replace H := Option.bind_eq_some_iff.mp H
    obtain ⟨t102, A30, H⟩ := H
    replace H : ((spec_Metadata.f k a0).bind fun t103 => (if t103 = true then (if (t102 == (decide ((a0.size : Int) ≤ 53))) = true then ((impl_ReleaseName.f k (⟨#[97]⟩ : ByteArray)).bind fun t104 => (some t104)) else (some false)) else (if (t102 == false) = true then ((impl_ReleaseName.f k (⟨#[97]⟩ : ByteArray)).bind fun t105 => (some t105)) else (some false)))) = some r := H
    have A3 := Aside0.mk A30
    clear A30
    replace H := Option.bind_eq_some_iff.mp H
    obtain ⟨t103, A40, H⟩ := H
    replace H : (if t103 = true then (if (t102 == (decide ((a0.size : Int) ≤ 53))) = true then ((impl_ReleaseName.f k (⟨#[97]⟩ : ByteArray)).bind fun t104 => (some t104)) else (some false)) else (if (t102 == false) = true then ((impl_ReleaseName.f k (⟨#[97]⟩ : ByteArray)).bind fun t105 => (some t105)) else (some false))) = some r := H
    have A4 := Aside0.mk A40
    clear A40
    by_cases c5 : t103 = true
    · subst c5
      have H1 : (if (t102 == (decide ((a0.size : Int) ≤ 53))) = true then ((impl_ReleaseName.f k (⟨#[97]⟩ : ByteArray)).bind fun t104 => (some t104)) else (some false)) = some r := by rw [if_pos rfl] at H; exact H
      clear H
      have H := H1
      clear H1
      by_cases c6 : (t102 == (decide ((a0.size : Int) ≤ 53))) = true
      · rw [if_pos c6] at H
        have c6b0 : (t102 == (decide ((a0.size : Int) ≤ 53))) = true := c6
        (try (have c6b1 : decide (t102 = (decide ((a0.size : Int) ≤ 53))) = true := by simpa using c6))
        (try (have c6b2 : (t102 == (decide ((a0.size : Int) ≤ 53))) = true := by simpa using c6))
        clear c6
        replace H := Option.bind_eq_some_iff.mp H
        obtain ⟨t104, A70, H⟩ := H
        replace H : (some t104) = some r := H
        have A7 := Aside0.mk A70
        clear A70
        obtain rfl := Option.some.inj H
        go_enter Tryd.func3, Tryd.ntmps3
        go_wp2_with (first | ((with_reducible refine gate_callee (f := 5) rfl ?_); refine goesL_ (some 7) rfl rfl Tryd.func5 (by kernel_rfl) rfl #[.string a0] rfl (by (try simp only [List.map_toArray, List.map_cons, List.map_nil]); first | done | rfl | (simp only [List.length_drop, List.length_take]; rfl)) ?_; (with_reducible refine (impl_ReleaseName.calls k a0 t102 _ A3.out (by first | exact HG.out | exact Gl.drewN HG.out _ | exact Gl.drewN (Gl.drewN HG.out _) _ | (repeat (first | exact HG.out | apply Gl.drewN | apply Gl.drew)))).mono ?_); rintro e w' ⟨rfl, ⟨nd, rfl⟩⟩; refine ⟨_, rfl, ?_⟩) | ((with_reducible refine gate_callee (f := 6) rfl ?_); refine goesL_ (some 9) rfl rfl Tryd.func6 (by kernel_rfl) rfl #[.string a0] rfl (by (try simp only [List.map_toArray, List.map_cons, List.map_nil]); first | done | rfl | (simp only [List.length_drop, List.length_take]; rfl)) ?_; (with_reducible refine (spec_Metadata.calls k a0 true _ A4.out).mono ?_); rintro e w' ⟨rfl, ⟨nd, rfl⟩⟩; refine ⟨_, rfl, ?_⟩) | (go_at_call 5; (with_reducible refine (impl_ReleaseName.calls k (⟨#[97]⟩ : ByteArray) t104 _ A7.out (by first | exact HG.out | exact Gl.drewN HG.out _ | exact Gl.drewN (Gl.drewN HG.out _) _ | (repeat (first | exact HG.out | apply Gl.drewN | apply Gl.drew)))).mono ?_); rintro e w' ⟨rfl, ⟨nd, rfl⟩⟩))
        go_ret
        exact ⟨by first | rfl | (simp; done) | (simp [*]; done) | (simp; generalize ByteArray.toList a0 = l_; cases l_ <;> simp), by repeat (first | exact Drawn0.refl _ | apply Drawn0.step)⟩
      · rw [if_neg c6] at H
        have c6b0 : (t102 == (decide ((a0.size : Int) ≤ 53))) = false := by simpa using c6
        (try (have c6b1 : decide (t102 = (decide ((a0.size : Int) ≤ 53))) = false := by simpa using c6))
        (try (have c6b2 : (t102 == (decide ((a0.size : Int) ≤ 53))) = false := by simpa using c6))
        (try (have c6b3 : ¬ (t102 = (decide ((a0.size : Int) ≤ 53))) := by simpa using c6))
        clear c6
        obtain rfl := Option.some.inj H
        go_enter Tryd.func3, Tryd.ntmps3
        go_wp2_with (first | ((with_reducible refine gate_callee (f := 5) rfl ?_); refine goesL_ (some 7) rfl rfl Tryd.func5 (by kernel_rfl) rfl #[.string a0] rfl (by (try simp only [List.map_toArray, List.map_cons, List.map_nil]); first | done | rfl | (simp only [List.length_drop, List.length_take]; rfl)) ?_; (with_reducible refine (impl_ReleaseName.calls k a0 t102 _ A3.out (by first | exact HG.out | exact Gl.drewN HG.out _ | exact Gl.drewN (Gl.drewN HG.out _) _ | (repeat (first | exact HG.out | apply Gl.drewN | apply Gl.drew)))).mono ?_); rintro e w' ⟨rfl, ⟨nd, rfl⟩⟩; refine ⟨_, rfl, ?_⟩) | ((with_reducible refine gate_callee (f := 6) rfl ?_); refine goesL_ (some 9) rfl rfl Tryd.func6 (by kernel_rfl) rfl #[.string a0] rfl (by (try simp only [List.map_toArray, List.map_cons, List.map_nil]); first | done | rfl | (simp only [List.length_drop, List.length_take]; rfl)) ?_; (with_reducible refine (spec_Metadata.calls k a0 true _ A4.out).mono ?_); rintro e w' ⟨rfl, ⟨nd, rfl⟩⟩; refine ⟨_, rfl, ?_⟩))
        go_ret
        exact ⟨by first | rfl | (simp; done) | (simp [*]; done) | (simp; generalize ByteArray.toList a0 = l_; cases l_ <;> simp), by repeat (first | exact Drawn0.refl _ | apply Drawn0.step)⟩
    · replace c5 := Bool.eq_false_iff.mpr c5
      subst c5
      have H1 : (if (t102 == false) = true then ((impl_ReleaseName.f k (⟨#[97]⟩ : ByteArray)).bind fun t105 => (some t105)) else (some false)) = some r := by rw [if_neg (show ¬ (false = true) by decide)] at H; exact H
      clear H
      have H := H1
      clear H1
      by_cases c8 : (t102 == false) = true
      · rw [if_pos c8] at H
        have c8b0 : (t102 == false) = true := c8
        (try (have c8b1 : decide (t102 = false) = true := by simpa using c8))
        (try (have c8b2 : (t102 == false) = true := by simpa using c8))
        clear c8
        replace H := Option.bind_eq_some_iff.mp H
        obtain ⟨t105, A90, H⟩ := H
        replace H : (some t105) = some r := H
        have A9 := Aside0.mk A90
        clear A90
        obtain rfl := Option.some.inj H
        go_enter Tryd.func3, Tryd.ntmps3
        go_wp2_with (first | ((with_reducible refine gate_callee (f := 5) rfl ?_); refine goesL_ (some 7) rfl rfl Tryd.func5 (by kernel_rfl) rfl #[.string a0] rfl (by (try simp only [List.map_toArray, List.map_cons, List.map_nil]); first | done | rfl | (simp only [List.length_drop, List.length_take]; rfl)) ?_; (with_reducible refine (impl_ReleaseName.calls k a0 t102 _ A3.out (by first | exact HG.out | exact Gl.drewN HG.out _ | exact Gl.drewN (Gl.drewN HG.out _) _ | (repeat (first | exact HG.out | apply Gl.drewN | apply Gl.drew)))).mono ?_); rintro e w' ⟨rfl, ⟨nd, rfl⟩⟩; refine ⟨_, rfl, ?_⟩) | ((with_reducible refine gate_callee (f := 6) rfl ?_); refine goesL_ (some 9) rfl rfl Tryd.func6 (by kernel_rfl) rfl #[.string a0] rfl (by (try simp only [List.map_toArray, List.map_cons, List.map_nil]); first | done | rfl | (simp only [List.length_drop, List.length_take]; rfl)) ?_; (with_reducible refine (spec_Metadata.calls k a0 false _ A4.out).mono ?_); rintro e w' ⟨rfl, ⟨nd, rfl⟩⟩; refine ⟨_, rfl, ?_⟩) | (go_at_call 5; (with_reducible refine (impl_ReleaseName.calls k (⟨#[97]⟩ : ByteArray) t105 _ A9.out (by first | exact HG.out | exact Gl.drewN HG.out _ | exact Gl.drewN (Gl.drewN HG.out _) _ | (repeat (first | exact HG.out | apply Gl.drewN | apply Gl.drew)))).mono ?_); rintro e w' ⟨rfl, ⟨nd, rfl⟩⟩))
        go_ret
        exact ⟨by first | rfl | (simp; done) | (simp [*]; done) | (simp; generalize ByteArray.toList a0 = l_; cases l_ <;> simp), by repeat (first | exact Drawn0.refl _ | apply Drawn0.step)⟩
      · rw [if_neg c8] at H
        have c8b0 : (t102 == false) = false := by simpa using c8
        (try (have c8b1 : decide (t102 = false) = false := by simpa using c8))
        (try (have c8b2 : (t102 == false) = false := by simpa using c8))
        (try (have c8b3 : ¬ (t102 = false) := by simpa using c8))
        clear c8
        obtain rfl := Option.some.inj H
        go_enter Tryd.func3, Tryd.ntmps3
        go_wp2_with (first | ((with_reducible refine gate_callee (f := 5) rfl ?_); refine goesL_ (some 7) rfl rfl Tryd.func5 (by kernel_rfl) rfl #[.string a0] rfl (by (try simp only [List.map_toArray, List.map_cons, List.map_nil]); first | done | rfl | (simp only [List.length_drop, List.length_take]; rfl)) ?_; (with_reducible refine (impl_ReleaseName.calls k a0 t102 _ A3.out (by first | exact HG.out | exact Gl.drewN HG.out _ | exact Gl.drewN (Gl.drewN HG.out _) _ | (repeat (first | exact HG.out | apply Gl.drewN | apply Gl.drew)))).mono ?_); rintro e w' ⟨rfl, ⟨nd, rfl⟩⟩; refine ⟨_, rfl, ?_⟩) | ((with_reducible refine gate_callee (f := 6) rfl ?_); refine goesL_ (some 9) rfl rfl Tryd.func6 (by kernel_rfl) rfl #[.string a0] rfl (by (try simp only [List.map_toArray, List.map_cons, List.map_nil]); first | done | rfl | (simp only [List.length_drop, List.length_take]; rfl)) ?_; (with_reducible refine (spec_Metadata.calls k a0 false _ A4.out).mono ?_); rintro e w' ⟨rfl, ⟨nd, rfl⟩⟩; refine ⟨_, rfl, ?_⟩))
        go_ret
        exact ⟨by first | rfl | (simp; done) | (simp [*]; done) | (simp; generalize ByteArray.toList a0 = l_; cases l_ <;> simp), by repeat (first | exact Drawn0.refl _ | apply Drawn0.step)⟩

/-- THE ONE PURE STATEMENT of laws_FnReleaseName: yours. -/
def laws_FnReleaseName.Pure : Prop := ∀ (a0 : ByteArray), a0.size ≤ 140737488351232 → ∃ k, laws_FnReleaseName.f k a0 = some true
theorem laws_FnReleaseName.walk (P : laws_FnReleaseName.Pure) (a0 : ByteArray) (w : World) (w0 : a0.size ≤ 140737488351232) (hG : Gl w) :
    Calls Tryd.prog 3 #[.string a0] w fun e w' => e = .returned (.bool true) ∧ Below w.heap.size w w' := by
  obtain ⟨k, h⟩ := P a0 w0
  refine (laws_FnReleaseName.calls k a0 true w h hG).mono ?_
  rintro e w' ⟨rfl, hd⟩
  exact ⟨rfl, hd.below⟩

end Go.Proofs.YtdomnigegpigiabDoor.PFnReleaseName

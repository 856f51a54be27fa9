-- printed by a program of this session: the print, turned for a few more operations
import Derived.Test.YtdomnigegpigiabDoorPvalidNamex0
namespace Go.Proofs.YtdomnigegpigiabDoor.PvalidName
open Go.RowKit Go.Proofs.YtdomnigegpigiabDoorW.PrintWords Go.Proofs.YtdomnigegpigiabDoorW.PrintLast Go.Proofs.YtdomnigegpigiabDoorW.PrintMore
attribute [local go_sem] max2_int min2_int max_two min_two max_three min_three max_four min_four   -- for this text's walks alone
set_option linter.unusedVariables false
set_option linter.unusedSimpArgs false

/-! ### chartutil_validName: function 14 -/
mutual
def chartutil_validName.l0 : Nat → ByteArray → Bool → Int → Option (Bool)
  | 0, _, _, _ => none
  | k + 1, x0, x3, x4 => if x4 < (x0.size : Int) then (if 0 ≤ x4 then (if (bt x0 x4) ≥ 97 then (if (bt x0 x4) ≤ 122 then (chartutil_validName.j1 k x0 x3 x4 (bt x0 x4) true) else (if (bt x0 x4) ≥ 48 then (chartutil_validName.j1 k x0 x3 x4 (bt x0 x4) (decide ((bt x0 x4) ≤ 57))) else (chartutil_validName.j1 k x0 x3 x4 (bt x0 x4) false))) else (if (bt x0 x4) ≥ 48 then (chartutil_validName.j1 k x0 x3 x4 (bt x0 x4) (decide ((bt x0 x4) ≤ 57))) else (chartutil_validName.j1 k x0 x3 x4 (bt x0 x4) false))) else (none)) else (if x3 = true then (some false) else (if 0 ≤ (wrap64 ((x0.size : Int) - 1)) then (if (wrap64 ((x0.size : Int) - 1)) < (x0.size : Int) then (some ((bt x0 (wrap64 ((x0.size : Int) - 1))) != 45)) else (none)) else (none)))
def chartutil_validName.j1 : Nat → ByteArray → Bool → Int → Int → Bool → Option (Bool)
  | 0, _, _, _, _, _ => none
  | k + 1, x0, x3, x4, x5, x6 => if x6 = true then (chartutil_validName.l0 k x0 false (wrap64 (x4 + 1))) else (if x5 = 45 then (chartutil_validName.j2 k x0 x3 x4 x5 (!x3)) else (chartutil_validName.j2 k x0 x3 x4 x5 false))
def chartutil_validName.j2 : Nat → ByteArray → Bool → Int → Int → Bool → Option (Bool)
  | 0, _, _, _, _, _ => none
  | k + 1, x0, x3, x4, x5, x32 => if x32 = true then (chartutil_validName.l0 k x0 x3 (wrap64 (x4 + 1))) else (if x5 = 46 then (if x3 = true then (some false) else (if 0 ≤ (wrap64 (x4 - 1)) then (if (wrap64 (x4 - 1)) < (x0.size : Int) then (if (bt x0 (wrap64 (x4 - 1))) = 45 then (some false) else (chartutil_validName.l0 k x0 true (wrap64 (x4 + 1)))) else (none)) else (none))) else (some false))
end
def chartutil_validName.f (k : Nat) (a0 : ByteArray) : Option (Bool) := chartutil_validName.l0 k a0 true 0
theorem chartutil_validName.mono_l : ∀ k, (∀ y0 y1 y2, LeO (chartutil_validName.l0 k y0 y1 y2) (chartutil_validName.l0 (k + 1) y0 y1 y2)) ∧ (∀ y0 y1 y2 y3 y4, LeO (chartutil_validName.j1 k y0 y1 y2 y3 y4) (chartutil_validName.j1 (k + 1) y0 y1 y2 y3 y4)) ∧ (∀ y0 y1 y2 y3 y4, LeO (chartutil_validName.j2 k y0 y1 y2 y3 y4) (chartutil_validName.j2 (k + 1) y0 y1 y2 y3 y4))
  | 0 => ⟨fun _ _ _ r h => by simp [chartutil_validName.l0] at h, fun _ _ _ _ _ r h => by simp [chartutil_validName.j1] at h, fun _ _ _ _ _ r h => by simp [chartutil_validName.j2] at h⟩
  | k + 1 => by
    obtain ⟨ih0, ih1, ih2⟩ := chartutil_validName.mono_l k
    refine ⟨?_, ?_, ?_⟩
    · intro y0 y1 y2
      unfold chartutil_validName.l0
      repeat' first
      | (with_reducible exact ih0 _ _ _)
      | (with_reducible exact ih1 _ _ _ _ _)
      | (with_reducible exact ih2 _ _ _ _ _)
      | (with_reducible exact LeO.refl _)
      | (with_reducible exact LeO.none _)
      | (with_reducible refine LeO.ite ?_ ?_)
      | (with_reducible refine LeO.bind ?_ (fun _ => ?_))
      | exact ih0 _ _ _
      | exact ih1 _ _ _ _ _
      | exact ih2 _ _ _ _ _
      | exact LeO.none _
      | refine LeO.ite ?_ ?_
      | refine LeO.bind ?_ (fun _ => ?_)
    · intro y0 y1 y2 y3 y4
      unfold chartutil_validName.j1
      repeat' first
      | (with_reducible exact ih0 _ _ _)
      | (with_reducible exact ih1 _ _ _ _ _)
      | (with_reducible exact ih2 _ _ _ _ _)
      | (with_reducible exact LeO.refl _)
      | (with_reducible exact LeO.none _)
      | (with_reducible refine LeO.ite ?_ ?_)
      | (with_reducible refine LeO.bind ?_ (fun _ => ?_))
      | exact ih0 _ _ _
      | exact ih1 _ _ _ _ _
      | exact ih2 _ _ _ _ _
      | exact LeO.none _
      | refine LeO.ite ?_ ?_
      | refine LeO.bind ?_ (fun _ => ?_)
    · intro y0 y1 y2 y3 y4
      unfold chartutil_validName.j2
      repeat' first
      | (with_reducible exact ih0 _ _ _)
      | (with_reducible exact ih1 _ _ _ _ _)
      | (with_reducible exact ih2 _ _ _ _ _)
      | (with_reducible exact LeO.refl _)
      | (with_reducible exact LeO.none _)
      | (with_reducible refine LeO.ite ?_ ?_)
      | (with_reducible refine LeO.bind ?_ (fun _ => ?_))
      | exact ih0 _ _ _
      | exact ih1 _ _ _ _ _
      | exact ih2 _ _ _ _ _
      | exact LeO.none _
      | refine LeO.ite ?_ ?_
      | refine LeO.bind ?_ (fun _ => ?_)
theorem chartutil_validName.mono : ∀ a0 k, LeO (chartutil_validName.f k a0) (chartutil_validName.f (k + 1) a0) := by
  intro a0 k
  obtain ⟨ih0, ih1, ih2⟩ := chartutil_validName.mono_l k
  unfold chartutil_validName.f
  repeat' first
      | (with_reducible exact ih0 _ _ _)
      | (with_reducible exact ih1 _ _ _ _ _)
      | (with_reducible exact ih2 _ _ _ _ _)
      | (with_reducible exact LeO.refl _)
      | (with_reducible exact LeO.none _)
      | (with_reducible refine LeO.ite ?_ ?_)
      | (with_reducible refine LeO.bind ?_ (fun _ => ?_))
      | exact ih0 _ _ _
      | exact ih1 _ _ _ _ _
      | exact ih2 _ _ _ _ _
      | exact LeO.none _
      | refine LeO.ite ?_ ?_
      | refine LeO.bind ?_ (fun _ => ?_)
set_option maxHeartbeats 8000000 in
set_option maxRecDepth 100000 in
theorem chartutil_validName.calls (k : Nat) (a0 : ByteArray) (r : Bool) (w : World) (h : chartutil_validName.f k a0 = some r) :
    Calls Tryd.prog 14 #[.string a0] w fun e w' => e = .returned (.bool r) ∧ Drawn0 w w' := by
  have H : (chartutil_validName.l0 k a0 true 0) = some r := h
  clear h
  have H' := Aside0.mk H
  clear H
  go_enter Tryd.func14, Tryd.ntmps14
  go_wp2
  go_loopg [3, 4] k (fun kq v3 v4 w' => ∃ (x3_1 : Bool) (x4_1 : Int), v3 = .bool x3_1 ∧ v4 = .int .i64 x4_1 ∧ Aside0 (chartutil_validName.l0 kq a0 x3_1 x4_1 = some r) ∧ Aside0 (kq ≤ k) ∧ Drawn0 w w')
  case atStart => exact ⟨(true), (0), (by first | rfl | (simp; done) | (simp [*]; done)), (by first | rfl | (simp; done) | (simp [*]; done)), H', ⟨Nat.le_refl _⟩, by repeat (first | exact Drawn0.refl _ | apply Drawn0.step)⟩
  case round =>
    clear H'
    try clear c1
    obtain ⟨x3_1, x4_1, rfl, rfl, HA, HK1, ⟨m1, rfl⟩⟩ := hrel
    cases gk with
    | zero => exact absurd HA.out (by simp [chartutil_validName.l0])
    | succ k1 =>
      have H := HA.out
      clear HA
      simp only [chartutil_validName.l0] at H
      by_cases c2 : x4_1 < (a0.size : Int)
      · rw [if_pos c2] at H
        have c2b0 : decide (x4_1 < (a0.size : Int)) = true := decide_eq_true c2
        clear c2
        by_cases c3 : 0 ≤ x4_1
        · rw [if_pos c3] at H
          have c3b0 : decide (0 ≤ x4_1) = true := decide_eq_true c3
          clear c3
          have HC5 := Aside0.mk H
          clear H
          have p4 : 0 ≤ (x4_1 : Int) := of_decide_eq_true (by first | (with_reducible assumption) | assumption)
          have q4 : x4_1 < (a0.size : Int) := of_decide_eq_true (by first | (with_reducible assumption) | assumption)
          have hx4 := bt_at a0 x4_1
          replace p4 := eq_true p4
          replace q4 := eq_true q4
          go_upto_region 6 with (fail)
          go_cut [6] (fun v6 wc => ∃ (kq : Nat) (x6_4 : Bool), v6 = .bool x6_4 ∧ Aside0 (chartutil_validName.j1 kq a0 x3_1 x4_1 (bt a0 x4_1) x6_4 = some r) ∧ Aside0 (kq ≤ k1) ∧ Drawn0 w wc)
          case first =>
            have H := HC5.out
            clear HC5
            by_cases c6 : (bt a0 x4_1) ≥ 97
            · rw [if_pos c6] at H
              have c6b0 : decide (97 ≤ (bt a0 x4_1)) = true := decide_eq_true c6
              clear c6
              (first | rw [c6b0] | (simp only [i64_w, i32_w]; rw [c6b0]) | rw [c6b3] | skip)
              by_cases c7 : (bt a0 x4_1) ≤ 122
              · rw [if_pos c7] at H
                have c7b0 : decide ((bt a0 x4_1) ≤ 122) = true := decide_eq_true c7
                clear c7
                have H' := Aside0.mk H
                clear H
                go_wp2
                go_meet
                case rel => exact ⟨_, (true), (by first | rfl | (simp; done) | (simp [*]; done)), H', ⟨by have := HK1.out; first | omega | exact Nat.le_refl _⟩, by repeat (first | exact Drawn0.refl _ | apply Drawn0.step)⟩
              · rw [if_neg c7] at H
                have c7b0 : decide ((bt a0 x4_1) ≤ 122) = false := decide_eq_false c7
                clear c7
                by_cases c8 : (bt a0 x4_1) ≥ 48
                · rw [if_pos c8] at H
                  have c8b0 : decide (48 ≤ (bt a0 x4_1)) = true := decide_eq_true c8
                  clear c8
                  have H' := Aside0.mk H
                  clear H
                  go_wp2
                  go_meet
                  case rel => exact ⟨_, (decide ((bt a0 x4_1) ≤ 57)), (by first | rfl | (simp; done) | (simp [*]; done)), H', ⟨by have := HK1.out; first | omega | exact Nat.le_refl _⟩, by repeat (first | exact Drawn0.refl _ | apply Drawn0.step)⟩
                · rw [if_neg c8] at H
                  have c8b0 : decide (48 ≤ (bt a0 x4_1)) = false := decide_eq_false c8
                  clear c8
                  have H' := Aside0.mk H
                  clear H
                  go_wp2
                  go_meet
                  case rel => exact ⟨_, (false), (by first | rfl | (simp; done) | (simp [*]; done)), H', ⟨by have := HK1.out; first | omega | exact Nat.le_refl _⟩, by repeat (first | exact Drawn0.refl _ | apply Drawn0.step)⟩
            · rw [if_neg c6] at H
              have c6b0 : decide (97 ≤ (bt a0 x4_1)) = false := decide_eq_false c6
              clear c6
              (first | rw [c6b0] | (simp only [i64_w, i32_w]; rw [c6b0]) | rw [c6b3] | skip)
              by_cases c9 : (bt a0 x4_1) ≥ 48
              · rw [if_pos c9] at H
                have c9b0 : decide (48 ≤ (bt a0 x4_1)) = true := decide_eq_true c9
                clear c9
                have H' := Aside0.mk H
                clear H
                go_wp2
                go_meet
                case rel => exact ⟨_, (decide ((bt a0 x4_1) ≤ 57)), (by first | rfl | (simp; done) | (simp [*]; done)), H', ⟨by have := HK1.out; first | omega | exact Nat.le_refl _⟩, by repeat (first | exact Drawn0.refl _ | apply Drawn0.step)⟩
              · rw [if_neg c9] at H
                have c9b0 : decide (48 ≤ (bt a0 x4_1)) = false := decide_eq_false c9
                clear c9
                have H' := Aside0.mk H
                clear H
                go_wp2
                go_meet
                case rel => exact ⟨_, (false), (by first | rfl | (simp; done) | (simp [*]; done)), H', ⟨by have := HK1.out; first | omega | exact Nat.le_refl _⟩, by repeat (first | exact Drawn0.refl _ | apply Drawn0.step)⟩
          case rest =>
            clear HC5
            try clear c1
            try clear c2
            try clear c2b0
            try clear p2
            try clear c3
            try clear c3b0
            try clear p4
            try clear q4
            try clear hx4
            try clear c6
            try clear c6b0
            try clear c7
            try clear c7b0
            try clear c8
            try clear c8b0
            try clear c9
            try clear c9b0
            try clear p4
            try clear q4
            obtain ⟨kq, x6_4, rfl, HA, HJ4, ⟨mc4, rfl⟩⟩ := hcut
            cases kq with
            | zero => exact absurd HA.out (by simp [chartutil_validName.j1])
            | succ kj4 =>
              have H := HA.out
              clear HA
              simp only [chartutil_validName.j1] at H
              by_cases c10 : x6_4 = true
              · subst c10
                have H1 : (chartutil_validName.l0 kj4 a0 false (wrap64 (x4_1 + 1))) = some r := by rw [if_pos rfl] at H; exact H
                clear H
                have H := H1
                clear H1
                have H' := Aside0.mk H
                clear H
                go_wp2
                go_roundg kj4
                case measure => have := HK1.out; have := HJ4.out; omega
                case rel => exact ⟨(false), (wrap64 (x4_1 + 1)), (by first | rfl | (simp; done) | (simp [*]; done)), (by first | rfl | (simp; done) | (simp [*]; done)), H', ⟨by have := HK1.out; have := HJ4.out; omega⟩, by repeat (first | exact Drawn0.refl _ | apply Drawn0.step)⟩
              · replace c10 := Bool.eq_false_iff.mpr c10
                subst c10
                have H1 : (if (bt a0 x4_1) = 45 then (chartutil_validName.j2 kj4 a0 x3_1 x4_1 (bt a0 x4_1) (!x3_1)) else (chartutil_validName.j2 kj4 a0 x3_1 x4_1 (bt a0 x4_1) false)) = some r := by rw [if_neg (show ¬ (false = true) by decide)] at H; exact H
                clear H
                have H := H1
                clear H1
                have HC11 := Aside0.mk H
                clear H
                go_upto_region 10 with (fail)
                go_cut [32] (fun v32 wc => ∃ (kq : Nat) (x32_10 : Bool), v32 = .bool x32_10 ∧ Aside0 (chartutil_validName.j2 kq a0 x3_1 x4_1 (bt a0 x4_1) x32_10 = some r) ∧ Aside0 (kq ≤ kj4) ∧ Drawn0 w wc)
                case first =>
                  have H := HC11.out
                  clear HC11
                  by_cases c12 : (bt a0 x4_1) = 45
                  · rw [if_pos c12] at H
                    have c12b0 : ((bt a0 x4_1) == 45) = true := beq_iff_eq.mpr c12
                    have c12b1 : ((bt a0 x4_1) != 45) = false := bne_eq_false_iff_eq.mpr c12
                    clear c12
                    (first | rw [c12b0] | (simp only [i64_w, i32_w]; rw [c12b0]) | rw [c12b3] | skip)
                    have H' := Aside0.mk H
                    clear H
                    go_wp2
                    go_meet
                    case rel => exact ⟨_, (!x3_1), (by first | rfl | (simp; done) | (simp [*]; done)), H', ⟨by have := HK1.out; have := HJ4.out; first | omega | exact Nat.le_refl _⟩, by repeat (first | exact Drawn0.refl _ | apply Drawn0.step)⟩
                  · rw [if_neg c12] at H
                    have c12b0 : ((bt a0 x4_1) == 45) = false := beq_eq_false_iff_ne.mpr c12
                    have c12b1 : ((bt a0 x4_1) != 45) = true := bne_iff_ne.mpr c12
                    (first | rw [c12b0] | (simp only [i64_w, i32_w]; rw [c12b0]) | rw [c12b3] | skip)
                    have H' := Aside0.mk H
                    clear H
                    go_wp2
                    go_meet
                    case rel => exact ⟨_, (false), (by first | rfl | (simp; done) | (simp [*]; done)), H', ⟨by have := HK1.out; have := HJ4.out; first | omega | exact Nat.le_refl _⟩, by repeat (first | exact Drawn0.refl _ | apply Drawn0.step)⟩
                case rest =>
                  clear HC11
                  try clear c1
                  try clear c2
                  try clear c2b0
                  try clear p2
                  try clear c3
                  try clear c3b0
                  try clear c4
                  try clear p4
                  try clear q4
                  try clear hx4
                  try clear c6
                  try clear c6b0
                  try clear p6
                  try clear c7
                  try clear c7b0
                  try clear c8
                  try clear c8b0
                  try clear c9
                  try clear c9b0
                  try clear c10
                  try clear c12
                  try clear c12b0
                  try clear c12b1
                  try clear p2
                  try clear p4
                  try clear q4
                  obtain ⟨kq, x32_10, rfl, HA, HJ10, ⟨mc10, rfl⟩⟩ := hcut
                  cases kq with
                  | zero => exact absurd HA.out (by simp [chartutil_validName.j2])
                  | succ kj10 =>
                    have H := HA.out
                    clear HA
                    simp only [chartutil_validName.j2] at H
                    by_cases c13 : x32_10 = true
                    · subst c13
                      have H1 : (chartutil_validName.l0 kj10 a0 x3_1 (wrap64 (x4_1 + 1))) = some r := by rw [if_pos rfl] at H; exact H
                      clear H
                      have H := H1
                      clear H1
                      have H' := Aside0.mk H
                      clear H
                      go_wp2
                      go_roundg kj10
                      case measure => have := HK1.out; have := HJ4.out; have := HJ10.out; omega
                      case rel => exact ⟨(x3_1), (wrap64 (x4_1 + 1)), (by first | rfl | (simp; done) | (simp [*]; done)), (by first | rfl | (simp; done) | (simp [*]; done)), H', ⟨by have := HK1.out; have := HJ4.out; have := HJ10.out; omega⟩, by repeat (first | exact Drawn0.refl _ | apply Drawn0.step)⟩
                    · replace c13 := Bool.eq_false_iff.mpr c13
                      subst c13
                      have H1 : (if (bt a0 x4_1) = 46 then (if x3_1 = true then (some false) else (if 0 ≤ (wrap64 (x4_1 - 1)) then (if (wrap64 (x4_1 - 1)) < (a0.size : Int) then (if (bt a0 (wrap64 (x4_1 - 1))) = 45 then (some false) else (chartutil_validName.l0 kj10 a0 true (wrap64 (x4_1 + 1)))) else (none)) else (none))) else (some false)) = some r := by rw [if_neg (show ¬ (false = true) by decide)] at H; exact H
                      clear H
                      have H := H1
                      clear H1
                      by_cases c14 : (bt a0 x4_1) = 46
                      · rw [if_pos c14] at H
                        have c14b0 : ((bt a0 x4_1) == 46) = true := beq_iff_eq.mpr c14
                        have c14b1 : ((bt a0 x4_1) != 46) = false := bne_eq_false_iff_eq.mpr c14
                        clear c14
                        by_cases c15 : x3_1 = true
                        · subst c15
                          have H1 : (some false) = some r := by rw [if_pos rfl] at H; exact H
                          clear H
                          have H := H1
                          clear H1
                          obtain rfl := Option.some.inj H
                          go_wp2
                          go_ret
                          exact ⟨by first | rfl | (simp; done) | (simp [*]; done), by repeat (first | exact Drawn0.refl _ | apply Drawn0.step)⟩
                        · replace c15 := Bool.eq_false_iff.mpr c15
                          subst c15
                          have H1 : (if 0 ≤ (wrap64 (x4_1 - 1)) then (if (wrap64 (x4_1 - 1)) < (a0.size : Int) then (if (bt a0 (wrap64 (x4_1 - 1))) = 45 then (some false) else (chartutil_validName.l0 kj10 a0 true (wrap64 (x4_1 + 1)))) else (none)) else (none)) = some r := by rw [if_neg (show ¬ (false = true) by decide)] at H; exact H
                          clear H
                          have H := H1
                          clear H1
                          obtain ⟨ji16, hji16⟩ : ∃ j_ : Int, (wrap64 (x4_1 - 1)) = j_ := ⟨_, rfl⟩
                          replace H : (if 0 ≤ (ji16) then (if (ji16) < (a0.size : Int) then (if (bt a0 (ji16)) = 45 then (some false) else (chartutil_validName.l0 kj10 a0 true (wrap64 (x4_1 + 1)))) else (none)) else (none)) = some r := by first | (rw [hji16] at H; exact H) | (simp only [hji16] at H ⊢; exact H)
                          have hji16w : (IntKind.i64.wrap (x4_1 - 1)) = ji16 := (i64_w _).trans hji16
                          by_cases c17 : 0 ≤ (ji16)
                          · rw [if_pos c17] at H
                            have c17b0 : decide (0 ≤ (ji16)) = true := decide_eq_true c17
                            clear c17
                            by_cases c18 : (ji16) < (a0.size : Int)
                            · rw [if_pos c18] at H
                              have c18b0 : decide ((ji16) < (a0.size : Int)) = true := decide_eq_true c18
                              clear c18
                              by_cases c20 : (bt a0 (ji16)) = 45
                              · rw [if_pos c20] at H
                                have c20b0 : ((bt a0 (ji16)) == 45) = true := beq_iff_eq.mpr c20
                                have c20b1 : ((bt a0 (ji16)) != 45) = false := bne_eq_false_iff_eq.mpr c20
                                clear c20
                                obtain rfl := Option.some.inj H
                                have p19 : 0 ≤ ((ji16) : Int) := of_decide_eq_true (by first | (with_reducible assumption) | assumption)
                                have q19 : (ji16) < (a0.size : Int) := of_decide_eq_true (by first | (with_reducible assumption) | assumption)
                                have hx19 := bt_at a0 (ji16)
                                replace p19 := eq_true p19
                                replace q19 := eq_true q19
                                go_wp2
                                go_ret
                                exact ⟨by first | rfl | (simp; done) | (simp only [← hji16] <;> (first | rfl | simp)) | (simp [*]; done), by repeat (first | exact Drawn0.refl _ | apply Drawn0.step)⟩
                              · rw [if_neg c20] at H
                                have c20b0 : ((bt a0 (ji16)) == 45) = false := beq_eq_false_iff_ne.mpr c20
                                have c20b1 : ((bt a0 (ji16)) != 45) = true := bne_iff_ne.mpr c20
                                have H' := Aside0.mk H
                                clear H
                                have p19 : 0 ≤ ((ji16) : Int) := of_decide_eq_true (by first | (with_reducible assumption) | assumption)
                                have q19 : (ji16) < (a0.size : Int) := of_decide_eq_true (by first | (with_reducible assumption) | assumption)
                                have hx19 := bt_at a0 (ji16)
                                replace p19 := eq_true p19
                                replace q19 := eq_true q19
                                go_wp2
                                go_roundg kj10
                                case measure => have := HK1.out; have := HJ4.out; have := HJ10.out; omega
                                case rel => exact ⟨(true), (wrap64 (x4_1 + 1)), (by first | rfl | (simp; done) | (simp [*]; done)), (by first | rfl | (simp; done) | (simp [*]; done)), H', ⟨by have := HK1.out; have := HJ4.out; have := HJ10.out; omega⟩, by repeat (first | exact Drawn0.refl _ | apply Drawn0.step)⟩
                            · rw [if_neg c18] at H
                              exact absurd H (by simp)
                          · rw [if_neg c17] at H
                            exact absurd H (by simp)
                      · rw [if_neg c14] at H
                        have c14b0 : ((bt a0 x4_1) == 46) = false := beq_eq_false_iff_ne.mpr c14
                        have c14b1 : ((bt a0 x4_1) != 46) = true := bne_iff_ne.mpr c14
                        obtain rfl := Option.some.inj H
                        go_wp2
                        go_ret
                        exact ⟨by first | rfl | (simp; done) | (simp [*]; done), by repeat (first | exact Drawn0.refl _ | apply Drawn0.step)⟩
        · rw [if_neg c3] at H
          exact absurd H (by simp)
      · rw [if_neg c2] at H
        have c2b0 : decide (x4_1 < (a0.size : Int)) = false := decide_eq_false c2
        clear c2
        by_cases c21 : x3_1 = true
        · subst c21
          have H1 : (some false) = some r := by rw [if_pos rfl] at H; exact H
          clear H
          have H := H1
          clear H1
          obtain rfl := Option.some.inj H
          go_wp2
          go_ret
          exact ⟨by first | rfl | (simp; done) | (simp [*]; done), by repeat (first | exact Drawn0.refl _ | apply Drawn0.step)⟩
        · replace c21 := Bool.eq_false_iff.mpr c21
          subst c21
          have H1 : (if 0 ≤ (wrap64 ((a0.size : Int) - 1)) then (if (wrap64 ((a0.size : Int) - 1)) < (a0.size : Int) then (some ((bt a0 (wrap64 ((a0.size : Int) - 1))) != 45)) else (none)) else (none)) = some r := by rw [if_neg (show ¬ (false = true) by decide)] at H; exact H
          clear H
          have H := H1
          clear H1
          obtain ⟨ji22, hji22⟩ : ∃ j_ : Int, (wrap64 ((a0.size : Int) - 1)) = j_ := ⟨_, rfl⟩
          replace H : (if 0 ≤ (ji22) then (if (ji22) < (a0.size : Int) then (some ((bt a0 (ji22)) != 45)) else (none)) else (none)) = some r := by first | (rw [hji22] at H; exact H) | (simp only [hji22] at H ⊢; exact H)
          have hji22w : (IntKind.i64.wrap ((a0.size : Int) - 1)) = ji22 := (i64_w _).trans hji22
          by_cases c23 : 0 ≤ (ji22)
          · rw [if_pos c23] at H
            have c23b0 : decide (0 ≤ (ji22)) = true := decide_eq_true c23
            clear c23
            by_cases c24 : (ji22) < (a0.size : Int)
            · rw [if_pos c24] at H
              have c24b0 : decide ((ji22) < (a0.size : Int)) = true := decide_eq_true c24
              clear c24
              obtain rfl := Option.some.inj H
              have p25 : 0 ≤ ((ji22) : Int) := of_decide_eq_true (by first | (with_reducible assumption) | assumption)
              have q25 : (ji22) < (a0.size : Int) := of_decide_eq_true (by first | (with_reducible assumption) | assumption)
              have hx25 := bt_at a0 (ji22)
              replace p25 := eq_true p25
              replace q25 := eq_true q25
              go_wp2
              go_ret
              exact ⟨by first | rfl | (simp; done) | (simp only [← hji22] <;> (first | rfl | simp)) | (simp [*]; done), by repeat (first | exact Drawn0.refl _ | apply Drawn0.step)⟩
            · rw [if_neg c24] at H
              exact absurd H (by simp)
          · rw [if_neg c23] at H
            exact absurd H (by simp)

/-- THE ONE PURE STATEMENT of chartutil_validName: yours. -/
def chartutil_validName.Pure : Prop := ∀ (a0 : ByteArray), a0.size ≤ 140737488351232 → ∃ k, chartutil_validName.f k a0 = some true
theorem chartutil_validName.walk (P : chartutil_validName.Pure) (a0 : ByteArray) (w : World) (w0 : a0.size ≤ 140737488351232) :
    Calls Tryd.prog 14 #[.string a0] w fun e w' => e = .returned (.bool true) ∧ Below w.heap.size w w' := by
  obtain ⟨k, h⟩ := P a0 w0
  refine (chartutil_validName.calls k a0 true w h).mono ?_
  rintro e w' ⟨rfl, hd⟩
  exact ⟨rfl, hd.below⟩

end Go.Proofs.YtdomnigegpigiabDoor.PvalidName

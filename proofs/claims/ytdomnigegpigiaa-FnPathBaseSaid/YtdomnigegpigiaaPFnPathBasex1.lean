-- PRINTED BY print.sh 35421559b90ae4d0a3588c463048766b98c2df88dd9212a6774a882060cdf62d: not written by this session
import Derived.Test.YtdomnigegpigiaaPFnPathBasex0
namespace Go.Proofs.Ytdomnigegpigiaa.PFnPathBase
open Go.RowKit Go.Proofs.YtdomnigegpigiaaW.PrintWords Go.Proofs.YtdomnigegpigiaaW.PrintLast Go.Proofs.YtdomnigegpigiaaW.PrintMore
attribute [local go_sem] max2_int min2_int max_two min_two max_three min_three max_four min_four   -- for this text's walks alone
set_option linter.unusedVariables false
set_option linter.unusedSimpArgs false

/-! ### spec_Ascii: function 28 -/
def spec_Ascii.l0 : Nat → ByteArray → Int → Int → Option (Bool)
  | 0, _, _, _ => none
  | k + 1, x0, x5, x6 => if x6 < x5 then (if 0 ≤ x6 then (if x6 < (x0.size : Int) then (if (bt x0 x6) > 127 then (some false) else (spec_Ascii.l0 k x0 x5 (wrap64 (x6 + 1)))) else (none)) else (none)) else (some true)
def spec_Ascii.f (k : Nat) (a0 : ByteArray) : Option (Bool) := spec_Ascii.l0 k a0 (a0.size : Int) 0
theorem spec_Ascii.mono_l : ∀ k, (∀ y0 y1 y2, LeO (spec_Ascii.l0 k y0 y1 y2) (spec_Ascii.l0 (k + 1) y0 y1 y2))
  | 0 => fun _ _ _ r h => by simp [spec_Ascii.l0] at h
  | k + 1 => by
    have ih0 := spec_Ascii.mono_l k
    · intro y0 y1 y2
      unfold spec_Ascii.l0
      repeat' first
      | (with_reducible exact ih0 _ _ _)
      | (with_reducible exact LeO.refl _)
      | (with_reducible exact LeO.none _)
      | (with_reducible refine LeO.ite ?_ ?_)
      | (with_reducible refine LeO.bind ?_ (fun _ => ?_))
      | exact ih0 _ _ _
      | exact LeO.none _
      | refine LeO.ite ?_ ?_
      | refine LeO.bind ?_ (fun _ => ?_)
theorem spec_Ascii.mono : ∀ a0 k, LeO (spec_Ascii.f k a0) (spec_Ascii.f (k + 1) a0) := by
  intro a0 k
  have ih0 := spec_Ascii.mono_l k
  unfold spec_Ascii.f
  repeat' first
      | (with_reducible exact ih0 _ _ _)
      | (with_reducible exact LeO.refl _)
      | (with_reducible exact LeO.none _)
      | (with_reducible refine LeO.ite ?_ ?_)
      | (with_reducible refine LeO.bind ?_ (fun _ => ?_))
      | exact ih0 _ _ _
      | exact LeO.none _
      | refine LeO.ite ?_ ?_
      | refine LeO.bind ?_ (fun _ => ?_)
set_option maxHeartbeats 8000000 in
set_option maxRecDepth 100000 in
theorem spec_Ascii.calls (k : Nat) (a0 : ByteArray) (r : Bool) (w : World) (h : spec_Ascii.f k a0 = some r) :
    Calls Try.prog 28 #[.string a0] w fun e w' => e = .returned (.bool r) ∧ Drawn0 w w' := by
  have H : (spec_Ascii.l0 k a0 (a0.size : Int) 0) = some r := h
  clear h
  have H' := Aside0.mk H
  clear H
  go_enter Try.func28, Try.ntmps28
  go_wp2
  go_loopg [6] k (fun kq v6 w' => ∃ (x6_1 : Int), v6 = .int .i64 x6_1 ∧ Aside0 (spec_Ascii.l0 kq a0 (a0.size : Int) x6_1 = some r) ∧ Aside0 (kq ≤ k) ∧ Drawn0 w w')
  case atStart => exact ⟨(0), (by first | rfl | (simp; done) | (simp [*]; done)), H', ⟨Nat.le_refl _⟩, by repeat (first | exact Drawn0.refl _ | apply Drawn0.step)⟩
  case round =>
    clear H'
    obtain ⟨x6_1, rfl, HA, HK1, ⟨m1, rfl⟩⟩ := hrel
    cases gk with
    | zero => exact absurd HA.out (by simp [spec_Ascii.l0])
    | succ k1 =>
      have H := HA.out
      clear HA
      simp only [spec_Ascii.l0] at H
      by_cases c2 : x6_1 < (a0.size : Int)
      · rw [if_pos c2] at H
        have c2b0 : decide (x6_1 < (a0.size : Int)) = true := decide_eq_true c2
        clear c2
        by_cases c3 : 0 ≤ x6_1
        · rw [if_pos c3] at H
          have c3b0 : decide (0 ≤ x6_1) = true := decide_eq_true c3
          clear c3
          by_cases c4 : x6_1 < (a0.size : Int)
          · rw [if_pos c4] at H
            have c4b0 : decide (x6_1 < (a0.size : Int)) = true := decide_eq_true c4
            clear c4
            by_cases c6 : (bt a0 x6_1) > 127
            · rw [if_pos c6] at H
              have c6b0 : decide (127 < (bt a0 x6_1)) = true := decide_eq_true c6
              clear c6
              obtain rfl := Option.some.inj H
              have p5 : 0 ≤ (x6_1 : Int) := of_decide_eq_true (by first | (with_reducible assumption) | assumption)
              have q5 : x6_1 < (a0.size : Int) := of_decide_eq_true (by first | (with_reducible assumption) | assumption)
              have hx5 := bt_at a0 x6_1
              replace p5 := eq_true p5
              replace q5 := eq_true q5
              go_wp2
              go_ret
              exact ⟨by first | rfl | (simp; done) | (simp [*]; done), by repeat (first | exact Drawn0.refl _ | apply Drawn0.step)⟩
            · rw [if_neg c6] at H
              have c6b0 : decide (127 < (bt a0 x6_1)) = false := decide_eq_false c6
              clear c6
              have H' := Aside0.mk H
              clear H
              have p5 : 0 ≤ (x6_1 : Int) := of_decide_eq_true (by first | (with_reducible assumption) | assumption)
              have q5 : x6_1 < (a0.size : Int) := of_decide_eq_true (by first | (with_reducible assumption) | assumption)
              have hx5 := bt_at a0 x6_1
              replace p5 := eq_true p5
              replace q5 := eq_true q5
              go_wp2
              go_roundg k1
              case measure => have := HK1.out; omega
              case rel => exact ⟨(wrap64 (x6_1 + 1)), (by first | rfl | (simp; done) | (simp [*]; done)), H', ⟨by have := HK1.out; omega⟩, by repeat (first | exact Drawn0.refl _ | apply Drawn0.step)⟩
          · rw [if_neg c4] at H
            exact absurd H (by simp)
        · rw [if_neg c3] at H
          exact absurd H (by simp)
      · rw [if_neg c2] at H
        have c2b0 : decide (x6_1 < (a0.size : Int)) = false := decide_eq_false c2
        clear c2
        obtain rfl := Option.some.inj H
        go_wp2
        go_ret
        exact ⟨by first | rfl | (simp; done) | (simp [*]; done), by repeat (first | exact Drawn0.refl _ | apply Drawn0.step)⟩

/-! ### laws_heClean: function 15 -/
mutual
def laws_heClean.l0 : Nat → ByteArray → Int → Int → Option (Bool)
  | 0, _, _, _ => none
  | k + 1, x0, x3, x4 => if x4 ≤ (x0.size : Int) then (if x4 = (x0.size : Int) then (laws_heClean.j1 k x0 x3 x4 true) else (if 0 ≤ x4 then (if x4 < (x0.size : Int) then (laws_heClean.j1 k x0 x3 x4 ((bt x0 x4) == 47)) else (none)) else (none))) else (if (x0.size : Int) ≤ 100 then ((spec_Ascii.f k x0).bind fun t101 => (some t101)) else (some false))
def laws_heClean.j1 : Nat → ByteArray → Int → Int → Bool → Option (Bool)
  | 0, _, _, _, _ => none
  | k + 1, x0, x3, x4, x21 => if x21 = true then (if 0 ≤ x3 then (if x3 ≤ x4 then (if x4 ≤ (x0.size : Int) then (if (x0.extract (x3 : Int).toNat (x4 : Int).toNat).toList = ([] : List UInt8) then (some false) else (if (x0.extract (x3 : Int).toNat (x4 : Int).toNat).toList = ([46] : List UInt8) then (some false) else (if (x0.extract (x3 : Int).toNat (x4 : Int).toNat).toList = ([46, 46] : List UInt8) then (some false) else (laws_heClean.l0 k x0 (wrap64 (x4 + 1)) (wrap64 (x4 + 1)))))) else (none)) else (none)) else (none)) else (laws_heClean.l0 k x0 x3 (wrap64 (x4 + 1)))
end
def laws_heClean.f (k : Nat) (a0 : ByteArray) : Option (Bool) := laws_heClean.l0 k a0 0 0
theorem laws_heClean.mono_l : ∀ k, (∀ y0 y1 y2, LeO (laws_heClean.l0 k y0 y1 y2) (laws_heClean.l0 (k + 1) y0 y1 y2)) ∧ (∀ y0 y1 y2 y3, LeO (laws_heClean.j1 k y0 y1 y2 y3) (laws_heClean.j1 (k + 1) y0 y1 y2 y3))
  | 0 => ⟨fun _ _ _ r h => by simp [laws_heClean.l0] at h, fun _ _ _ _ r h => by simp [laws_heClean.j1] at h⟩
  | k + 1 => by
    obtain ⟨ih0, ih1⟩ := laws_heClean.mono_l k
    refine ⟨?_, ?_⟩
    · intro y0 y1 y2
      unfold laws_heClean.l0
      repeat' first
      | (with_reducible exact ih0 _ _ _)
      | (with_reducible exact ih1 _ _ _ _)
      | (with_reducible exact spec_Ascii.mono _ _)
      | (with_reducible exact LeO.refl _)
      | (with_reducible exact LeO.none _)
      | (with_reducible refine LeO.ite ?_ ?_)
      | (with_reducible refine LeO.bind ?_ (fun _ => ?_))
      | exact ih0 _ _ _
      | exact ih1 _ _ _ _
      | exact spec_Ascii.mono _ _
      | exact LeO.none _
      | refine LeO.ite ?_ ?_
      | refine LeO.bind ?_ (fun _ => ?_)
    · intro y0 y1 y2 y3
      unfold laws_heClean.j1
      repeat' first
      | (with_reducible exact ih0 _ _ _)
      | (with_reducible exact ih1 _ _ _ _)
      | (with_reducible exact spec_Ascii.mono _ _)
      | (with_reducible exact LeO.refl _)
      | (with_reducible exact LeO.none _)
      | (with_reducible refine LeO.ite ?_ ?_)
      | (with_reducible refine LeO.bind ?_ (fun _ => ?_))
      | exact ih0 _ _ _
      | exact ih1 _ _ _ _
      | exact spec_Ascii.mono _ _
      | exact LeO.none _
      | refine LeO.ite ?_ ?_
      | refine LeO.bind ?_ (fun _ => ?_)
theorem laws_heClean.mono : ∀ a0 k, LeO (laws_heClean.f k a0) (laws_heClean.f (k + 1) a0) := by
  intro a0 k
  obtain ⟨ih0, ih1⟩ := laws_heClean.mono_l k
  unfold laws_heClean.f
  repeat' first
      | (with_reducible exact ih0 _ _ _)
      | (with_reducible exact ih1 _ _ _ _)
      | (with_reducible exact spec_Ascii.mono _ _)
      | (with_reducible exact LeO.refl _)
      | (with_reducible exact LeO.none _)
      | (with_reducible refine LeO.ite ?_ ?_)
      | (with_reducible refine LeO.bind ?_ (fun _ => ?_))
      | exact ih0 _ _ _
      | exact ih1 _ _ _ _
      | exact spec_Ascii.mono _ _
      | exact LeO.none _
      | refine LeO.ite ?_ ?_
      | refine LeO.bind ?_ (fun _ => ?_)
set_option maxHeartbeats 8000000 in
set_option maxRecDepth 100000 in
theorem laws_heClean.calls (k : Nat) (a0 : ByteArray) (r : Bool) (w : World) (h : laws_heClean.f k a0 = some r) :
    Calls Try.prog 15 #[.string a0] w fun e w' => e = .returned (.bool r) ∧ Drawn0 w w' := by
  have H : (laws_heClean.l0 k a0 0 0) = some r := h
  clear h
  have H' := Aside0.mk H
  clear H
  go_enter Try.func15, Try.ntmps15
  go_wp2
  go_loopg [3, 4] k (fun kq v3 v4 w' => ∃ (x3_1 : Int) (x4_1 : Int), v3 = .int .i64 x3_1 ∧ v4 = .int .i64 x4_1 ∧ Aside0 (laws_heClean.l0 kq a0 x3_1 x4_1 = some r) ∧ Aside0 (kq ≤ k) ∧ Drawn0 w w')
  case atStart => exact ⟨(0), (0), (by first | rfl | (simp; done) | (simp [*]; done)), (by first | rfl | (simp; done) | (simp [*]; done)), H', ⟨Nat.le_refl _⟩, by repeat (first | exact Drawn0.refl _ | apply Drawn0.step)⟩
  case round =>
    clear H'
    try clear c1
    obtain ⟨x3_1, x4_1, rfl, rfl, HA, HK1, ⟨m1, rfl⟩⟩ := hrel
    cases gk with
    | zero => exact absurd HA.out (by simp [laws_heClean.l0])
    | succ k1 =>
      have H := HA.out
      clear HA
      simp only [laws_heClean.l0] at H
      by_cases c2 : x4_1 ≤ (a0.size : Int)
      · rw [if_pos c2] at H
        have c2b0 : decide (x4_1 ≤ (a0.size : Int)) = true := decide_eq_true c2
        clear c2
        have HC3 := Aside0.mk H
        clear H
        go_upto_region 5 with (fail)
        go_cut [21] (fun v21 wc => ∃ (kq : Nat) (x21_2 : Bool), v21 = .bool x21_2 ∧ Aside0 (laws_heClean.j1 kq a0 x3_1 x4_1 x21_2 = some r) ∧ Aside0 (kq ≤ k1) ∧ Drawn0 w wc)
        case first =>
          have H := HC3.out
          clear HC3
          by_cases c4 : x4_1 = (a0.size : Int)
          · rw [if_pos c4] at H
            have c4b0 : (x4_1 == (a0.size : Int)) = true := beq_iff_eq.mpr c4
            have c4b1 : (x4_1 != (a0.size : Int)) = false := bne_eq_false_iff_eq.mpr c4
            clear c4
            (first | rw [c4b0] | (simp only [i64_w, i32_w]; rw [c4b0]) | skip)
            have H' := Aside0.mk H
            clear H
            go_wp2
            go_meet
            case rel => exact ⟨_, (true), (by first | rfl | (simp; done) | (simp [*]; done)), H', ⟨by have := HK1.out; first | omega | exact Nat.le_refl _⟩, by repeat (first | exact Drawn0.refl _ | apply Drawn0.step)⟩
          · rw [if_neg c4] at H
            have c4b0 : (x4_1 == (a0.size : Int)) = false := beq_eq_false_iff_ne.mpr c4
            have c4b1 : (x4_1 != (a0.size : Int)) = true := bne_iff_ne.mpr c4
            (first | rw [c4b0] | (simp only [i64_w, i32_w]; rw [c4b0]) | skip)
            by_cases c5 : 0 ≤ x4_1
            · rw [if_pos c5] at H
              have c5b0 : decide (0 ≤ x4_1) = true := decide_eq_true c5
              clear c5
              by_cases c6 : x4_1 < (a0.size : Int)
              · rw [if_pos c6] at H
                have c6b0 : decide (x4_1 < (a0.size : Int)) = true := decide_eq_true c6
                clear c6
                have H' := Aside0.mk H
                clear H
                have p7 : 0 ≤ (x4_1 : Int) := of_decide_eq_true (by first | (with_reducible assumption) | assumption)
                have q7 : x4_1 < (a0.size : Int) := of_decide_eq_true (by first | (with_reducible assumption) | assumption)
                have hx7 := bt_at a0 x4_1
                replace p7 := eq_true p7
                replace q7 := eq_true q7
                go_wp2
                go_meet
                case rel => exact ⟨_, (((bt a0 x4_1) == 47)), (by first | rfl | (simp; done) | (simp [*]; done)), H', ⟨by have := HK1.out; first | omega | exact Nat.le_refl _⟩, by repeat (first | exact Drawn0.refl _ | apply Drawn0.step)⟩
              · rw [if_neg c6] at H
                exact absurd H (by simp)
            · rw [if_neg c5] at H
              exact absurd H (by simp)
        case rest =>
          clear HC3
          try clear c1
          try clear c2
          try clear c2b0
          try clear p2
          try clear c4
          try clear c4b0
          try clear c4b1
          try clear c5
          try clear c5b0
          try clear c6
          try clear c6b0
          try clear p7
          try clear q7
          try clear hx7
          try clear p7
          try clear q7
          obtain ⟨kq, x21_2, rfl, HA, HJ2, ⟨mc2, rfl⟩⟩ := hcut
          cases kq with
          | zero => exact absurd HA.out (by simp [laws_heClean.j1])
          | succ kj2 =>
            have H := HA.out
            clear HA
            simp only [laws_heClean.j1] at H
            by_cases c8 : x21_2 = true
            · subst c8
              have H1 : (if 0 ≤ x3_1 then (if x3_1 ≤ x4_1 then (if x4_1 ≤ (a0.size : Int) then (if (a0.extract (x3_1 : Int).toNat (x4_1 : Int).toNat).toList = ([] : List UInt8) then (some false) else (if (a0.extract (x3_1 : Int).toNat (x4_1 : Int).toNat).toList = ([46] : List UInt8) then (some false) else (if (a0.extract (x3_1 : Int).toNat (x4_1 : Int).toNat).toList = ([46, 46] : List UInt8) then (some false) else (laws_heClean.l0 kj2 a0 (wrap64 (x4_1 + 1)) (wrap64 (x4_1 + 1)))))) else (none)) else (none)) else (none)) = some r := by rw [if_pos rfl] at H; exact H
              clear H
              have H := H1
              clear H1
              by_cases c9 : 0 ≤ x3_1
              · rw [if_pos c9] at H
                have c9b0 := eq_true c9
                have c9b1 : decide (0 ≤ x3_1) = true := decide_eq_true c9
                clear c9
                by_cases c10 : x3_1 ≤ x4_1
                · rw [if_pos c10] at H
                  have c10b0 := eq_true c10
                  have c10b1 : decide (x3_1 ≤ x4_1) = true := decide_eq_true c10
                  clear c10
                  by_cases c11 : x4_1 ≤ (a0.size : Int)
                  · rw [if_pos c11] at H
                    have c11b0 := eq_true c11
                    have c11b1 : decide (x4_1 ≤ (a0.size : Int)) = true := decide_eq_true c11
                    clear c11
                    by_cases c12 : (a0.extract (x3_1 : Int).toNat (x4_1 : Int).toNat).toList = ([] : List UInt8)
                    · rw [if_pos c12] at H
                      have c12b0 : ((a0.extract (x3_1 : Int).toNat (x4_1 : Int).toNat).toList == ([] : List UInt8)) = true := beq_iff_eq.mpr c12
                      have c12b1 : ((a0.extract (x3_1 : Int).toNat (x4_1 : Int).toNat).toList != ([] : List UInt8)) = false := bne_eq_false_iff_eq.mpr c12
                      clear c12
                      obtain rfl := Option.some.inj H
                      go_wp2
                      go_ret
                      exact ⟨by first | rfl | (simp; done) | (simp [*]; done), by repeat (first | exact Drawn0.refl _ | apply Drawn0.step)⟩
                    · rw [if_neg c12] at H
                      have c12b0 : ((a0.extract (x3_1 : Int).toNat (x4_1 : Int).toNat).toList == ([] : List UInt8)) = false := beq_eq_false_iff_ne.mpr c12
                      have c12b1 : ((a0.extract (x3_1 : Int).toNat (x4_1 : Int).toNat).toList != ([] : List UInt8)) = true := bne_iff_ne.mpr c12
                      by_cases c13 : (a0.extract (x3_1 : Int).toNat (x4_1 : Int).toNat).toList = ([46] : List UInt8)
                      · rw [if_pos c13] at H
                        have c13b0 : ((a0.extract (x3_1 : Int).toNat (x4_1 : Int).toNat).toList == ([46] : List UInt8)) = true := beq_iff_eq.mpr c13
                        have c13b1 : ((a0.extract (x3_1 : Int).toNat (x4_1 : Int).toNat).toList != ([46] : List UInt8)) = false := bne_eq_false_iff_eq.mpr c13
                        clear c13
                        obtain rfl := Option.some.inj H
                        go_wp2
                        go_ret
                        exact ⟨by first | rfl | (simp; done) | (simp [*]; done), by repeat (first | exact Drawn0.refl _ | apply Drawn0.step)⟩
                      · rw [if_neg c13] at H
                        have c13b0 : ((a0.extract (x3_1 : Int).toNat (x4_1 : Int).toNat).toList == ([46] : List UInt8)) = false := beq_eq_false_iff_ne.mpr c13
                        have c13b1 : ((a0.extract (x3_1 : Int).toNat (x4_1 : Int).toNat).toList != ([46] : List UInt8)) = true := bne_iff_ne.mpr c13
                        by_cases c14 : (a0.extract (x3_1 : Int).toNat (x4_1 : Int).toNat).toList = ([46, 46] : List UInt8)
                        · rw [if_pos c14] at H
                          have c14b0 : ((a0.extract (x3_1 : Int).toNat (x4_1 : Int).toNat).toList == ([46, 46] : List UInt8)) = true := beq_iff_eq.mpr c14
                          have c14b1 : ((a0.extract (x3_1 : Int).toNat (x4_1 : Int).toNat).toList != ([46, 46] : List UInt8)) = false := bne_eq_false_iff_eq.mpr c14
                          clear c14
                          obtain rfl := Option.some.inj H
                          go_wp2
                          go_ret
                          exact ⟨by first | rfl | (simp; done) | (simp [*]; done), by repeat (first | exact Drawn0.refl _ | apply Drawn0.step)⟩
                        · rw [if_neg c14] at H
                          have c14b0 : ((a0.extract (x3_1 : Int).toNat (x4_1 : Int).toNat).toList == ([46, 46] : List UInt8)) = false := beq_eq_false_iff_ne.mpr c14
                          have c14b1 : ((a0.extract (x3_1 : Int).toNat (x4_1 : Int).toNat).toList != ([46, 46] : List UInt8)) = true := bne_iff_ne.mpr c14
                          have H' := Aside0.mk H
                          clear H
                          go_wp2
                          go_roundg kj2
                          case measure => have := HK1.out; have := HJ2.out; omega
                          case rel => exact ⟨(wrap64 (x4_1 + 1)), (wrap64 (x4_1 + 1)), (by first | rfl | (simp; done) | (simp [*]; done)), (by first | rfl | (simp; done) | (simp [*]; done)), H', ⟨by have := HK1.out; have := HJ2.out; omega⟩, by repeat (first | exact Drawn0.refl _ | apply Drawn0.step)⟩
                  · rw [if_neg c11] at H
                    exact absurd H (by simp)
                · rw [if_neg c10] at H
                  exact absurd H (by simp)
              · rw [if_neg c9] at H
                exact absurd H (by simp)
            · replace c8 := Bool.eq_false_iff.mpr c8
              subst c8
              have H1 : (laws_heClean.l0 kj2 a0 x3_1 (wrap64 (x4_1 + 1))) = some r := by rw [if_neg (show ¬ (false = true) by decide)] at H; exact H
              clear H
              have H := H1
              clear H1
              have H' := Aside0.mk H
              clear H
              go_wp2
              go_roundg kj2
              case measure => have := HK1.out; have := HJ2.out; omega
              case rel => exact ⟨(x3_1), (wrap64 (x4_1 + 1)), (by first | rfl | (simp; done) | (simp [*]; done)), (by first | rfl | (simp; done) | (simp [*]; done)), H', ⟨by have := HK1.out; have := HJ2.out; omega⟩, by repeat (first | exact Drawn0.refl _ | apply Drawn0.step)⟩
      · rw [if_neg c2] at H
        have c2b0 : decide (x4_1 ≤ (a0.size : Int)) = false := decide_eq_false c2
        clear c2
        by_cases c15 : (a0.size : Int) ≤ 100
        · rw [if_pos c15] at H
          have c15b0 : decide ((a0.size : Int) ≤ 100) = true := decide_eq_true c15
          have c15b1 : decide (a0.size ≤ 100) = true := decide_eq_true (by omega)
          clear c15
          replace H := Option.bind_eq_some_iff.mp H
          obtain ⟨t101, A160, H⟩ := H
          replace H : (some t101) = some r := H
          have A16 := Aside0.mk A160
          clear A160
          obtain rfl := Option.some.inj H
          go_wp2_with (first | (go_at_call 28; (with_reducible refine (spec_Ascii.calls k1 a0 t101 _ A16.out).mono ?_); rintro e w' ⟨rfl, ⟨nd, rfl⟩⟩))
          go_ret
          exact ⟨by first | rfl | (simp; done) | (simp [*]; done), by repeat (first | exact Drawn0.refl _ | apply Drawn0.step)⟩
        · rw [if_neg c15] at H
          have c15b0 : decide ((a0.size : Int) ≤ 100) = false := decide_eq_false c15
          have c15b1 : decide (a0.size ≤ 100) = false := decide_eq_false (by omega)
          clear c15
          obtain rfl := Option.some.inj H
          go_wp2
          go_ret
          exact ⟨by first | rfl | (simp; done) | (simp [*]; done), by repeat (first | exact Drawn0.refl _ | apply Drawn0.step)⟩

/-! ### ignore_zzBase: function 34 -/
mutual
def ignore_zzBase.j1 : Nat → ByteArray → Option (ByteArray)
  | 0, _ => none
  | k + 1, x0 => ignore_zzBase.l1 k x0 (wrap64 ((x0.size : Int) - 1))
def ignore_zzBase.j3 : Nat → ByteArray → Int → Option (ByteArray)
  | 0, _, _ => none
  | k + 1, x0, x3 => if x3 ≥ 0 then (if 0 ≤ (wrap64 (x3 + 1)) then (if (wrap64 (x3 + 1)) ≤ (x0.size : Int) then (if (x0.extract ((wrap64 (x3 + 1)) : Int).toNat x0.size).toList = ([] : List UInt8) then (some (⟨#[47]⟩ : ByteArray)) else (some (x0.extract ((wrap64 (x3 + 1)) : Int).toNat x0.size))) else (none)) else (none)) else (if x0.toList = ([] : List UInt8) then (some (⟨#[47]⟩ : ByteArray)) else (some x0))
def ignore_zzBase.l1 : Nat → ByteArray → Int → Option (ByteArray)
  | 0, _, _ => none
  | k + 1, x0, x3 => if x3 ≥ 0 then (if 0 ≤ x3 then (if x3 < (x0.size : Int) then (if (bt x0 x3) = 47 then (ignore_zzBase.j3 k x0 x3) else (ignore_zzBase.l1 k x0 (wrap64 (x3 - 1)))) else (none)) else (none)) else (ignore_zzBase.j3 k x0 x3)
def ignore_zzBase.l0 : Nat → ByteArray → Option (ByteArray)
  | 0, _ => none
  | k + 1, x0 => if (x0.size : Int) > 0 then (if 0 ≤ (wrap64 ((x0.size : Int) - 1)) then (if (wrap64 ((x0.size : Int) - 1)) < (x0.size : Int) then (if (bt x0 (wrap64 ((x0.size : Int) - 1))) = 47 then (if (wrap64 ((x0.size : Int) - 1)) ≤ (x0.size : Int) then (ignore_zzBase.l0 k (x0.extract 0 ((wrap64 ((x0.size : Int) - 1)) : Int).toNat)) else (none)) else (ignore_zzBase.j1 k x0)) else (none)) else (none)) else (ignore_zzBase.j1 k x0)
end
def ignore_zzBase.f (k : Nat) (a0 : ByteArray) : Option (ByteArray) := if a0.toList = ([] : List UInt8) then (some (⟨#[46]⟩ : ByteArray)) else (ignore_zzBase.l0 k a0)
theorem ignore_zzBase.mono_l : ∀ k, (∀ y0, LeO (ignore_zzBase.j1 k y0) (ignore_zzBase.j1 (k + 1) y0)) ∧ (∀ y0 y1, LeO (ignore_zzBase.j3 k y0 y1) (ignore_zzBase.j3 (k + 1) y0 y1)) ∧ (∀ y0 y1, LeO (ignore_zzBase.l1 k y0 y1) (ignore_zzBase.l1 (k + 1) y0 y1)) ∧ (∀ y0, LeO (ignore_zzBase.l0 k y0) (ignore_zzBase.l0 (k + 1) y0))
  | 0 => ⟨fun _ r h => by simp [ignore_zzBase.j1] at h, fun _ _ r h => by simp [ignore_zzBase.j3] at h, fun _ _ r h => by simp [ignore_zzBase.l1] at h, fun _ r h => by simp [ignore_zzBase.l0] at h⟩
  | k + 1 => by
    obtain ⟨ih0, ih1, ih2, ih3⟩ := ignore_zzBase.mono_l k
    refine ⟨?_, ?_, ?_, ?_⟩
    · intro y0
      unfold ignore_zzBase.j1
      repeat' first
      | (with_reducible exact ih0 _)
      | (with_reducible exact ih1 _ _)
      | (with_reducible exact ih2 _ _)
      | (with_reducible exact ih3 _)
      | (with_reducible exact LeO.refl _)
      | (with_reducible exact LeO.none _)
      | (with_reducible refine LeO.ite ?_ ?_)
      | (with_reducible refine LeO.bind ?_ (fun _ => ?_))
      | exact ih0 _
      | exact ih1 _ _
      | exact ih2 _ _
      | exact ih3 _
      | exact LeO.none _
      | refine LeO.ite ?_ ?_
      | refine LeO.bind ?_ (fun _ => ?_)
    · intro y0 y1
      unfold ignore_zzBase.j3
      repeat' first
      | (with_reducible exact ih0 _)
      | (with_reducible exact ih1 _ _)
      | (with_reducible exact ih2 _ _)
      | (with_reducible exact ih3 _)
      | (with_reducible exact LeO.refl _)
      | (with_reducible exact LeO.none _)
      | (with_reducible refine LeO.ite ?_ ?_)
      | (with_reducible refine LeO.bind ?_ (fun _ => ?_))
      | exact ih0 _
      | exact ih1 _ _
      | exact ih2 _ _
      | exact ih3 _
      | exact LeO.none _
      | refine LeO.ite ?_ ?_
      | refine LeO.bind ?_ (fun _ => ?_)
    · intro y0 y1
      unfold ignore_zzBase.l1
      repeat' first
      | (with_reducible exact ih0 _)
      | (with_reducible exact ih1 _ _)
      | (with_reducible exact ih2 _ _)
      | (with_reducible exact ih3 _)
      | (with_reducible exact LeO.refl _)
      | (with_reducible exact LeO.none _)
      | (with_reducible refine LeO.ite ?_ ?_)
      | (with_reducible refine LeO.bind ?_ (fun _ => ?_))
      | exact ih0 _
      | exact ih1 _ _
      | exact ih2 _ _
      | exact ih3 _
      | exact LeO.none _
      | refine LeO.ite ?_ ?_
      | refine LeO.bind ?_ (fun _ => ?_)
    · intro y0
      unfold ignore_zzBase.l0
      repeat' first
      | (with_reducible exact ih0 _)
      | (with_reducible exact ih1 _ _)
      | (with_reducible exact ih2 _ _)
      | (with_reducible exact ih3 _)
      | (with_reducible exact LeO.refl _)
      | (with_reducible exact LeO.none _)
      | (with_reducible refine LeO.ite ?_ ?_)
      | (with_reducible refine LeO.bind ?_ (fun _ => ?_))
      | exact ih0 _
      | exact ih1 _ _
      | exact ih2 _ _
      | exact ih3 _
      | exact LeO.none _
      | refine LeO.ite ?_ ?_
      | refine LeO.bind ?_ (fun _ => ?_)
theorem ignore_zzBase.mono : ∀ a0 k, LeO (ignore_zzBase.f k a0) (ignore_zzBase.f (k + 1) a0) := by
  intro a0 k
  obtain ⟨ih0, ih1, ih2, ih3⟩ := ignore_zzBase.mono_l k
  unfold ignore_zzBase.f
  repeat' first
      | (with_reducible exact ih0 _)
      | (with_reducible exact ih1 _ _)
      | (with_reducible exact ih2 _ _)
      | (with_reducible exact ih3 _)
      | (with_reducible exact LeO.refl _)
      | (with_reducible exact LeO.none _)
      | (with_reducible refine LeO.ite ?_ ?_)
      | (with_reducible refine LeO.bind ?_ (fun _ => ?_))
      | exact ih0 _
      | exact ih1 _ _
      | exact ih2 _ _
      | exact ih3 _
      | exact LeO.none _
      | refine LeO.ite ?_ ?_
      | refine LeO.bind ?_ (fun _ => ?_)
set_option maxHeartbeats 8000000 in
set_option maxRecDepth 100000 in
theorem ignore_zzBase.calls (k : Nat) (a0 : ByteArray) (r : ByteArray) (w : World) (h : ignore_zzBase.f k a0 = some r) :
    Calls Try.prog 34 #[.string a0] w fun e w' => e = .returned (.string r) ∧ Drawn0 w w' := by
  have H : (if a0.toList = ([] : List UInt8) then (some (⟨#[46]⟩ : ByteArray)) else (ignore_zzBase.l0 k a0)) = some r := h
  clear h
  by_cases c2 : a0.toList = ([] : List UInt8)
  · rw [if_pos c2] at H
    have c2b0 : (a0.toList == ([] : List UInt8)) = true := beq_iff_eq.mpr c2
    have c2b1 : (a0.toList != ([] : List UInt8)) = false := bne_eq_false_iff_eq.mpr c2
    clear c2
    obtain rfl := Option.some.inj H
    go_enter Try.func34, Try.ntmps34
    go_wp2
    go_ret
    exact ⟨by first | rfl | (simp; done) | (simp [*]; done), by repeat (first | exact Drawn0.refl _ | apply Drawn0.step)⟩
  · rw [if_neg c2] at H
    have c2b0 : (a0.toList == ([] : List UInt8)) = false := beq_eq_false_iff_ne.mpr c2
    have c2b1 : (a0.toList != ([] : List UInt8)) = true := bne_iff_ne.mpr c2
    have HC3 := Aside0.mk H
    clear H
    go_enter Try.func34, Try.ntmps34
    go_upto_block 0 with (fail)
    go_cut [0] (fun v0 wc => ∃ (kq : Nat) (x0_2 : ByteArray), v0 = .string x0_2 ∧ Aside0 (ignore_zzBase.j1 kq x0_2 = some r) ∧ Aside0 (kq ≤ k) ∧ Drawn0 w wc)
    case first =>
      have H := HC3.out
      clear HC3
      have H' := Aside0.mk H
      clear H
      go_wp2
      go_loopg [0] k (fun kq v0 w' => ∃ (x0_1 : ByteArray), v0 = .string x0_1 ∧ Aside0 (ignore_zzBase.l0 kq x0_1 = some r) ∧ Aside0 (kq ≤ k) ∧ Drawn0 w w')
      case atStart => exact ⟨(a0), (by first | rfl | (simp; done) | (simp [*]; done)), H', ⟨Nat.le_refl _⟩, by repeat (first | exact Drawn0.refl _ | apply Drawn0.step)⟩
      case round =>
        clear H'
        try clear c2
        try clear c2b0
        try clear c2b1
        try clear p2
        try clear c3
        obtain ⟨x0_1, rfl, HA, HK1, ⟨m1, rfl⟩⟩ := hrel
        cases gk with
        | zero => exact absurd HA.out (by simp [ignore_zzBase.l0])
        | succ k1 =>
          have H := HA.out
          clear HA
          simp only [ignore_zzBase.l0] at H
          by_cases c4 : (x0_1.size : Int) > 0
          · rw [if_pos c4] at H
            have c4b0 : decide (0 < (x0_1.size : Int)) = true := decide_eq_true c4
            have c4b1 : decide (0 < x0_1.size) = true := decide_eq_true (by omega)
            clear c4
            (first | rw [c4b0] | (simp only [i64_w, i32_w]; rw [c4b0]) | skip)
            obtain ⟨ji5, hji5⟩ : ∃ j_ : Int, (wrap64 ((x0_1.size : Int) - 1)) = j_ := ⟨_, rfl⟩
            replace H : (if 0 ≤ (ji5) then (if (ji5) < (x0_1.size : Int) then (if (bt x0_1 (ji5)) = 47 then (if (ji5) ≤ (x0_1.size : Int) then (ignore_zzBase.l0 k1 (x0_1.extract 0 ((ji5) : Int).toNat)) else (none)) else (ignore_zzBase.j1 k1 x0_1)) else (none)) else (none)) = some r := by first | (rw [hji5] at H; exact H) | (simp only [hji5] at H ⊢; exact H)
            have hji5w : (IntKind.i64.wrap ((x0_1.size : Int) - 1)) = ji5 := (i64_w _).trans hji5
            by_cases c6 : 0 ≤ (ji5)
            · rw [if_pos c6] at H
              have c6b0 : decide (0 ≤ (ji5)) = true := decide_eq_true c6
              clear c6
              by_cases c7 : (ji5) < (x0_1.size : Int)
              · rw [if_pos c7] at H
                have c7b0 : decide ((ji5) < (x0_1.size : Int)) = true := decide_eq_true c7
                clear c7
                by_cases c9 : (bt x0_1 (ji5)) = 47
                · rw [if_pos c9] at H
                  have c9b0 : ((bt x0_1 (ji5)) == 47) = true := beq_iff_eq.mpr c9
                  have c9b1 : ((bt x0_1 (ji5)) != 47) = false := bne_eq_false_iff_eq.mpr c9
                  clear c9
                  have c10b0 := eq_true (of_decide_eq_true (by first | (with_reducible assumption) | assumption) : 0 ≤ (ji5))
                  by_cases c11 : (ji5) ≤ (x0_1.size : Int)
                  · rw [if_pos c11] at H
                    have c11b0 := eq_true c11
                    have c11b1 : decide ((ji5) ≤ (x0_1.size : Int)) = true := decide_eq_true c11
                    clear c11
                    have H' := Aside0.mk H
                    clear H
                    have p8 : 0 ≤ ((ji5) : Int) := of_decide_eq_true (by first | (with_reducible assumption) | assumption)
                    have q8 : (ji5) < (x0_1.size : Int) := of_decide_eq_true (by first | (with_reducible assumption) | assumption)
                    have hx8 := bt_at x0_1 (ji5)
                    replace p8 := eq_true p8
                    replace q8 := eq_true q8
                    go_wp2
                    go_roundg k1
                    case measure => have := HK1.out; omega
                    case rel => exact ⟨(x0_1.extract 0 ((ji5) : Int).toNat), (by first | rfl | (simp; done) | (simp only [← hji5] <;> (first | rfl | simp)) | (simp [*]; done)), H', ⟨by have := HK1.out; omega⟩, by repeat (first | exact Drawn0.refl _ | apply Drawn0.step)⟩
                  · rw [if_neg c11] at H
                    exact absurd H (by simp)
                · rw [if_neg c9] at H
                  have c9b0 : ((bt x0_1 (ji5)) == 47) = false := beq_eq_false_iff_ne.mpr c9
                  have c9b1 : ((bt x0_1 (ji5)) != 47) = true := bne_iff_ne.mpr c9
                  have H' := Aside0.mk H
                  clear H
                  have p8 : 0 ≤ ((ji5) : Int) := of_decide_eq_true (by first | (with_reducible assumption) | assumption)
                  have q8 : (ji5) < (x0_1.size : Int) := of_decide_eq_true (by first | (with_reducible assumption) | assumption)
                  have hx8 := bt_at x0_1 (ji5)
                  replace p8 := eq_true p8
                  replace q8 := eq_true q8
                  go_wp2
                  go_meet
                  case rel => exact ⟨_, (x0_1), (by first | rfl | (simp; done) | (simp [*]; done)), H', ⟨by have := HK1.out; first | omega | exact Nat.le_refl _⟩, by repeat (first | exact Drawn0.refl _ | apply Drawn0.step)⟩
              · rw [if_neg c7] at H
                exact absurd H (by simp)
            · rw [if_neg c6] at H
              exact absurd H (by simp)
          · rw [if_neg c4] at H
            have c4b0 : decide (0 < (x0_1.size : Int)) = false := decide_eq_false c4
            have c4b1 : decide (0 < x0_1.size) = false := decide_eq_false (by omega)
            clear c4
            (first | rw [c4b0] | (simp only [i64_w, i32_w]; rw [c4b0]) | skip)
            have H' := Aside0.mk H
            clear H
            go_wp2
            go_meet
            case rel => exact ⟨_, (x0_1), (by first | rfl | (simp; done) | (simp [*]; done)), H', ⟨by have := HK1.out; first | omega | exact Nat.le_refl _⟩, by repeat (first | exact Drawn0.refl _ | apply Drawn0.step)⟩
    case rest =>
      clear HC3
      try clear c1
      try clear c2
      try clear c2b0
      try clear c2b1
      try clear p2
      try clear c3
      try clear c4
      try clear c4b0
      try clear c4b1
      try clear c6
      try clear c6b0
      try clear p6
      try clear c7
      try clear c7b0
      try clear p8
      try clear q8
      try clear hx8
      try clear c9
      try clear c9b0
      try clear c9b1
      try clear c10
      try clear c10b0
      try clear c11
      try clear c11b0
      try clear c11b1
      try clear p2
      try clear p8
      try clear q8
      obtain ⟨kq, x0_2, rfl, HA, HJ2, ⟨mc2, rfl⟩⟩ := hcut
      cases kq with
      | zero => exact absurd HA.out (by simp [ignore_zzBase.j1])
      | succ kj2 =>
        have H := HA.out
        clear HA
        simp only [ignore_zzBase.j1] at H
        have HC12 := Aside0.mk H
        clear H
        go_upto_block 2 with (fail)
        go_cut [3] (fun v3 wc => ∃ (kq : Nat) (x3_11 : Int), v3 = .int .i64 x3_11 ∧ Aside0 (ignore_zzBase.j3 kq x0_2 x3_11 = some r) ∧ Aside0 (kq ≤ kj2) ∧ Drawn0 w wc)
        case first =>
          have H := HC12.out
          clear HC12
          have H' := Aside0.mk H
          clear H
          go_wp2
          go_loopg [3] kj2 (fun kq v3 w' => ∃ (x3_2 : Int), v3 = .int .i64 x3_2 ∧ Aside0 (ignore_zzBase.l1 kq x0_2 x3_2 = some r) ∧ Aside0 (kq ≤ kj2) ∧ Drawn0 w w')
          case atStart => exact ⟨(wrap64 ((x0_2.size : Int) - 1)), (by first | rfl | (simp; done) | (simp [*]; done)), H', ⟨Nat.le_refl _⟩, by repeat (first | exact Drawn0.refl _ | apply Drawn0.step)⟩
          case round =>
            clear H'
            try clear c1
            try clear c2
            try clear c2b0
            try clear c2b1
            try clear p2
            try clear c3
            try clear c4
            try clear c4b0
            try clear c4b1
            try clear c6
            try clear c6b0
            try clear p6
            try clear c7
            try clear c7b0
            try clear p8
            try clear q8
            try clear hx8
            try clear c9
            try clear c9b0
            try clear c9b1
            try clear c10
            try clear c10b0
            try clear c11
            try clear c11b0
            try clear c11b1
            try clear p2
            try clear p6
            try clear p8
            try clear q8
            obtain ⟨x3_2, rfl, HA, HK2, ⟨m2, rfl⟩⟩ := hrel
            cases gk with
            | zero => exact absurd HA.out (by simp [ignore_zzBase.l1])
            | succ k2 =>
              have H := HA.out
              clear HA
              simp only [ignore_zzBase.l1] at H
              by_cases c13 : x3_2 ≥ 0
              · rw [if_pos c13] at H
                have c13b0 : decide (0 ≤ x3_2) = true := decide_eq_true c13
                clear c13
                (first | rw [c13b0] | (simp only [i64_w, i32_w]; rw [c13b0]) | skip)
                by_cases c14 : 0 ≤ x3_2
                · rw [if_pos c14] at H
                  have c14b0 : decide (0 ≤ x3_2) = true := decide_eq_true c14
                  clear c14
                  by_cases c15 : x3_2 < (x0_2.size : Int)
                  · rw [if_pos c15] at H
                    have c15b0 : decide (x3_2 < (x0_2.size : Int)) = true := decide_eq_true c15
                    clear c15
                    by_cases c17 : (bt x0_2 x3_2) = 47
                    · rw [if_pos c17] at H
                      have c17b0 : ((bt x0_2 x3_2) == 47) = true := beq_iff_eq.mpr c17
                      have c17b1 : ((bt x0_2 x3_2) != 47) = false := bne_eq_false_iff_eq.mpr c17
                      clear c17
                      have H' := Aside0.mk H
                      clear H
                      have p16 : 0 ≤ (x3_2 : Int) := of_decide_eq_true (by first | (with_reducible assumption) | assumption)
                      have q16 : x3_2 < (x0_2.size : Int) := of_decide_eq_true (by first | (with_reducible assumption) | assumption)
                      have hx16 := bt_at x0_2 x3_2
                      replace p16 := eq_true p16
                      replace q16 := eq_true q16
                      go_wp2
                      go_meet
                      case rel => exact ⟨_, (x3_2), (by first | rfl | (simp; done) | (simp [*]; done)), H', ⟨by have := HJ2.out; have := HK2.out; first | omega | exact Nat.le_refl _⟩, by repeat (first | exact Drawn0.refl _ | apply Drawn0.step)⟩
                    · rw [if_neg c17] at H
                      have c17b0 : ((bt x0_2 x3_2) == 47) = false := beq_eq_false_iff_ne.mpr c17
                      have c17b1 : ((bt x0_2 x3_2) != 47) = true := bne_iff_ne.mpr c17
                      have H' := Aside0.mk H
                      clear H
                      have p16 : 0 ≤ (x3_2 : Int) := of_decide_eq_true (by first | (with_reducible assumption) | assumption)
                      have q16 : x3_2 < (x0_2.size : Int) := of_decide_eq_true (by first | (with_reducible assumption) | assumption)
                      have hx16 := bt_at x0_2 x3_2
                      replace p16 := eq_true p16
                      replace q16 := eq_true q16
                      go_wp2
                      go_roundg k2
                      case measure => have := HJ2.out; have := HK2.out; omega
                      case rel => exact ⟨(wrap64 (x3_2 - 1)), (by first | rfl | (simp; done) | (simp [*]; done)), H', ⟨by have := HJ2.out; have := HK2.out; omega⟩, by repeat (first | exact Drawn0.refl _ | apply Drawn0.step)⟩
                  · rw [if_neg c15] at H
                    exact absurd H (by simp)
                · rw [if_neg c14] at H
                  exact absurd H (by simp)
              · rw [if_neg c13] at H
                have c13b0 : decide (0 ≤ x3_2) = false := decide_eq_false c13
                clear c13
                (first | rw [c13b0] | (simp only [i64_w, i32_w]; rw [c13b0]) | skip)
                have H' := Aside0.mk H
                clear H
                go_wp2
                go_meet
                case rel => exact ⟨_, (x3_2), (by first | rfl | (simp; done) | (simp [*]; done)), H', ⟨by have := HJ2.out; have := HK2.out; first | omega | exact Nat.le_refl _⟩, by repeat (first | exact Drawn0.refl _ | apply Drawn0.step)⟩
        case rest =>
          clear HC12
          try clear c1
          try clear p1
          try clear q1
          try clear hx1
          try clear c2
          try clear c2b0
          try clear c2b1
          try clear p2
          try clear c3
          try clear c4
          try clear c4b0
          try clear c4b1
          try clear c6
          try clear c6b0
          try clear p6
          try clear c7
          try clear c7b0
          try clear p8
          try clear q8
          try clear hx8
          try clear c9
          try clear c9b0
          try clear c9b1
          try clear c10
          try clear c10b0
          try clear c11
          try clear c11b0
          try clear c11b1
          try clear c13
          try clear c13b0
          try clear c14
          try clear c14b0
          try clear c15
          try clear c15b0
          try clear p16
          try clear q16
          try clear hx16
          try clear c17
          try clear c17b0
          try clear c17b1
          try clear p16
          try clear p2
          try clear p6
          try clear p8
          try clear q16
          try clear q8
          obtain ⟨kq, x3_11, rfl, HA, HJ11, ⟨mc11, rfl⟩⟩ := hcut
          cases kq with
          | zero => exact absurd HA.out (by simp [ignore_zzBase.j3])
          | succ kj11 =>
            have H := HA.out
            clear HA
            simp only [ignore_zzBase.j3] at H
            by_cases c18 : x3_11 ≥ 0
            · rw [if_pos c18] at H
              have c18b0 : decide (0 ≤ x3_11) = true := decide_eq_true c18
              clear c18
              obtain ⟨ji19, hji19⟩ : ∃ j_ : Int, (wrap64 (x3_11 + 1)) = j_ := ⟨_, rfl⟩
              replace H : (if 0 ≤ (ji19) then (if (ji19) ≤ (x0_2.size : Int) then (if (x0_2.extract ((ji19) : Int).toNat x0_2.size).toList = ([] : List UInt8) then (some (⟨#[47]⟩ : ByteArray)) else (some (x0_2.extract ((ji19) : Int).toNat x0_2.size))) else (none)) else (none)) = some r := by first | (rw [hji19] at H; exact H) | (simp only [hji19] at H ⊢; exact H)
              have hji19w : (IntKind.i64.wrap (x3_11 + 1)) = ji19 := (i64_w _).trans hji19
              by_cases c20 : 0 ≤ (ji19)
              · rw [if_pos c20] at H
                have c20b0 := eq_true c20
                have c20b1 : decide (0 ≤ (ji19)) = true := decide_eq_true c20
                clear c20
                by_cases c21 : (ji19) ≤ (x0_2.size : Int)
                · rw [if_pos c21] at H
                  have c21b0 := eq_true c21
                  have c21b1 : decide ((ji19) ≤ (x0_2.size : Int)) = true := decide_eq_true c21
                  clear c21
                  by_cases c22 : (x0_2.extract ((ji19) : Int).toNat x0_2.size).toList = ([] : List UInt8)
                  · rw [if_pos c22] at H
                    have c22b0 : ((x0_2.extract ((ji19) : Int).toNat x0_2.size).toList == ([] : List UInt8)) = true := beq_iff_eq.mpr c22
                    have c22b1 : ((x0_2.extract ((ji19) : Int).toNat x0_2.size).toList != ([] : List UInt8)) = false := bne_eq_false_iff_eq.mpr c22
                    clear c22
                    obtain rfl := Option.some.inj H
                    go_wp2
                    go_ret
                    exact ⟨by first | rfl | (simp; done) | (simp only [← hji19] <;> (first | rfl | simp)) | (simp [*]; done), by repeat (first | exact Drawn0.refl _ | apply Drawn0.step)⟩
                  · rw [if_neg c22] at H
                    have c22b0 : ((x0_2.extract ((ji19) : Int).toNat x0_2.size).toList == ([] : List UInt8)) = false := beq_eq_false_iff_ne.mpr c22
                    have c22b1 : ((x0_2.extract ((ji19) : Int).toNat x0_2.size).toList != ([] : List UInt8)) = true := bne_iff_ne.mpr c22
                    obtain rfl := Option.some.inj H
                    go_wp2
                    go_ret
                    exact ⟨by first | rfl | (simp; done) | (simp only [← hji19] <;> (first | rfl | simp)) | (simp [*]; done), by repeat (first | exact Drawn0.refl _ | apply Drawn0.step)⟩
                · rw [if_neg c21] at H
                  exact absurd H (by simp)
              · rw [if_neg c20] at H
                exact absurd H (by simp)
            · rw [if_neg c18] at H
              have c18b0 : decide (0 ≤ x3_11) = false := decide_eq_false c18
              clear c18
              by_cases c23 : x0_2.toList = ([] : List UInt8)
              · rw [if_pos c23] at H
                have c23b0 : (x0_2.toList == ([] : List UInt8)) = true := beq_iff_eq.mpr c23
                have c23b1 : (x0_2.toList != ([] : List UInt8)) = false := bne_eq_false_iff_eq.mpr c23
                clear c23
                obtain rfl := Option.some.inj H
                go_wp2
                go_ret
                exact ⟨by first | rfl | (simp; done) | (simp [*]; done), by repeat (first | exact Drawn0.refl _ | apply Drawn0.step)⟩
              · rw [if_neg c23] at H
                have c23b0 : (x0_2.toList == ([] : List UInt8)) = false := beq_eq_false_iff_ne.mpr c23
                have c23b1 : (x0_2.toList != ([] : List UInt8)) = true := bne_iff_ne.mpr c23
                obtain rfl := Option.some.inj H
                go_wp2
                go_ret
                exact ⟨by first | rfl | (simp; done) | (simp [*]; done), by repeat (first | exact Drawn0.refl _ | apply Drawn0.step)⟩

/-! ### ignore_ZzBase: function 29 -/
def ignore_ZzBase.f (k : Nat) (a0 : ByteArray) : Option (ByteArray) := (ignore_zzBase.f k a0).bind fun t102 => (some t102)
theorem ignore_ZzBase.mono : ∀ a0 k, LeO (ignore_ZzBase.f k a0) (ignore_ZzBase.f (k + 1) a0) := by
  intro a0 k
  unfold ignore_ZzBase.f
  repeat' first
      | (with_reducible exact ignore_zzBase.mono _ _)
      | (with_reducible exact LeO.refl _)
      | (with_reducible exact LeO.none _)
      | (with_reducible refine LeO.ite ?_ ?_)
      | (with_reducible refine LeO.bind ?_ (fun _ => ?_))
      | exact ignore_zzBase.mono _ _
      | exact LeO.none _
      | refine LeO.ite ?_ ?_
      | refine LeO.bind ?_ (fun _ => ?_)
set_option maxHeartbeats 8000000 in
set_option maxRecDepth 100000 in
theorem ignore_ZzBase.calls (k : Nat) (a0 : ByteArray) (r : ByteArray) (w : World) (h : ignore_ZzBase.f k a0 = some r) :
    Calls Try.prog 29 #[.string a0] w fun e w' => e = .returned (.string r) ∧ Drawn0 w w' := by
  have H : ((ignore_zzBase.f k a0).bind fun t102 => (some t102)) = some r := h
  clear h
  replace H := Option.bind_eq_some_iff.mp H
  obtain ⟨t102, A20, H⟩ := H
  replace H : (some t102) = some r := H
  have A2 := Aside0.mk A20
  clear A20
  obtain rfl := Option.some.inj H
  go_enter Try.func29, Try.ntmps29
  go_wp2_with (first | ((with_reducible refine gate_callee (f := 34) rfl ?_); refine goesL_ (some 4) rfl rfl Try.func34 (by kernel_rfl) rfl #[.string a0] rfl (by (try simp only [List.map_toArray, List.map_cons, List.map_nil]); first | done | rfl | (simp only [List.length_drop, List.length_take]; rfl)) ?_; (with_reducible refine (ignore_zzBase.calls k a0 t102 _ A2.out).mono ?_); rintro e w' ⟨rfl, ⟨nd, rfl⟩⟩; refine ⟨_, rfl, ?_⟩))
  go_ret
  exact ⟨by first | rfl | (simp; done) | (simp [*]; done), by repeat (first | exact Drawn0.refl _ | apply Drawn0.step)⟩

end Go.Proofs.Ytdomnigegpigiaa.PFnPathBase

-- printed by a program of this session: the print, turned for a few more operations
import Derived.Test.YtdomnigegpigiabPFnSplitIndexx0
import Derived.Test.YtdomnigegpigiabHSplit
namespace Go.Proofs.Ytdomnigegpigiab.PFnSplitIndex
open Go.RowKit Go.Proofs.YtdomnigegpigiabW.PrintWords Go.Proofs.YtdomnigegpigiabW.PrintLast Go.Proofs.YtdomnigegpigiabW.PrintMore
attribute [local go_sem] max2_int min2_int max_two min_two max_three min_three max_four min_four   -- for this text's walks alone
set_option linter.unusedVariables false
set_option linter.unusedSimpArgs false

-- function 12 (impl_SplitIndex): ours, in YtdomnigegpigiabHSplit

/-! ### spec_kyIndex: function 28 -/
def spec_kyIndex.l0 : Nat → ByteArray → ByteArray → Int → Option (Int)
  | 0, _, _, _ => none
  | k + 1, x0, x1, x5 => if (wrap64 (x5 + (x1.size : Int))) ≤ (x0.size : Int) then (if 0 ≤ x5 then (if x5 ≤ (wrap64 (x5 + (x1.size : Int))) then (if (x0.extract (x5 : Int).toNat ((wrap64 (x5 + (x1.size : Int))) : Int).toNat).toList = x1.toList then (some x5) else (spec_kyIndex.l0 k x0 x1 (wrap64 (x5 + 1)))) else (none)) else (none)) else (some (-1))
def spec_kyIndex.f (k : Nat) (a0 : ByteArray) (a1 : ByteArray) : Option (Int) := spec_kyIndex.l0 k a0 a1 0
theorem spec_kyIndex.mono_l : ∀ k, (∀ y0 y1 y2, LeO (spec_kyIndex.l0 k y0 y1 y2) (spec_kyIndex.l0 (k + 1) y0 y1 y2))
  | 0 => fun _ _ _ r h => by simp [spec_kyIndex.l0] at h
  | k + 1 => by
    have ih0 := spec_kyIndex.mono_l k
    · intro y0 y1 y2
      unfold spec_kyIndex.l0
      repeat' first
      | (with_reducible exact ih0 _ _ _)
      | (with_reducible exact LeO.refl _)
      | (with_reducible exact LeO.none _)
      | (with_reducible refine LeO.ite ?_ ?_)
      | (with_reducible refine LeO.bind ?_ (fun _ => ?_))
      | exact ih0 _ _ _
      | exact LeO.none _
      | refine LeO.ite ?_ ?_
      | refine LeO.bind ?_ (fun _ => ?_)
theorem spec_kyIndex.mono : ∀ a0 a1 k, LeO (spec_kyIndex.f k a0 a1) (spec_kyIndex.f (k + 1) a0 a1) := by
  intro a0 a1 k
  have ih0 := spec_kyIndex.mono_l k
  unfold spec_kyIndex.f
  repeat' first
      | (with_reducible exact ih0 _ _ _)
      | (with_reducible exact LeO.refl _)
      | (with_reducible exact LeO.none _)
      | (with_reducible refine LeO.ite ?_ ?_)
      | (with_reducible refine LeO.bind ?_ (fun _ => ?_))
      | exact ih0 _ _ _
      | exact LeO.none _
      | refine LeO.ite ?_ ?_
      | refine LeO.bind ?_ (fun _ => ?_)
set_option maxHeartbeats 8000000 in
set_option maxRecDepth 100000 in
theorem spec_kyIndex.calls (k : Nat) (a0 : ByteArray) (a1 : ByteArray) (r : Int) (w : World) (h : spec_kyIndex.f k a0 a1 = some r) :
    Calls Try.prog 28 #[.string a0, .string a1] w fun e w' => e = .returned (.int .i64 r) ∧ Drawn0 w w' := by
  have H : (spec_kyIndex.l0 k a0 a1 0) = some r := h
  clear h
  have H' := Aside0.mk H
  clear H
  go_enter Try.func28, Try.ntmps28
  go_wp2
  go_loopg [5] k (fun kq v5 w' => ∃ (x5_1 : Int), v5 = .int .i64 x5_1 ∧ Aside0 (spec_kyIndex.l0 kq a0 a1 x5_1 = some r) ∧ Aside0 (kq ≤ k) ∧ Drawn0 w w')
  case atStart => exact ⟨(0), (by first | rfl | (simp; done) | (simp [*]; done)), H', ⟨Nat.le_refl _⟩, by repeat (first | exact Drawn0.refl _ | apply Drawn0.step)⟩
  case round =>
    clear H'
    try clear c2
    try clear p2
    obtain ⟨x5_1, rfl, HA, HK1, ⟨m1, rfl⟩⟩ := hrel
    cases gk with
    | zero => exact absurd HA.out (by simp [spec_kyIndex.l0])
    | succ k1 =>
      have H := HA.out
      clear HA
      simp only [spec_kyIndex.l0] at H
      by_cases c3 : (wrap64 (x5_1 + (a1.size : Int))) ≤ (a0.size : Int)
      · rw [if_pos c3] at H
        have c3b0 : decide ((wrap64 (x5_1 + (a1.size : Int))) ≤ (a0.size : Int)) = true := decide_eq_true c3
        clear c3
        by_cases c4 : 0 ≤ x5_1
        · rw [if_pos c4] at H
          have c4b0 := eq_true c4
          have c4b1 : decide (0 ≤ x5_1) = true := decide_eq_true c4
          clear c4
          by_cases c5 : x5_1 ≤ (wrap64 (x5_1 + (a1.size : Int)))
          · rw [if_pos c5] at H
            have c5b0 := eq_true c5
            have c5b1 : decide (x5_1 ≤ (wrap64 (x5_1 + (a1.size : Int)))) = true := decide_eq_true c5
            have c6b0 := eq_true (of_decide_eq_true (by first | (with_reducible assumption) | assumption) : (wrap64 (x5_1 + (a1.size : Int))) ≤ (a0.size : Int))
            by_cases c7 : (a0.extract (x5_1 : Int).toNat ((wrap64 (x5_1 + (a1.size : Int))) : Int).toNat).toList = a1.toList
            · rw [if_pos c7] at H
              have c7b0 : ((a0.extract (x5_1 : Int).toNat ((wrap64 (x5_1 + (a1.size : Int))) : Int).toNat).toList == a1.toList) = true := beq_iff_eq.mpr c7
              have c7b1 : ((a0.extract (x5_1 : Int).toNat ((wrap64 (x5_1 + (a1.size : Int))) : Int).toNat).toList != a1.toList) = false := bne_eq_false_iff_eq.mpr c7
              clear c7
              obtain rfl := Option.some.inj H
              go_wp2
              go_ret
              exact ⟨by first | rfl | (simp; done) | (simp [*]; done), by repeat (first | exact Drawn0.refl _ | apply Drawn0.step)⟩
            · rw [if_neg c7] at H
              have c7b0 : ((a0.extract (x5_1 : Int).toNat ((wrap64 (x5_1 + (a1.size : Int))) : Int).toNat).toList == a1.toList) = false := beq_eq_false_iff_ne.mpr c7
              have c7b1 : ((a0.extract (x5_1 : Int).toNat ((wrap64 (x5_1 + (a1.size : Int))) : Int).toNat).toList != a1.toList) = true := bne_iff_ne.mpr c7
              have H' := Aside0.mk H
              clear H
              go_wp2
              go_roundg k1
              case measure => have := HK1.out; omega
              case rel => exact ⟨(wrap64 (x5_1 + 1)), (by first | rfl | (simp; done) | (simp [*]; done)), H', ⟨by have := HK1.out; omega⟩, by repeat (first | exact Drawn0.refl _ | apply Drawn0.step)⟩
          · rw [if_neg c5] at H
            exact absurd H (by simp)
        · rw [if_neg c4] at H
          exact absurd H (by simp)
      · rw [if_neg c3] at H
        have c3b0 : decide ((wrap64 (x5_1 + (a1.size : Int))) ≤ (a0.size : Int)) = false := decide_eq_false c3
        clear c3
        obtain rfl := Option.some.inj H
        go_wp2
        go_ret
        exact ⟨by first | rfl | (simp; done) | (simp [*]; done), by repeat (first | exact Drawn0.refl _ | apply Drawn0.step)⟩

/-! ### spec_KySplitIndex: function 13 -/
mutual
def spec_KySplitIndex.j0 : Nat → ByteArray → Bool → Option (ByteArray × ByteArray × Bool)
  | 0, _, _ => none
  | k + 1, x0, x15 => if x15 = true then (if 0 ≤ (wrap64 ((x0.size : Int) - 1)) then (if (wrap64 ((x0.size : Int) - 1)) ≤ (x0.size : Int) then (spec_KySplitIndex.j1 k (x0.extract 0 ((wrap64 ((x0.size : Int) - 1)) : Int).toNat)) else (none)) else (none)) else (spec_KySplitIndex.j1 k x0)
def spec_KySplitIndex.j1 : Nat → ByteArray → Option (ByteArray × ByteArray × Bool)
  | 0, _ => none
  | k + 1, x0 => if x0.toList = ([] : List UInt8) then (spec_KySplitIndex.j2 k x0 false) else (if 0 < (x0.size : Int) then (spec_KySplitIndex.j2 k x0 ((bt x0 0) == 91)) else (none))
def spec_KySplitIndex.j2 : Nat → ByteArray → Bool → Option (ByteArray × ByteArray × Bool)
  | 0, _, _ => none
  | k + 1, x0, x27 => if x27 = true then (if 1 ≤ (x0.size : Int) then ((spec_kyIndex.f k (x0.extract 1 x0.size) (⟨#[61]⟩ : ByteArray)).bind fun t101 => (if t101 < 0 then (some ((⟨#[]⟩ : ByteArray), (⟨#[]⟩ : ByteArray), false)) else (if 0 ≤ t101 then (if t101 ≤ ((x0.extract 1 x0.size).size : Int) then (if 0 ≤ (wrap64 (t101 + 1)) then (if (wrap64 (t101 + 1)) ≤ ((x0.extract 1 x0.size).size : Int) then (some ((x0.extract 1 x0.size).extract 0 (t101 : Int).toNat, (x0.extract 1 x0.size).extract ((wrap64 (t101 + 1)) : Int).toNat (x0.extract 1 x0.size).size, true)) else (none)) else (none)) else (none)) else (none)))) else (none)) else ((spec_kyIndex.f k x0 (⟨#[61]⟩ : ByteArray)).bind fun t102 => (if t102 < 0 then (some ((⟨#[]⟩ : ByteArray), (⟨#[]⟩ : ByteArray), false)) else (if 0 ≤ t102 then (if t102 ≤ (x0.size : Int) then (if 0 ≤ (wrap64 (t102 + 1)) then (if (wrap64 (t102 + 1)) ≤ (x0.size : Int) then (some (x0.extract 0 (t102 : Int).toNat, x0.extract ((wrap64 (t102 + 1)) : Int).toNat x0.size, true)) else (none)) else (none)) else (none)) else (none))))
end
def spec_KySplitIndex.f (k : Nat) (a0 : ByteArray) : Option (ByteArray × ByteArray × Bool) := if a0.toList = ([] : List UInt8) then (spec_KySplitIndex.j0 k a0 false) else (if 0 ≤ (wrap64 ((a0.size : Int) - 1)) then (if (wrap64 ((a0.size : Int) - 1)) < (a0.size : Int) then (spec_KySplitIndex.j0 k a0 ((bt a0 (wrap64 ((a0.size : Int) - 1))) == 93)) else (none)) else (none))
theorem spec_KySplitIndex.mono_l : ∀ k, (∀ y0 y1, LeO (spec_KySplitIndex.j0 k y0 y1) (spec_KySplitIndex.j0 (k + 1) y0 y1)) ∧ (∀ y0, LeO (spec_KySplitIndex.j1 k y0) (spec_KySplitIndex.j1 (k + 1) y0)) ∧ (∀ y0 y1, LeO (spec_KySplitIndex.j2 k y0 y1) (spec_KySplitIndex.j2 (k + 1) y0 y1))
  | 0 => ⟨fun _ _ r h => by simp [spec_KySplitIndex.j0] at h, fun _ r h => by simp [spec_KySplitIndex.j1] at h, fun _ _ r h => by simp [spec_KySplitIndex.j2] at h⟩
  | k + 1 => by
    obtain ⟨ih0, ih1, ih2⟩ := spec_KySplitIndex.mono_l k
    refine ⟨?_, ?_, ?_⟩
    · intro y0 y1
      unfold spec_KySplitIndex.j0
      repeat' first
      | (with_reducible exact ih0 _ _)
      | (with_reducible exact ih1 _)
      | (with_reducible exact ih2 _ _)
      | (with_reducible exact spec_kyIndex.mono _ _ _)
      | (with_reducible exact LeO.refl _)
      | (with_reducible exact LeO.none _)
      | (with_reducible refine LeO.ite ?_ ?_)
      | (with_reducible refine LeO.bind ?_ (fun _ => ?_))
      | exact ih0 _ _
      | exact ih1 _
      | exact ih2 _ _
      | exact spec_kyIndex.mono _ _ _
      | exact LeO.none _
      | refine LeO.ite ?_ ?_
      | refine LeO.bind ?_ (fun _ => ?_)
    · intro y0
      unfold spec_KySplitIndex.j1
      repeat' first
      | (with_reducible exact ih0 _ _)
      | (with_reducible exact ih1 _)
      | (with_reducible exact ih2 _ _)
      | (with_reducible exact spec_kyIndex.mono _ _ _)
      | (with_reducible exact LeO.refl _)
      | (with_reducible exact LeO.none _)
      | (with_reducible refine LeO.ite ?_ ?_)
      | (with_reducible refine LeO.bind ?_ (fun _ => ?_))
      | exact ih0 _ _
      | exact ih1 _
      | exact ih2 _ _
      | exact spec_kyIndex.mono _ _ _
      | exact LeO.none _
      | refine LeO.ite ?_ ?_
      | refine LeO.bind ?_ (fun _ => ?_)
    · intro y0 y1
      unfold spec_KySplitIndex.j2
      repeat' first
      | (with_reducible exact ih0 _ _)
      | (with_reducible exact ih1 _)
      | (with_reducible exact ih2 _ _)
      | (with_reducible exact spec_kyIndex.mono _ _ _)
      | (with_reducible exact LeO.refl _)
      | (with_reducible exact LeO.none _)
      | (with_reducible refine LeO.ite ?_ ?_)
      | (with_reducible refine LeO.bind ?_ (fun _ => ?_))
      | exact ih0 _ _
      | exact ih1 _
      | exact ih2 _ _
      | exact spec_kyIndex.mono _ _ _
      | exact LeO.none _
      | refine LeO.ite ?_ ?_
      | refine LeO.bind ?_ (fun _ => ?_)
theorem spec_KySplitIndex.mono : ∀ a0 k, LeO (spec_KySplitIndex.f k a0) (spec_KySplitIndex.f (k + 1) a0) := by
  intro a0 k
  obtain ⟨ih0, ih1, ih2⟩ := spec_KySplitIndex.mono_l k
  unfold spec_KySplitIndex.f
  repeat' first
      | (with_reducible exact ih0 _ _)
      | (with_reducible exact ih1 _)
      | (with_reducible exact ih2 _ _)
      | (with_reducible exact spec_kyIndex.mono _ _ _)
      | (with_reducible exact LeO.refl _)
      | (with_reducible exact LeO.none _)
      | (with_reducible refine LeO.ite ?_ ?_)
      | (with_reducible refine LeO.bind ?_ (fun _ => ?_))
      | exact ih0 _ _
      | exact ih1 _
      | exact ih2 _ _
      | exact spec_kyIndex.mono _ _ _
      | exact LeO.none _
      | refine LeO.ite ?_ ?_
      | refine LeO.bind ?_ (fun _ => ?_)
set_option maxHeartbeats 8000000 in
set_option maxRecDepth 100000 in
theorem spec_KySplitIndex.calls (k : Nat) (a0 : ByteArray) (r1 : ByteArray) (r2 : ByteArray) (r3 : Bool) (w : World) (h : spec_KySplitIndex.f k a0 = some (r1, r2, r3)) :
    Calls Try.prog 13 #[.string a0] w fun e w' => e = .returned (.tuple #[.string r1, .string r2, .bool r3]) ∧ Drawn0 w w' := by
  have H : (if a0.toList = ([] : List UInt8) then (spec_KySplitIndex.j0 k a0 false) else (if 0 ≤ (wrap64 ((a0.size : Int) - 1)) then (if (wrap64 ((a0.size : Int) - 1)) < (a0.size : Int) then (spec_KySplitIndex.j0 k a0 ((bt a0 (wrap64 ((a0.size : Int) - 1))) == 93)) else (none)) else (none))) = some (r1, r2, r3) := h
  clear h
  have HC2 := Aside0.mk H
  clear H
  go_enter Try.func13, Try.ntmps13
  go_upto_region 1 with (fail)
  repeat (go_quiet (fail); go_upto_region 1 with (fail))
  go_cut [15] (fun v15 wc => ∃ (kq : Nat) (x15_1 : Bool), v15 = .bool x15_1 ∧ Aside0 (spec_KySplitIndex.j0 kq a0 x15_1 = some (r1, r2, r3)) ∧ Aside0 (kq ≤ k) ∧ Drawn0 w wc)
  case first =>
    have H := HC2.out
    clear HC2
    by_cases c3 : a0.toList = ([] : List UInt8)
    · rw [if_pos c3] at H
      have c3b0 : (a0.toList == ([] : List UInt8)) = true := beq_iff_eq.mpr c3
      have c3b1 : (a0.toList != ([] : List UInt8)) = false := bne_eq_false_iff_eq.mpr c3
      clear c3
      (first | rw [c3b0] | (simp only [i64_w, i32_w]; rw [c3b0]) | skip)
      have H' := Aside0.mk H
      clear H
      go_wp2
      repeat (go_quiet (fail); try go_wp2)
      go_meet
      case rel => exact ⟨_, (false), (by first | rfl | (simp; done) | (simp [*]; done)), H', ⟨by first | omega | exact Nat.le_refl _⟩, by repeat (first | exact Drawn0.refl _ | apply Drawn0.step)⟩
    · rw [if_neg c3] at H
      have c3b0 : (a0.toList == ([] : List UInt8)) = false := beq_eq_false_iff_ne.mpr c3
      have c3b1 : (a0.toList != ([] : List UInt8)) = true := bne_iff_ne.mpr c3
      (first | rw [c3b0] | (simp only [i64_w, i32_w]; rw [c3b0]) | skip)
      obtain ⟨ji4, hji4⟩ : ∃ j_ : Int, (wrap64 ((a0.size : Int) - 1)) = j_ := ⟨_, rfl⟩
      replace H : (if 0 ≤ (ji4) then (if (ji4) < (a0.size : Int) then (spec_KySplitIndex.j0 k a0 ((bt a0 (ji4)) == 93)) else (none)) else (none)) = some (r1, r2, r3) := by first | (rw [hji4] at H; exact H) | (simp only [hji4] at H ⊢; exact H)
      have hji4w : (IntKind.i64.wrap ((a0.size : Int) - 1)) = ji4 := (i64_w _).trans hji4
      by_cases c5 : 0 ≤ (ji4)
      · rw [if_pos c5] at H
        have c5b0 : decide (0 ≤ (ji4)) = true := decide_eq_true c5
        clear c5
        by_cases c6 : (ji4) < (a0.size : Int)
        · rw [if_pos c6] at H
          have c6b0 : decide ((ji4) < (a0.size : Int)) = true := decide_eq_true c6
          clear c6
          have H' := Aside0.mk H
          clear H
          have p7 : 0 ≤ ((ji4) : Int) := of_decide_eq_true (by first | (with_reducible assumption) | assumption)
          have q7 : (ji4) < (a0.size : Int) := of_decide_eq_true (by first | (with_reducible assumption) | assumption)
          have hx7 := bt_at a0 (ji4)
          replace p7 := eq_true p7
          replace q7 := eq_true q7
          go_wp2
          repeat (go_quiet (fail); try go_wp2)
          go_meet
          case rel => exact ⟨_, (((bt a0 (ji4)) == 93)), (by first | rfl | (simp; done) | (simp only [← hji4] <;> (first | rfl | simp)) | (simp [*]; done)), H', ⟨by first | omega | exact Nat.le_refl _⟩, by repeat (first | exact Drawn0.refl _ | apply Drawn0.step)⟩
        · rw [if_neg c6] at H
          exact absurd H (by simp)
      · rw [if_neg c5] at H
        exact absurd H (by simp)
  case rest =>
    clear HC2
    try clear c1
    try clear p2
    try clear c3
    try clear c3b0
    try clear c3b1
    try clear c5
    try clear c5b0
    try clear c6
    try clear c6b0
    try clear p6
    try clear p7
    try clear q7
    try clear hx7
    try clear p7
    try clear q7
    obtain ⟨kq, x15_1, rfl, HA, HJ1, ⟨mc1, rfl⟩⟩ := hcut
    cases kq with
    | zero => exact absurd HA.out (by simp [spec_KySplitIndex.j0])
    | succ kj1 =>
      have H := HA.out
      clear HA
      simp only [spec_KySplitIndex.j0] at H
      have HC8 := Aside0.mk H
      clear H
      go_upto_if 15 with (fail)
      repeat (go_quiet (fail); go_upto_if 15 with (fail))
      go_cut [0] (fun v0 wc => ∃ (kq : Nat) (x0_7 : ByteArray), v0 = .string x0_7 ∧ Aside0 (spec_KySplitIndex.j1 kq x0_7 = some (r1, r2, r3)) ∧ Aside0 (kq ≤ kj1) ∧ Drawn0 w wc)
      case first =>
        have H := HC8.out
        clear HC8
        by_cases c9 : x15_1 = true
        · subst c9
          have H1 : (if 0 ≤ (wrap64 ((a0.size : Int) - 1)) then (if (wrap64 ((a0.size : Int) - 1)) ≤ (a0.size : Int) then (spec_KySplitIndex.j1 kj1 (a0.extract 0 ((wrap64 ((a0.size : Int) - 1)) : Int).toNat)) else (none)) else (none)) = some (r1, r2, r3) := by rw [if_pos rfl] at H; exact H
          clear H
          have H := H1
          clear H1
          obtain ⟨ji10, hji10⟩ : ∃ j_ : Int, (wrap64 ((a0.size : Int) - 1)) = j_ := ⟨_, rfl⟩
          replace H : (if 0 ≤ (ji10) then (if (ji10) ≤ (a0.size : Int) then (spec_KySplitIndex.j1 kj1 (a0.extract 0 ((ji10) : Int).toNat)) else (none)) else (none)) = some (r1, r2, r3) := by first | (rw [hji10] at H; exact H) | (simp only [hji10] at H ⊢; exact H)
          have hji10w : (IntKind.i64.wrap ((a0.size : Int) - 1)) = ji10 := (i64_w _).trans hji10
          by_cases c11 : 0 ≤ (ji10)
          · rw [if_pos c11] at H
            have c11b0 := eq_true c11
            have c11b1 : decide (0 ≤ (ji10)) = true := decide_eq_true c11
            clear c11
            by_cases c12 : (ji10) ≤ (a0.size : Int)
            · rw [if_pos c12] at H
              have c12b0 := eq_true c12
              have c12b1 : decide ((ji10) ≤ (a0.size : Int)) = true := decide_eq_true c12
              clear c12
              have H' := Aside0.mk H
              clear H
              go_wp2
              repeat (go_quiet (fail); try go_wp2)
              go_meet
              case rel => exact ⟨_, (a0.extract 0 ((ji10) : Int).toNat), (by first | rfl | (simp; done) | (simp only [← hji10] <;> (first | rfl | simp)) | (simp [*]; done)), H', ⟨by have := HJ1.out; first | omega | exact Nat.le_refl _⟩, by repeat (first | exact Drawn0.refl _ | apply Drawn0.step)⟩
            · rw [if_neg c12] at H
              exact absurd H (by simp)
          · rw [if_neg c11] at H
            exact absurd H (by simp)
        · replace c9 := Bool.eq_false_iff.mpr c9
          subst c9
          have H1 : (spec_KySplitIndex.j1 kj1 a0) = some (r1, r2, r3) := by rw [if_neg (show ¬ (false = true) by decide)] at H; exact H
          clear H
          have H := H1
          clear H1
          have H' := Aside0.mk H
          clear H
          go_wp2
          repeat (go_quiet (fail); try go_wp2)
          go_meet
          case rel => exact ⟨_, (a0), (by first | rfl | (simp; done) | (simp [*]; done)), H', ⟨by have := HJ1.out; first | omega | exact Nat.le_refl _⟩, by repeat (first | exact Drawn0.refl _ | apply Drawn0.step)⟩
      case rest =>
        clear HC8
        try clear c1
        try clear p2
        try clear c3
        try clear c3b0
        try clear c3b1
        try clear c5
        try clear c5b0
        try clear c6
        try clear c6b0
        try clear p6
        try clear p7
        try clear q7
        try clear hx7
        try clear c9
        try clear c11
        try clear c11b0
        try clear c11b1
        try clear c12
        try clear c12b0
        try clear c12b1
        try clear p2
        try clear p6
        try clear p7
        try clear q7
        obtain ⟨kq, x0_7, rfl, HA, HJ7, ⟨mc7, rfl⟩⟩ := hcut
        cases kq with
        | zero => exact absurd HA.out (by simp [spec_KySplitIndex.j1])
        | succ kj7 =>
          have H := HA.out
          clear HA
          simp only [spec_KySplitIndex.j1] at H
          have HC13 := Aside0.mk H
          clear H
          go_upto_region 3 with (fail)
          repeat (go_quiet (fail); go_upto_region 3 with (fail))
          go_cut [27] (fun v27 wc => ∃ (kq : Nat) (x27_12 : Bool), v27 = .bool x27_12 ∧ Aside0 (spec_KySplitIndex.j2 kq x0_7 x27_12 = some (r1, r2, r3)) ∧ Aside0 (kq ≤ kj7) ∧ Drawn0 w wc)
          case first =>
            have H := HC13.out
            clear HC13
            by_cases c14 : x0_7.toList = ([] : List UInt8)
            · rw [if_pos c14] at H
              have c14b0 : (x0_7.toList == ([] : List UInt8)) = true := beq_iff_eq.mpr c14
              have c14b1 : (x0_7.toList != ([] : List UInt8)) = false := bne_eq_false_iff_eq.mpr c14
              clear c14
              (first | rw [c14b0] | (simp only [i64_w, i32_w]; rw [c14b0]) | skip)
              have H' := Aside0.mk H
              clear H
              go_wp2
              repeat (go_quiet (fail); try go_wp2)
              go_meet
              case rel => exact ⟨_, (false), (by first | rfl | (simp; done) | (simp [*]; done)), H', ⟨by have := HJ1.out; have := HJ7.out; first | omega | exact Nat.le_refl _⟩, by repeat (first | exact Drawn0.refl _ | apply Drawn0.step)⟩
            · rw [if_neg c14] at H
              have c14b0 : (x0_7.toList == ([] : List UInt8)) = false := beq_eq_false_iff_ne.mpr c14
              have c14b1 : (x0_7.toList != ([] : List UInt8)) = true := bne_iff_ne.mpr c14
              (first | rw [c14b0] | (simp only [i64_w, i32_w]; rw [c14b0]) | skip)
              by_cases c15 : 0 < (x0_7.size : Int)
              · rw [if_pos c15] at H
                have c15b0 : decide (0 < (x0_7.size : Int)) = true := decide_eq_true c15
                have c15b1 : decide (0 < x0_7.size) = true := decide_eq_true (by omega)
                clear c15
                have H' := Aside0.mk H
                clear H
                have p16 : 0 ≤ (0 : Int) := (by omega)
                have q16 : 0 < x0_7.size := (by have : (0 : Int) < (x0_7.size : Int) := of_decide_eq_true (by first | (with_reducible assumption) | assumption); omega)
                have hx16 : ∀ h : 0 < x0_7.size, ((x0_7[0]'h).toNat : Int) = bt x0_7 0 := bt_at x0_7 0
                clear p16
                have qi16 : (0 < (x0_7.size : Int)) = True := eq_true (of_decide_eq_true (by first | (with_reducible assumption) | assumption))
                replace q16 := eq_true q16
                go_wp2
                repeat (go_quiet (fail); try go_wp2)
                go_meet
                case rel => exact ⟨_, (((bt x0_7 0) == 91)), (by first | rfl | (simp; done) | (simp [*]; done)), H', ⟨by have := HJ1.out; have := HJ7.out; first | omega | exact Nat.le_refl _⟩, by repeat (first | exact Drawn0.refl _ | apply Drawn0.step)⟩
              · rw [if_neg c15] at H
                exact absurd H (by simp)
          case rest =>
            clear HC13
            try clear c1
            try clear p1
            try clear q1
            try clear hx1
            try clear qi1
            try clear p2
            try clear c3
            try clear c3b0
            try clear c3b1
            try clear c5
            try clear c5b0
            try clear c6
            try clear c6b0
            try clear p6
            try clear c7
            try clear p7
            try clear q7
            try clear hx7
            try clear c9
            try clear c11
            try clear c11b0
            try clear c11b1
            try clear c12
            try clear c12b0
            try clear c12b1
            try clear c13
            try clear c14
            try clear c14b0
            try clear c14b1
            try clear c15
            try clear c15b0
            try clear c15b1
            try clear p16
            try clear q16
            try clear hx16
            try clear qi16
            try clear p16
            try clear p2
            try clear p6
            try clear p7
            try clear q16
            try clear q7
            obtain ⟨kq, x27_12, rfl, HA, HJ12, ⟨mc12, rfl⟩⟩ := hcut
            cases kq with
            | zero => exact absurd HA.out (by simp [spec_KySplitIndex.j2])
            | succ kj12 =>
              have H := HA.out
              clear HA
              simp only [spec_KySplitIndex.j2] at H
              by_cases c17 : x27_12 = true
              · subst c17
                have H1 : (if 1 ≤ (x0_7.size : Int) then ((spec_kyIndex.f kj12 (x0_7.extract 1 x0_7.size) (⟨#[61]⟩ : ByteArray)).bind fun t101 => (if t101 < 0 then (some ((⟨#[]⟩ : ByteArray), (⟨#[]⟩ : ByteArray), false)) else (if 0 ≤ t101 then (if t101 ≤ ((x0_7.extract 1 x0_7.size).size : Int) then (if 0 ≤ (wrap64 (t101 + 1)) then (if (wrap64 (t101 + 1)) ≤ ((x0_7.extract 1 x0_7.size).size : Int) then (some ((x0_7.extract 1 x0_7.size).extract 0 (t101 : Int).toNat, (x0_7.extract 1 x0_7.size).extract ((wrap64 (t101 + 1)) : Int).toNat (x0_7.extract 1 x0_7.size).size, true)) else (none)) else (none)) else (none)) else (none)))) else (none)) = some (r1, r2, r3) := by rw [if_pos rfl] at H; exact H
                clear H
                have H := H1
                clear H1
                by_cases c18 : 1 ≤ (x0_7.size : Int)
                · rw [if_pos c18] at H
                  have c18b0 := eq_true c18
                  have c18b1 : decide (1 ≤ (x0_7.size : Int)) = true := decide_eq_true c18
                  clear c18
                  replace H := Option.bind_eq_some_iff.mp H
                  obtain ⟨t101, A190, H⟩ := H
                  replace H : (if t101 < 0 then (some ((⟨#[]⟩ : ByteArray), (⟨#[]⟩ : ByteArray), false)) else (if 0 ≤ t101 then (if t101 ≤ ((x0_7.extract 1 x0_7.size).size : Int) then (if 0 ≤ (wrap64 (t101 + 1)) then (if (wrap64 (t101 + 1)) ≤ ((x0_7.extract 1 x0_7.size).size : Int) then (some ((x0_7.extract 1 x0_7.size).extract 0 (t101 : Int).toNat, (x0_7.extract 1 x0_7.size).extract ((wrap64 (t101 + 1)) : Int).toNat (x0_7.extract 1 x0_7.size).size, true)) else (none)) else (none)) else (none)) else (none))) = some (r1, r2, r3) := H
                  have A19 := Aside0.mk A190
                  clear A190
                  by_cases c20 : t101 < 0
                  · rw [if_pos c20] at H
                    have c20b0 : decide (t101 < 0) = true := decide_eq_true c20
                    clear c20
                    simp only [Option.some.injEq, Prod.mk.injEq] at H
                    obtain ⟨rfl, rfl, rfl⟩ := H
                    go_wp2_with (first | (go_at_call 28; (with_reducible refine (spec_kyIndex.calls kj12 (x0_7.extract 1 x0_7.size) (⟨#[61]⟩ : ByteArray) t101 _ A19.out).mono ?_); rintro e w' ⟨rfl, ⟨nd, rfl⟩⟩; (try first | exact ⟨rfl, _, World.drewN_drewN _ _ _⟩ | exact ⟨rfl, _, Eq.trans (World.drewN_drewN _ _ _) (congrArg (World.drewN _) (Nat.add_assoc _ _ _))⟩)))
                    try (generalize hxq_ : x0_7.extract 1 x0_7.size = xq_ at *; have Xq_ := Aside0.mk hxq_; clear hxq_)
                    repeat (go_quiet (first | (go_at_call 28; (with_reducible refine (spec_kyIndex.calls kj12 (x0_7.extract 1 x0_7.size) (⟨#[61]⟩ : ByteArray) t101 _ A19.out).mono ?_); rintro e w' ⟨rfl, ⟨nd, rfl⟩⟩; (try first | exact ⟨rfl, _, World.drewN_drewN _ _ _⟩ | exact ⟨rfl, _, Eq.trans (World.drewN_drewN _ _ _) (congrArg (World.drewN _) (Nat.add_assoc _ _ _))⟩))); try go_wp2_with (first | (go_at_call 28; (with_reducible refine (spec_kyIndex.calls kj12 (x0_7.extract 1 x0_7.size) (⟨#[61]⟩ : ByteArray) t101 _ A19.out).mono ?_); rintro e w' ⟨rfl, ⟨nd, rfl⟩⟩; (try first | exact ⟨rfl, _, World.drewN_drewN _ _ _⟩ | exact ⟨rfl, _, Eq.trans (World.drewN_drewN _ _ _) (congrArg (World.drewN _) (Nat.add_assoc _ _ _))⟩))))
                    go_ret3
                    (try (have e_ := Xq_.out; subst e_)); exact ⟨by first | rfl | (simp; done) | (simp [*]; done), by repeat (first | exact Drawn0.refl _ | apply Drawn0.step)⟩
                  · rw [if_neg c20] at H
                    have c20b0 : decide (t101 < 0) = false := decide_eq_false c20
                    clear c20
                    by_cases c21 : 0 ≤ t101
                    · rw [if_pos c21] at H
                      have c21b0 := eq_true c21
                      have c21b1 : decide (0 ≤ t101) = true := decide_eq_true c21
                      clear c21
                      by_cases c22 : t101 ≤ ((x0_7.extract 1 x0_7.size).size : Int)
                      · rw [if_pos c22] at H
                        have c22b0 := eq_true c22
                        have c22b1 : decide (t101 ≤ ((x0_7.extract 1 x0_7.size).size : Int)) = true := decide_eq_true c22
                        clear c22
                        obtain ⟨ji23, hji23⟩ : ∃ j_ : Int, (wrap64 (t101 + 1)) = j_ := ⟨_, rfl⟩
                        replace H : (if 0 ≤ (ji23) then (if (ji23) ≤ ((x0_7.extract 1 x0_7.size).size : Int) then (some ((x0_7.extract 1 x0_7.size).extract 0 (t101 : Int).toNat, (x0_7.extract 1 x0_7.size).extract ((ji23) : Int).toNat (x0_7.extract 1 x0_7.size).size, true)) else (none)) else (none)) = some (r1, r2, r3) := by first | (rw [hji23] at H; exact H) | (simp only [hji23] at H ⊢; exact H)
                        (try rw [hji23] at A19)
                        have hji23w : (IntKind.i64.wrap (t101 + 1)) = ji23 := (i64_w _).trans hji23
                        by_cases c24 : 0 ≤ (ji23)
                        · rw [if_pos c24] at H
                          have c24b0 := eq_true c24
                          have c24b1 : decide (0 ≤ (ji23)) = true := decide_eq_true c24
                          clear c24
                          by_cases c25 : (ji23) ≤ ((x0_7.extract 1 x0_7.size).size : Int)
                          · rw [if_pos c25] at H
                            have c25b0 := eq_true c25
                            have c25b1 : decide ((ji23) ≤ ((x0_7.extract 1 x0_7.size).size : Int)) = true := decide_eq_true c25
                            clear c25
                            simp only [Option.some.injEq, Prod.mk.injEq] at H
                            obtain ⟨rfl, rfl, rfl⟩ := H
                            go_wp2_with (first | (go_at_call 28; (with_reducible refine (spec_kyIndex.calls kj12 (x0_7.extract 1 x0_7.size) (⟨#[61]⟩ : ByteArray) t101 _ A19.out).mono ?_); rintro e w' ⟨rfl, ⟨nd, rfl⟩⟩; (try first | exact ⟨rfl, _, World.drewN_drewN _ _ _⟩ | exact ⟨rfl, _, Eq.trans (World.drewN_drewN _ _ _) (congrArg (World.drewN _) (Nat.add_assoc _ _ _))⟩)))
                            try (generalize hxq_ : x0_7.extract 1 x0_7.size = xq_ at *; have Xq_ := Aside0.mk hxq_; clear hxq_)
                            repeat (go_quiet (first | (go_at_call 28; (with_reducible refine (spec_kyIndex.calls kj12 (x0_7.extract 1 x0_7.size) (⟨#[61]⟩ : ByteArray) t101 _ A19.out).mono ?_); rintro e w' ⟨rfl, ⟨nd, rfl⟩⟩; (try first | exact ⟨rfl, _, World.drewN_drewN _ _ _⟩ | exact ⟨rfl, _, Eq.trans (World.drewN_drewN _ _ _) (congrArg (World.drewN _) (Nat.add_assoc _ _ _))⟩))); try go_wp2_with (first | (go_at_call 28; (with_reducible refine (spec_kyIndex.calls kj12 (x0_7.extract 1 x0_7.size) (⟨#[61]⟩ : ByteArray) t101 _ A19.out).mono ?_); rintro e w' ⟨rfl, ⟨nd, rfl⟩⟩; (try first | exact ⟨rfl, _, World.drewN_drewN _ _ _⟩ | exact ⟨rfl, _, Eq.trans (World.drewN_drewN _ _ _) (congrArg (World.drewN _) (Nat.add_assoc _ _ _))⟩))))
                            go_ret3
                            (try (have e_ := Xq_.out; subst e_)); exact ⟨by first | rfl | (simp; done) | (simp only [← hji23] <;> (first | rfl | simp)) | (simp [*]; done), by repeat (first | exact Drawn0.refl _ | apply Drawn0.step)⟩
                          · rw [if_neg c25] at H
                            exact absurd H (by simp)
                        · rw [if_neg c24] at H
                          exact absurd H (by simp)
                      · rw [if_neg c22] at H
                        exact absurd H (by simp)
                    · rw [if_neg c21] at H
                      exact absurd H (by simp)
                · rw [if_neg c18] at H
                  exact absurd H (by simp)
              · replace c17 := Bool.eq_false_iff.mpr c17
                subst c17
                have H1 : ((spec_kyIndex.f kj12 x0_7 (⟨#[61]⟩ : ByteArray)).bind fun t102 => (if t102 < 0 then (some ((⟨#[]⟩ : ByteArray), (⟨#[]⟩ : ByteArray), false)) else (if 0 ≤ t102 then (if t102 ≤ (x0_7.size : Int) then (if 0 ≤ (wrap64 (t102 + 1)) then (if (wrap64 (t102 + 1)) ≤ (x0_7.size : Int) then (some (x0_7.extract 0 (t102 : Int).toNat, x0_7.extract ((wrap64 (t102 + 1)) : Int).toNat x0_7.size, true)) else (none)) else (none)) else (none)) else (none)))) = some (r1, r2, r3) := by rw [if_neg (show ¬ (false = true) by decide)] at H; exact H
                clear H
                have H := H1
                clear H1
                replace H := Option.bind_eq_some_iff.mp H
                obtain ⟨t102, A260, H⟩ := H
                replace H : (if t102 < 0 then (some ((⟨#[]⟩ : ByteArray), (⟨#[]⟩ : ByteArray), false)) else (if 0 ≤ t102 then (if t102 ≤ (x0_7.size : Int) then (if 0 ≤ (wrap64 (t102 + 1)) then (if (wrap64 (t102 + 1)) ≤ (x0_7.size : Int) then (some (x0_7.extract 0 (t102 : Int).toNat, x0_7.extract ((wrap64 (t102 + 1)) : Int).toNat x0_7.size, true)) else (none)) else (none)) else (none)) else (none))) = some (r1, r2, r3) := H
                have A26 := Aside0.mk A260
                clear A260
                by_cases c27 : t102 < 0
                · rw [if_pos c27] at H
                  have c27b0 : decide (t102 < 0) = true := decide_eq_true c27
                  clear c27
                  simp only [Option.some.injEq, Prod.mk.injEq] at H
                  obtain ⟨rfl, rfl, rfl⟩ := H
                  go_wp2_with (first | (go_at_call 28; (with_reducible refine (spec_kyIndex.calls kj12 x0_7 (⟨#[61]⟩ : ByteArray) t102 _ A26.out).mono ?_); rintro e w' ⟨rfl, ⟨nd, rfl⟩⟩; (try first | exact ⟨rfl, _, World.drewN_drewN _ _ _⟩ | exact ⟨rfl, _, Eq.trans (World.drewN_drewN _ _ _) (congrArg (World.drewN _) (Nat.add_assoc _ _ _))⟩)))
                  repeat (go_quiet (first | (go_at_call 28; (with_reducible refine (spec_kyIndex.calls kj12 x0_7 (⟨#[61]⟩ : ByteArray) t102 _ A26.out).mono ?_); rintro e w' ⟨rfl, ⟨nd, rfl⟩⟩; (try first | exact ⟨rfl, _, World.drewN_drewN _ _ _⟩ | exact ⟨rfl, _, Eq.trans (World.drewN_drewN _ _ _) (congrArg (World.drewN _) (Nat.add_assoc _ _ _))⟩))); try go_wp2_with (first | (go_at_call 28; (with_reducible refine (spec_kyIndex.calls kj12 x0_7 (⟨#[61]⟩ : ByteArray) t102 _ A26.out).mono ?_); rintro e w' ⟨rfl, ⟨nd, rfl⟩⟩; (try first | exact ⟨rfl, _, World.drewN_drewN _ _ _⟩ | exact ⟨rfl, _, Eq.trans (World.drewN_drewN _ _ _) (congrArg (World.drewN _) (Nat.add_assoc _ _ _))⟩))))
                  go_ret3
                  exact ⟨by first | rfl | (simp; done) | (simp [*]; done), by repeat (first | exact Drawn0.refl _ | apply Drawn0.step)⟩
                · rw [if_neg c27] at H
                  have c27b0 : decide (t102 < 0) = false := decide_eq_false c27
                  clear c27
                  by_cases c28 : 0 ≤ t102
                  · rw [if_pos c28] at H
                    have c28b0 := eq_true c28
                    have c28b1 : decide (0 ≤ t102) = true := decide_eq_true c28
                    clear c28
                    by_cases c29 : t102 ≤ (x0_7.size : Int)
                    · rw [if_pos c29] at H
                      have c29b0 := eq_true c29
                      have c29b1 : decide (t102 ≤ (x0_7.size : Int)) = true := decide_eq_true c29
                      clear c29
                      obtain ⟨ji30, hji30⟩ : ∃ j_ : Int, (wrap64 (t102 + 1)) = j_ := ⟨_, rfl⟩
                      replace H : (if 0 ≤ (ji30) then (if (ji30) ≤ (x0_7.size : Int) then (some (x0_7.extract 0 (t102 : Int).toNat, x0_7.extract ((ji30) : Int).toNat x0_7.size, true)) else (none)) else (none)) = some (r1, r2, r3) := by first | (rw [hji30] at H; exact H) | (simp only [hji30] at H ⊢; exact H)
                      (try rw [hji30] at A26)
                      have hji30w : (IntKind.i64.wrap (t102 + 1)) = ji30 := (i64_w _).trans hji30
                      by_cases c31 : 0 ≤ (ji30)
                      · rw [if_pos c31] at H
                        have c31b0 := eq_true c31
                        have c31b1 : decide (0 ≤ (ji30)) = true := decide_eq_true c31
                        clear c31
                        by_cases c32 : (ji30) ≤ (x0_7.size : Int)
                        · rw [if_pos c32] at H
                          have c32b0 := eq_true c32
                          have c32b1 : decide ((ji30) ≤ (x0_7.size : Int)) = true := decide_eq_true c32
                          clear c32
                          simp only [Option.some.injEq, Prod.mk.injEq] at H
                          obtain ⟨rfl, rfl, rfl⟩ := H
                          go_wp2_with (first | (go_at_call 28; (with_reducible refine (spec_kyIndex.calls kj12 x0_7 (⟨#[61]⟩ : ByteArray) t102 _ A26.out).mono ?_); rintro e w' ⟨rfl, ⟨nd, rfl⟩⟩; (try first | exact ⟨rfl, _, World.drewN_drewN _ _ _⟩ | exact ⟨rfl, _, Eq.trans (World.drewN_drewN _ _ _) (congrArg (World.drewN _) (Nat.add_assoc _ _ _))⟩)))
                          repeat (go_quiet (first | (go_at_call 28; (with_reducible refine (spec_kyIndex.calls kj12 x0_7 (⟨#[61]⟩ : ByteArray) t102 _ A26.out).mono ?_); rintro e w' ⟨rfl, ⟨nd, rfl⟩⟩; (try first | exact ⟨rfl, _, World.drewN_drewN _ _ _⟩ | exact ⟨rfl, _, Eq.trans (World.drewN_drewN _ _ _) (congrArg (World.drewN _) (Nat.add_assoc _ _ _))⟩))); try go_wp2_with (first | (go_at_call 28; (with_reducible refine (spec_kyIndex.calls kj12 x0_7 (⟨#[61]⟩ : ByteArray) t102 _ A26.out).mono ?_); rintro e w' ⟨rfl, ⟨nd, rfl⟩⟩; (try first | exact ⟨rfl, _, World.drewN_drewN _ _ _⟩ | exact ⟨rfl, _, Eq.trans (World.drewN_drewN _ _ _) (congrArg (World.drewN _) (Nat.add_assoc _ _ _))⟩))))
                          go_ret3
                          exact ⟨by first | rfl | (simp; done) | (simp only [← hji30] <;> (first | rfl | simp)) | (simp [*]; done), by repeat (first | exact Drawn0.refl _ | apply Drawn0.step)⟩
                        · rw [if_neg c32] at H
                          exact absurd H (by simp)
                      · rw [if_neg c31] at H
                        exact absurd H (by simp)
                    · rw [if_neg c29] at H
                      exact absurd H (by simp)
                  · rw [if_neg c28] at H
                    exact absurd H (by simp)

/-! ### laws_FnSplitIndex: function 4 -/
def laws_FnSplitIndex.j0 : Nat → ByteArray → Option (Bool)
  | 0, _ => none
  | k + 1, x0 => (impl_SplitIndex.f k x0).bind fun bt103 => ((spec_KySplitIndex.f k x0).bind fun bt106 => ((impl_SplitIndex.f k (⟨#[91, 97, 61, 98, 93]⟩ : ByteArray)).bind fun bt109 => (if bt106.2.2 = true then (if bt103.2.2 = 0 then (if bt103.1.toList = bt106.1.toList then (if bt103.2.1.toList = bt106.2.1.toList then (some (bt109.2.1.toList == ([98] : List UInt8))) else (some false)) else (some false)) else (some false)) else (if bt103.2.2 = 1 then (some (bt109.2.1.toList == ([98] : List UInt8))) else (some false)))))
def laws_FnSplitIndex.f (k : Nat) (a0 : ByteArray) (a1 : Bool) : Option (Bool) := if (a0.size : Int) > 2147483647 then (some true) else (if 0 ≤ (mn (a0.size : Int) 40) then (if (mn (a0.size : Int) 40) ≤ (a0.size : Int) then (if a1 = true then (if 1 + (a0.extract 0 ((mn (a0.size : Int) 40) : Int).toNat).size ≤ 9223372036854775807 then (if ((⟨#[91]⟩ : ByteArray) ++ (a0.extract 0 ((mn (a0.size : Int) 40) : Int).toNat)).size + 1 ≤ 9223372036854775807 then (laws_FnSplitIndex.j0 k (((⟨#[91]⟩ : ByteArray) ++ (a0.extract 0 ((mn (a0.size : Int) 40) : Int).toNat)) ++ (⟨#[93]⟩ : ByteArray))) else (none)) else (none)) else (laws_FnSplitIndex.j0 k (a0.extract 0 ((mn (a0.size : Int) 40) : Int).toNat))) else (none)) else (none))
theorem laws_FnSplitIndex.mono_l : ∀ k, (∀ y0, LeO (laws_FnSplitIndex.j0 k y0) (laws_FnSplitIndex.j0 (k + 1) y0))
  | 0 => fun _ r h => by simp [laws_FnSplitIndex.j0] at h
  | k + 1 => by
    have ih0 := laws_FnSplitIndex.mono_l k
    · intro y0
      unfold laws_FnSplitIndex.j0
      repeat' first
      | (with_reducible exact ih0 _)
      | (with_reducible exact impl_SplitIndex.mono _ _)
      | (with_reducible exact spec_KySplitIndex.mono _ _)
      | (with_reducible exact LeO.refl _)
      | (with_reducible exact LeO.none _)
      | (with_reducible refine LeO.ite ?_ ?_)
      | (with_reducible refine LeO.bind ?_ (fun _ => ?_))
      | exact ih0 _
      | exact impl_SplitIndex.mono _ _
      | exact spec_KySplitIndex.mono _ _
      | exact LeO.none _
      | refine LeO.ite ?_ ?_
      | refine LeO.bind ?_ (fun _ => ?_)
theorem laws_FnSplitIndex.mono : ∀ a0 a1 k, LeO (laws_FnSplitIndex.f k a0 a1) (laws_FnSplitIndex.f (k + 1) a0 a1) := by
  intro a0 a1 k
  have ih0 := laws_FnSplitIndex.mono_l k
  unfold laws_FnSplitIndex.f
  repeat' first
      | (with_reducible exact ih0 _)
      | (with_reducible exact impl_SplitIndex.mono _ _)
      | (with_reducible exact spec_KySplitIndex.mono _ _)
      | (with_reducible exact LeO.refl _)
      | (with_reducible exact LeO.none _)
      | (with_reducible refine LeO.ite ?_ ?_)
      | (with_reducible refine LeO.bind ?_ (fun _ => ?_))
      | exact ih0 _
      | exact impl_SplitIndex.mono _ _
      | exact spec_KySplitIndex.mono _ _
      | exact LeO.none _
      | refine LeO.ite ?_ ?_
      | refine LeO.bind ?_ (fun _ => ?_)
set_option maxHeartbeats 8000000 in
set_option maxRecDepth 100000 in
theorem laws_FnSplitIndex.calls (k : Nat) (a0 : ByteArray) (a1 : Bool) (r : Bool) (w : World) (h : laws_FnSplitIndex.f k a0 a1 = some r) :
    Calls Try.prog 4 #[.string a0, .bool a1] w fun e w' => e = .returned (.bool r) ∧ Below w.heap.size w w' := by
  have HB := Aside0.mk (Below.refl w.heap.size w)
  have H : (if (a0.size : Int) > 2147483647 then (some true) else (if 0 ≤ (mn (a0.size : Int) 40) then (if (mn (a0.size : Int) 40) ≤ (a0.size : Int) then (if a1 = true then (if 1 + (a0.extract 0 ((mn (a0.size : Int) 40) : Int).toNat).size ≤ 9223372036854775807 then (if ((⟨#[91]⟩ : ByteArray) ++ (a0.extract 0 ((mn (a0.size : Int) 40) : Int).toNat)).size + 1 ≤ 9223372036854775807 then (laws_FnSplitIndex.j0 k (((⟨#[91]⟩ : ByteArray) ++ (a0.extract 0 ((mn (a0.size : Int) 40) : Int).toNat)) ++ (⟨#[93]⟩ : ByteArray))) else (none)) else (none)) else (laws_FnSplitIndex.j0 k (a0.extract 0 ((mn (a0.size : Int) 40) : Int).toNat))) else (none)) else (none))) = some r := h
  clear h
  by_cases c3 : (a0.size : Int) > 2147483647
  · rw [if_pos c3] at H
    have c3b0 : decide (2147483647 < (a0.size : Int)) = true := decide_eq_true c3
    have c3b1 : decide (2147483647 < a0.size) = true := decide_eq_true (by omega)
    clear c3
    obtain rfl := Option.some.inj H
    go_enter Try.func4, Try.ntmps4
    go_wp2
    go_ret
    exact ⟨by first | rfl | (simp [errW_none, errW_some] <;> rfl) | (simp [*, errW_none, errW_some] <;> rfl), by repeat (first | (with_reducible first | exact HB.out | apply below_alloc | apply pw_below_drewN | apply below_drew1) | exact HB.out)⟩
  · rw [if_neg c3] at H
    have c3b0 : decide (2147483647 < (a0.size : Int)) = false := decide_eq_false c3
    have c3b1 : decide (2147483647 < a0.size) = false := decide_eq_false (by omega)
    clear c3
    obtain ⟨ji4, hji4⟩ : ∃ j_ : Int, (mn (a0.size : Int) 40) = j_ := ⟨_, rfl⟩
    replace H : (if 0 ≤ (ji4) then (if (ji4) ≤ (a0.size : Int) then (if a1 = true then (if 1 + (a0.extract 0 ((ji4) : Int).toNat).size ≤ 9223372036854775807 then (if ((⟨#[91]⟩ : ByteArray) ++ (a0.extract 0 ((ji4) : Int).toNat)).size + 1 ≤ 9223372036854775807 then (laws_FnSplitIndex.j0 k (((⟨#[91]⟩ : ByteArray) ++ (a0.extract 0 ((ji4) : Int).toNat)) ++ (⟨#[93]⟩ : ByteArray))) else (none)) else (none)) else (laws_FnSplitIndex.j0 k (a0.extract 0 ((ji4) : Int).toNat))) else (none)) else (none)) = some r := by first | (rw [hji4] at H; exact H) | (simp only [hji4] at H ⊢; exact H)
    (try (have hji4h : ji4 ≤ 40 := by (rw [← hji4]; unfold mn; (repeat' split) <;> omega)))
    (try (have hji4g : ji4 ≤ 64 := by omega))
    (try (have hji4l : 0 ≤ ji4 := by (rw [← hji4]; unfold mn; (repeat' split) <;> omega)))
    (try (have hji4m : 0 ≤ ji4 := by omega))
    have hji4_ : (if 40 < (a0.size : Int) then 40 else (a0.size : Int)) = ji4 := hji4
    by_cases c5 : 0 ≤ (ji4)
    · rw [if_pos c5] at H
      have c5b0 := eq_true c5
      have c5b1 : decide (0 ≤ (ji4)) = true := decide_eq_true c5
      clear c5
      by_cases c6 : (ji4) ≤ (a0.size : Int)
      · rw [if_pos c6] at H
        have c6b0 := eq_true c6
        have c6b1 : decide ((ji4) ≤ (a0.size : Int)) = true := decide_eq_true c6
        clear c6
        have HC7 := Aside0.mk H
        clear H
        go_enter Try.func4, Try.ntmps4
        go_upto_if 22 with (fail)
        go_cut [0] (fun v0 wc => ∃ (kq : Nat) (x0_6 : ByteArray), v0 = .string x0_6 ∧ Aside0 (laws_FnSplitIndex.j0 kq x0_6 = some r) ∧ Aside0 (kq ≤ k) ∧ Aside0 (Below w.heap.size w wc))
        case first =>
          have H := HC7.out
          clear HC7
          by_cases c8 : a1 = true
          · subst c8
            have H1 : (if 1 + (a0.extract 0 ((ji4) : Int).toNat).size ≤ 9223372036854775807 then (if ((⟨#[91]⟩ : ByteArray) ++ (a0.extract 0 ((ji4) : Int).toNat)).size + 1 ≤ 9223372036854775807 then (laws_FnSplitIndex.j0 k (((⟨#[91]⟩ : ByteArray) ++ (a0.extract 0 ((ji4) : Int).toNat)) ++ (⟨#[93]⟩ : ByteArray))) else (none)) else (none)) = some r := by rw [if_pos rfl] at H; exact H
            clear H
            have H := H1
            clear H1
            by_cases c9 : 1 + (a0.extract 0 ((ji4) : Int).toNat).size ≤ 9223372036854775807
            · rw [if_pos c9] at H
              have c9b0 := eq_true c9
              have c9b1 : decide (1 + (a0.extract 0 ((ji4) : Int).toNat).size ≤ 9223372036854775807) = true := decide_eq_true c9
              try have c9b2 : (9223372036854775807 < 1 + (a0.extract 0 ((ji4) : Int).toNat).size) = False := eq_false (Nat.not_lt.2 c9)
              by_cases c10 : ((⟨#[91]⟩ : ByteArray) ++ (a0.extract 0 ((ji4) : Int).toNat)).size + 1 ≤ 9223372036854775807
              · rw [if_pos c10] at H
                have c10b0 := eq_true c10
                have c10b1 : decide (((⟨#[91]⟩ : ByteArray) ++ (a0.extract 0 ((ji4) : Int).toNat)).size + 1 ≤ 9223372036854775807) = true := decide_eq_true c10
                try have c10b2 : (9223372036854775807 < ((⟨#[91]⟩ : ByteArray) ++ (a0.extract 0 ((ji4) : Int).toNat)).size + 1) = False := eq_false (Nat.not_lt.2 c10)
                try (have c10b3 := c10b2; rw [ByteArray.size_append] at c10b3)
                have H' := Aside0.mk H
                clear H
                go_wp2
                go_meet
                case rel => exact ⟨_, (((⟨#[91]⟩ : ByteArray) ++ (a0.extract 0 ((ji4) : Int).toNat)) ++ (⟨#[93]⟩ : ByteArray)), (by first | rfl | (simp; done) | (simp only [← hji4] <;> (first | rfl | simp)) | (simp [*]; done)), H', ⟨by first | omega | exact Nat.le_refl _⟩, ⟨by repeat (first | (with_reducible first | exact HB.out | apply below_alloc | apply pw_below_drewN | apply below_drew1) | exact HB.out)⟩⟩
              · rw [if_neg c10] at H
                exact absurd H (by simp)
            · rw [if_neg c9] at H
              exact absurd H (by simp)
          · replace c8 := Bool.eq_false_iff.mpr c8
            subst c8
            have H1 : (laws_FnSplitIndex.j0 k (a0.extract 0 ((ji4) : Int).toNat)) = some r := by rw [if_neg (show ¬ (false = true) by decide)] at H; exact H
            clear H
            have H := H1
            clear H1
            have H' := Aside0.mk H
            clear H
            go_wp2
            go_meet
            case rel => exact ⟨_, (a0.extract 0 ((ji4) : Int).toNat), (by first | rfl | (simp; done) | (simp only [← hji4] <;> (first | rfl | simp)) | (simp [*]; done)), H', ⟨by first | omega | exact Nat.le_refl _⟩, ⟨by repeat (first | (with_reducible first | exact HB.out | apply below_alloc | apply pw_below_drewN | apply below_drew1) | exact HB.out)⟩⟩
        case rest =>
          clear HC7
          try clear c1
          try clear p2
          try clear c3
          try clear c3b0
          try clear c3b1
          try clear c4
          try clear c5
          try clear c5b0
          try clear c5b1
          try clear c6
          try clear c6b0
          try clear c6b1
          try clear c8
          try clear c9
          try clear c9b0
          try clear c9b1
          try clear c9b2
          try clear c10
          try clear c10b0
          try clear c10b1
          try clear c10b2
          obtain ⟨kq, x0_6, rfl, HA, HJ6, HB⟩ := hcut
          cases kq with
          | zero => exact absurd HA.out (by simp [laws_FnSplitIndex.j0])
          | succ kj6 =>
            have H := HA.out
            clear HA
            simp only [laws_FnSplitIndex.j0] at H
            replace H := Option.bind_eq_some_iff.mp H
            obtain ⟨⟨t103, t104, t105⟩, A110, H⟩ := H
            replace H : ((spec_KySplitIndex.f kj6 x0_6).bind fun bt106 => ((impl_SplitIndex.f kj6 (⟨#[91, 97, 61, 98, 93]⟩ : ByteArray)).bind fun bt109 => (if bt106.2.2 = true then (if t105 = 0 then (if t103.toList = bt106.1.toList then (if t104.toList = bt106.2.1.toList then (some (bt109.2.1.toList == ([98] : List UInt8))) else (some false)) else (some false)) else (some false)) else (if t105 = 1 then (some (bt109.2.1.toList == ([98] : List UInt8))) else (some false))))) = some r := H
            have A11 := Aside0.mk A110
            clear A110
            replace H := Option.bind_eq_some_iff.mp H
            obtain ⟨⟨t106, t107, t108⟩, A120, H⟩ := H
            replace H : ((impl_SplitIndex.f kj6 (⟨#[91, 97, 61, 98, 93]⟩ : ByteArray)).bind fun bt109 => (if t108 = true then (if t105 = 0 then (if t103.toList = t106.toList then (if t104.toList = t107.toList then (some (bt109.2.1.toList == ([98] : List UInt8))) else (some false)) else (some false)) else (some false)) else (if t105 = 1 then (some (bt109.2.1.toList == ([98] : List UInt8))) else (some false)))) = some r := H
            have A12 := Aside0.mk A120
            clear A120
            replace H := Option.bind_eq_some_iff.mp H
            obtain ⟨⟨t109, t110, t111⟩, A130, H⟩ := H
            replace H : (if t108 = true then (if t105 = 0 then (if t103.toList = t106.toList then (if t104.toList = t107.toList then (some (t110.toList == ([98] : List UInt8))) else (some false)) else (some false)) else (some false)) else (if t105 = 1 then (some (t110.toList == ([98] : List UInt8))) else (some false))) = some r := H
            have A13 := Aside0.mk A130
            clear A130
            by_cases c14 : t108 = true
            · subst c14
              have H1 : (if t105 = 0 then (if t103.toList = t106.toList then (if t104.toList = t107.toList then (some (t110.toList == ([98] : List UInt8))) else (some false)) else (some false)) else (some false)) = some r := by rw [if_pos rfl] at H; exact H
              clear H
              have H := H1
              clear H1
              by_cases c15 : t105 = 0
              · rw [if_pos c15] at H
                have c15b0 : (t105 == 0) = true := beq_iff_eq.mpr c15
                have c15b1 : (t105 != 0) = false := bne_eq_false_iff_eq.mpr c15
                clear c15
                by_cases c16 : t103.toList = t106.toList
                · rw [if_pos c16] at H
                  have c16b0 : (t103.toList == t106.toList) = true := beq_iff_eq.mpr c16
                  have c16b1 : (t103.toList != t106.toList) = false := bne_eq_false_iff_eq.mpr c16
                  clear c16
                  by_cases c17 : t104.toList = t107.toList
                  · rw [if_pos c17] at H
                    have c17b0 : (t104.toList == t107.toList) = true := beq_iff_eq.mpr c17
                    have c17b1 : (t104.toList != t107.toList) = false := bne_eq_false_iff_eq.mpr c17
                    clear c17
                    obtain rfl := Option.some.inj H
                    go_wp2_with (first | ((with_reducible refine gate_callee (f := 12) rfl ?_); refine goesL_ (some 28) rfl rfl Try.func12 (by kernel_rfl) rfl #[.string x0_6] rfl (by (try simp only [List.map_toArray, List.map_cons, List.map_nil]); first | done | rfl | (simp only [List.length_drop, List.length_take]; rfl)) ?_; (with_reducible refine (impl_SplitIndex.calls kj6 x0_6 t103 t104 t105 _ A11.out).mono ?_); rintro e w18 ⟨rfl, hb⟩; refine ⟨_, rfl, ?_⟩; have n0_ := Aside0.mk (below_step (by repeat (first | (with_reducible first | exact HB.out | apply below_alloc | apply pw_below_drewN | apply below_drew1) | exact HB.out)) hb); clear HB; have HB := n0_; clear n0_; (try clear hb); (try clear hb2); (try clear hk); (try clear hi)) | ((with_reducible refine gate_callee (f := 13) rfl ?_); refine goesL_ (some 34) rfl rfl Try.func13 (by kernel_rfl) rfl #[.string x0_6] rfl (by (try simp only [List.map_toArray, List.map_cons, List.map_nil]); first | done | rfl | (simp only [List.length_drop, List.length_take]; rfl)) ?_; (with_reducible refine (spec_KySplitIndex.calls kj6 x0_6 t106 t107 true _ A12.out).mono ?_); rintro e w' ⟨rfl, ⟨nd, rfl⟩⟩; refine ⟨_, rfl, ?_⟩) | ((with_reducible refine gate_callee (f := 12) rfl ?_); refine goesL_ (some 39) rfl rfl Try.func12 (by kernel_rfl) rfl #[.string (⟨#[91, 97, 61, 98, 93]⟩ : ByteArray)] rfl (by (try simp only [List.map_toArray, List.map_cons, List.map_nil]); first | done | rfl | (simp only [List.length_drop, List.length_take]; rfl)) ?_; (with_reducible refine (impl_SplitIndex.calls kj6 (⟨#[91, 97, 61, 98, 93]⟩ : ByteArray) t109 t110 t111 _ A13.out).mono ?_); rintro e w19 ⟨rfl, hb⟩; refine ⟨_, rfl, ?_⟩; have n0_ := Aside0.mk (below_step (by repeat (first | (with_reducible first | exact HB.out | apply below_alloc | apply pw_below_drewN | apply below_drew1) | exact HB.out)) hb); clear HB; have HB := n0_; clear n0_; (try clear hb); (try clear hb2); (try clear hk); (try clear hi)))
                    go_ret
                    exact ⟨by first | rfl | (simp [errW_none, errW_some] <;> rfl) | (simp only [← hji4]; first | rfl | (simp [errW_none, errW_some] <;> rfl)) | (simp [*, errW_none, errW_some] <;> rfl), by repeat (first | (with_reducible first | exact HB.out | apply below_alloc | apply pw_below_drewN | apply below_drew1) | exact HB.out)⟩
                  · rw [if_neg c17] at H
                    have c17b0 : (t104.toList == t107.toList) = false := beq_eq_false_iff_ne.mpr c17
                    have c17b1 : (t104.toList != t107.toList) = true := bne_iff_ne.mpr c17
                    obtain rfl := Option.some.inj H
                    go_wp2_with (first | ((with_reducible refine gate_callee (f := 12) rfl ?_); refine goesL_ (some 28) rfl rfl Try.func12 (by kernel_rfl) rfl #[.string x0_6] rfl (by (try simp only [List.map_toArray, List.map_cons, List.map_nil]); first | done | rfl | (simp only [List.length_drop, List.length_take]; rfl)) ?_; (with_reducible refine (impl_SplitIndex.calls kj6 x0_6 t103 t104 t105 _ A11.out).mono ?_); rintro e w20 ⟨rfl, hb⟩; refine ⟨_, rfl, ?_⟩; have n0_ := Aside0.mk (below_step (by repeat (first | (with_reducible first | exact HB.out | apply below_alloc | apply pw_below_drewN | apply below_drew1) | exact HB.out)) hb); clear HB; have HB := n0_; clear n0_; (try clear hb); (try clear hb2); (try clear hk); (try clear hi)) | ((with_reducible refine gate_callee (f := 13) rfl ?_); refine goesL_ (some 34) rfl rfl Try.func13 (by kernel_rfl) rfl #[.string x0_6] rfl (by (try simp only [List.map_toArray, List.map_cons, List.map_nil]); first | done | rfl | (simp only [List.length_drop, List.length_take]; rfl)) ?_; (with_reducible refine (spec_KySplitIndex.calls kj6 x0_6 t106 t107 true _ A12.out).mono ?_); rintro e w' ⟨rfl, ⟨nd, rfl⟩⟩; refine ⟨_, rfl, ?_⟩) | ((with_reducible refine gate_callee (f := 12) rfl ?_); refine goesL_ (some 39) rfl rfl Try.func12 (by kernel_rfl) rfl #[.string (⟨#[91, 97, 61, 98, 93]⟩ : ByteArray)] rfl (by (try simp only [List.map_toArray, List.map_cons, List.map_nil]); first | done | rfl | (simp only [List.length_drop, List.length_take]; rfl)) ?_; (with_reducible refine (impl_SplitIndex.calls kj6 (⟨#[91, 97, 61, 98, 93]⟩ : ByteArray) t109 t110 t111 _ A13.out).mono ?_); rintro e w21 ⟨rfl, hb⟩; refine ⟨_, rfl, ?_⟩; have n0_ := Aside0.mk (below_step (by repeat (first | (with_reducible first | exact HB.out | apply below_alloc | apply pw_below_drewN | apply below_drew1) | exact HB.out)) hb); clear HB; have HB := n0_; clear n0_; (try clear hb); (try clear hb2); (try clear hk); (try clear hi)))
                    go_ret
                    exact ⟨by first | rfl | (simp [errW_none, errW_some] <;> rfl) | (simp only [← hji4]; first | rfl | (simp [errW_none, errW_some] <;> rfl)) | (simp [*, errW_none, errW_some] <;> rfl), by repeat (first | (with_reducible first | exact HB.out | apply below_alloc | apply pw_below_drewN | apply below_drew1) | exact HB.out)⟩
                · rw [if_neg c16] at H
                  have c16b0 : (t103.toList == t106.toList) = false := beq_eq_false_iff_ne.mpr c16
                  have c16b1 : (t103.toList != t106.toList) = true := bne_iff_ne.mpr c16
                  obtain rfl := Option.some.inj H
                  go_wp2_with (first | ((with_reducible refine gate_callee (f := 12) rfl ?_); refine goesL_ (some 28) rfl rfl Try.func12 (by kernel_rfl) rfl #[.string x0_6] rfl (by (try simp only [List.map_toArray, List.map_cons, List.map_nil]); first | done | rfl | (simp only [List.length_drop, List.length_take]; rfl)) ?_; (with_reducible refine (impl_SplitIndex.calls kj6 x0_6 t103 t104 t105 _ A11.out).mono ?_); rintro e w22 ⟨rfl, hb⟩; refine ⟨_, rfl, ?_⟩; have n0_ := Aside0.mk (below_step (by repeat (first | (with_reducible first | exact HB.out | apply below_alloc | apply pw_below_drewN | apply below_drew1) | exact HB.out)) hb); clear HB; have HB := n0_; clear n0_; (try clear hb); (try clear hb2); (try clear hk); (try clear hi)) | ((with_reducible refine gate_callee (f := 13) rfl ?_); refine goesL_ (some 34) rfl rfl Try.func13 (by kernel_rfl) rfl #[.string x0_6] rfl (by (try simp only [List.map_toArray, List.map_cons, List.map_nil]); first | done | rfl | (simp only [List.length_drop, List.length_take]; rfl)) ?_; (with_reducible refine (spec_KySplitIndex.calls kj6 x0_6 t106 t107 true _ A12.out).mono ?_); rintro e w' ⟨rfl, ⟨nd, rfl⟩⟩; refine ⟨_, rfl, ?_⟩) | ((with_reducible refine gate_callee (f := 12) rfl ?_); refine goesL_ (some 39) rfl rfl Try.func12 (by kernel_rfl) rfl #[.string (⟨#[91, 97, 61, 98, 93]⟩ : ByteArray)] rfl (by (try simp only [List.map_toArray, List.map_cons, List.map_nil]); first | done | rfl | (simp only [List.length_drop, List.length_take]; rfl)) ?_; (with_reducible refine (impl_SplitIndex.calls kj6 (⟨#[91, 97, 61, 98, 93]⟩ : ByteArray) t109 t110 t111 _ A13.out).mono ?_); rintro e w23 ⟨rfl, hb⟩; refine ⟨_, rfl, ?_⟩; have n0_ := Aside0.mk (below_step (by repeat (first | (with_reducible first | exact HB.out | apply below_alloc | apply pw_below_drewN | apply below_drew1) | exact HB.out)) hb); clear HB; have HB := n0_; clear n0_; (try clear hb); (try clear hb2); (try clear hk); (try clear hi)))
                  go_ret
                  exact ⟨by first | rfl | (simp [errW_none, errW_some] <;> rfl) | (simp only [← hji4]; first | rfl | (simp [errW_none, errW_some] <;> rfl)) | (simp [*, errW_none, errW_some] <;> rfl), by repeat (first | (with_reducible first | exact HB.out | apply below_alloc | apply pw_below_drewN | apply below_drew1) | exact HB.out)⟩
              · rw [if_neg c15] at H
                have c15b0 : (t105 == 0) = false := beq_eq_false_iff_ne.mpr c15
                have c15b1 : (t105 != 0) = true := bne_iff_ne.mpr c15
                obtain rfl := Option.some.inj H
                go_wp2_with (first | ((with_reducible refine gate_callee (f := 12) rfl ?_); refine goesL_ (some 28) rfl rfl Try.func12 (by kernel_rfl) rfl #[.string x0_6] rfl (by (try simp only [List.map_toArray, List.map_cons, List.map_nil]); first | done | rfl | (simp only [List.length_drop, List.length_take]; rfl)) ?_; (with_reducible refine (impl_SplitIndex.calls kj6 x0_6 t103 t104 t105 _ A11.out).mono ?_); rintro e w24 ⟨rfl, hb⟩; refine ⟨_, rfl, ?_⟩; have n0_ := Aside0.mk (below_step (by repeat (first | (with_reducible first | exact HB.out | apply below_alloc | apply pw_below_drewN | apply below_drew1) | exact HB.out)) hb); clear HB; have HB := n0_; clear n0_; (try clear hb); (try clear hb2); (try clear hk); (try clear hi)) | ((with_reducible refine gate_callee (f := 13) rfl ?_); refine goesL_ (some 34) rfl rfl Try.func13 (by kernel_rfl) rfl #[.string x0_6] rfl (by (try simp only [List.map_toArray, List.map_cons, List.map_nil]); first | done | rfl | (simp only [List.length_drop, List.length_take]; rfl)) ?_; (with_reducible refine (spec_KySplitIndex.calls kj6 x0_6 t106 t107 true _ A12.out).mono ?_); rintro e w' ⟨rfl, ⟨nd, rfl⟩⟩; refine ⟨_, rfl, ?_⟩) | ((with_reducible refine gate_callee (f := 12) rfl ?_); refine goesL_ (some 39) rfl rfl Try.func12 (by kernel_rfl) rfl #[.string (⟨#[91, 97, 61, 98, 93]⟩ : ByteArray)] rfl (by (try simp only [List.map_toArray, List.map_cons, List.map_nil]); first | done | rfl | (simp only [List.length_drop, List.length_take]; rfl)) ?_; (with_reducible refine (impl_SplitIndex.calls kj6 (⟨#[91, 97, 61, 98, 93]⟩ : ByteArray) t109 t110 t111 _ A13.out).mono ?_); rintro e w25 ⟨rfl, hb⟩; refine ⟨_, rfl, ?_⟩; have n0_ := Aside0.mk (below_step (by repeat (first | (with_reducible first | exact HB.out | apply below_alloc | apply pw_below_drewN | apply below_drew1) | exact HB.out)) hb); clear HB; have HB := n0_; clear n0_; (try clear hb); (try clear hb2); (try clear hk); (try clear hi)))
                go_ret
                exact ⟨by first | rfl | (simp [errW_none, errW_some] <;> rfl) | (simp only [← hji4]; first | rfl | (simp [errW_none, errW_some] <;> rfl)) | (simp [*, errW_none, errW_some] <;> rfl), by repeat (first | (with_reducible first | exact HB.out | apply below_alloc | apply pw_below_drewN | apply below_drew1) | exact HB.out)⟩
            · replace c14 := Bool.eq_false_iff.mpr c14
              subst c14
              have H1 : (if t105 = 1 then (some (t110.toList == ([98] : List UInt8))) else (some false)) = some r := by rw [if_neg (show ¬ (false = true) by decide)] at H; exact H
              clear H
              have H := H1
              clear H1
              by_cases c26 : t105 = 1
              · rw [if_pos c26] at H
                have c26b0 : (t105 == 1) = true := beq_iff_eq.mpr c26
                have c26b1 : (t105 != 1) = false := bne_eq_false_iff_eq.mpr c26
                clear c26
                obtain rfl := Option.some.inj H
                go_wp2_with (first | ((with_reducible refine gate_callee (f := 12) rfl ?_); refine goesL_ (some 28) rfl rfl Try.func12 (by kernel_rfl) rfl #[.string x0_6] rfl (by (try simp only [List.map_toArray, List.map_cons, List.map_nil]); first | done | rfl | (simp only [List.length_drop, List.length_take]; rfl)) ?_; (with_reducible refine (impl_SplitIndex.calls kj6 x0_6 t103 t104 t105 _ A11.out).mono ?_); rintro e w27 ⟨rfl, hb⟩; refine ⟨_, rfl, ?_⟩; have n0_ := Aside0.mk (below_step (by repeat (first | (with_reducible first | exact HB.out | apply below_alloc | apply pw_below_drewN | apply below_drew1) | exact HB.out)) hb); clear HB; have HB := n0_; clear n0_; (try clear hb); (try clear hb2); (try clear hk); (try clear hi)) | ((with_reducible refine gate_callee (f := 13) rfl ?_); refine goesL_ (some 34) rfl rfl Try.func13 (by kernel_rfl) rfl #[.string x0_6] rfl (by (try simp only [List.map_toArray, List.map_cons, List.map_nil]); first | done | rfl | (simp only [List.length_drop, List.length_take]; rfl)) ?_; (with_reducible refine (spec_KySplitIndex.calls kj6 x0_6 t106 t107 false _ A12.out).mono ?_); rintro e w' ⟨rfl, ⟨nd, rfl⟩⟩; refine ⟨_, rfl, ?_⟩) | ((with_reducible refine gate_callee (f := 12) rfl ?_); refine goesL_ (some 39) rfl rfl Try.func12 (by kernel_rfl) rfl #[.string (⟨#[91, 97, 61, 98, 93]⟩ : ByteArray)] rfl (by (try simp only [List.map_toArray, List.map_cons, List.map_nil]); first | done | rfl | (simp only [List.length_drop, List.length_take]; rfl)) ?_; (with_reducible refine (impl_SplitIndex.calls kj6 (⟨#[91, 97, 61, 98, 93]⟩ : ByteArray) t109 t110 t111 _ A13.out).mono ?_); rintro e w28 ⟨rfl, hb⟩; refine ⟨_, rfl, ?_⟩; have n0_ := Aside0.mk (below_step (by repeat (first | (with_reducible first | exact HB.out | apply below_alloc | apply pw_below_drewN | apply below_drew1) | exact HB.out)) hb); clear HB; have HB := n0_; clear n0_; (try clear hb); (try clear hb2); (try clear hk); (try clear hi)))
                go_ret
                exact ⟨by first | rfl | (simp [errW_none, errW_some] <;> rfl) | (simp only [← hji4]; first | rfl | (simp [errW_none, errW_some] <;> rfl)) | (simp [*, errW_none, errW_some] <;> rfl), by repeat (first | (with_reducible first | exact HB.out | apply below_alloc | apply pw_below_drewN | apply below_drew1) | exact HB.out)⟩
              · rw [if_neg c26] at H
                have c26b0 : (t105 == 1) = false := beq_eq_false_iff_ne.mpr c26
                have c26b1 : (t105 != 1) = true := bne_iff_ne.mpr c26
                obtain rfl := Option.some.inj H
                go_wp2_with (first | ((with_reducible refine gate_callee (f := 12) rfl ?_); refine goesL_ (some 28) rfl rfl Try.func12 (by kernel_rfl) rfl #[.string x0_6] rfl (by (try simp only [List.map_toArray, List.map_cons, List.map_nil]); first | done | rfl | (simp only [List.length_drop, List.length_take]; rfl)) ?_; (with_reducible refine (impl_SplitIndex.calls kj6 x0_6 t103 t104 t105 _ A11.out).mono ?_); rintro e w29 ⟨rfl, hb⟩; refine ⟨_, rfl, ?_⟩; have n0_ := Aside0.mk (below_step (by repeat (first | (with_reducible first | exact HB.out | apply below_alloc | apply pw_below_drewN | apply below_drew1) | exact HB.out)) hb); clear HB; have HB := n0_; clear n0_; (try clear hb); (try clear hb2); (try clear hk); (try clear hi)) | ((with_reducible refine gate_callee (f := 13) rfl ?_); refine goesL_ (some 34) rfl rfl Try.func13 (by kernel_rfl) rfl #[.string x0_6] rfl (by (try simp only [List.map_toArray, List.map_cons, List.map_nil]); first | done | rfl | (simp only [List.length_drop, List.length_take]; rfl)) ?_; (with_reducible refine (spec_KySplitIndex.calls kj6 x0_6 t106 t107 false _ A12.out).mono ?_); rintro e w' ⟨rfl, ⟨nd, rfl⟩⟩; refine ⟨_, rfl, ?_⟩) | ((with_reducible refine gate_callee (f := 12) rfl ?_); refine goesL_ (some 39) rfl rfl Try.func12 (by kernel_rfl) rfl #[.string (⟨#[91, 97, 61, 98, 93]⟩ : ByteArray)] rfl (by (try simp only [List.map_toArray, List.map_cons, List.map_nil]); first | done | rfl | (simp only [List.length_drop, List.length_take]; rfl)) ?_; (with_reducible refine (impl_SplitIndex.calls kj6 (⟨#[91, 97, 61, 98, 93]⟩ : ByteArray) t109 t110 t111 _ A13.out).mono ?_); rintro e w30 ⟨rfl, hb⟩; refine ⟨_, rfl, ?_⟩; have n0_ := Aside0.mk (below_step (by repeat (first | (with_reducible first | exact HB.out | apply below_alloc | apply pw_below_drewN | apply below_drew1) | exact HB.out)) hb); clear HB; have HB := n0_; clear n0_; (try clear hb); (try clear hb2); (try clear hk); (try clear hi)))
                go_ret
                exact ⟨by first | rfl | (simp [errW_none, errW_some] <;> rfl) | (simp only [← hji4]; first | rfl | (simp [errW_none, errW_some] <;> rfl)) | (simp [*, errW_none, errW_some] <;> rfl), by repeat (first | (with_reducible first | exact HB.out | apply below_alloc | apply pw_below_drewN | apply below_drew1) | exact HB.out)⟩
      · rw [if_neg c6] at H
        exact absurd H (by simp)
    · rw [if_neg c5] at H
      exact absurd H (by simp)

/-- THE ONE PURE STATEMENT of laws_FnSplitIndex: yours. -/
def laws_FnSplitIndex.Pure : Prop := ∀ (a0 : ByteArray) (a1 : Bool), a0.size ≤ 140737488351232 → ∃ k, laws_FnSplitIndex.f k a0 a1 = some true
theorem laws_FnSplitIndex.walk (P : laws_FnSplitIndex.Pure) (a0 : ByteArray) (a1 : Bool) (w : World) (w0 : a0.size ≤ 140737488351232) :
    Calls Try.prog 4 #[.string a0, .bool a1] w fun e w' => e = .returned (.bool true) ∧ Below w.heap.size w w' := by
  obtain ⟨k, h⟩ := P a0 a1 w0
  refine (laws_FnSplitIndex.calls k a0 a1 true w h).mono ?_
  rintro e w' ⟨rfl, hd⟩
  exact ⟨rfl, hd⟩

end Go.Proofs.Ytdomnigegpigiab.PFnSplitIndex

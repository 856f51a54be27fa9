-- PRINTED BY print.sh 35421559b90ae4d0a3588c463048766b98c2df88dd9212a6774a882060cdf62d: not written by this session
import Derived.Test.YtdomnigegpigiaaPFnPathBasex0
import Derived.Test.YtdomnigegpigiaaPFnPathBasex1
namespace Go.Proofs.Ytdomnigegpigiaa.PFnPathBase
open Go.RowKit Go.Proofs.YtdomnigegpigiaaW.PrintWords Go.Proofs.YtdomnigegpigiaaW.PrintLast Go.Proofs.YtdomnigegpigiaaW.PrintMore
attribute [local go_sem] max2_int min2_int max_two min_two max_three min_three max_four min_four   -- for this text's walks alone
set_option linter.unusedVariables false
set_option linter.unusedSimpArgs false

/-! ### impl_PathBase: function 16 -/
def impl_PathBase.f (k : Nat) (a0 : ByteArray) : Option (ByteArray) := (ignore_ZzBase.f k a0).bind fun t103 => (some t103)
theorem impl_PathBase.mono : ∀ a0 k, LeO (impl_PathBase.f k a0) (impl_PathBase.f (k + 1) a0) := by
  intro a0 k
  unfold impl_PathBase.f
  repeat' first
      | (with_reducible exact ignore_ZzBase.mono _ _)
      | (with_reducible exact LeO.refl _)
      | (with_reducible exact LeO.none _)
      | (with_reducible refine LeO.ite ?_ ?_)
      | (with_reducible refine LeO.bind ?_ (fun _ => ?_))
      | exact ignore_ZzBase.mono _ _
      | exact LeO.none _
      | refine LeO.ite ?_ ?_
      | refine LeO.bind ?_ (fun _ => ?_)
set_option maxHeartbeats 8000000 in
set_option maxRecDepth 100000 in
theorem impl_PathBase.calls (k : Nat) (a0 : ByteArray) (r : ByteArray) (w : World) (h : impl_PathBase.f k a0 = some r) :
    Calls Try.prog 16 #[.string a0] w fun e w' => e = .returned (.string r) ∧ Drawn0 w w' := by
  have H : ((ignore_ZzBase.f k a0).bind fun t103 => (some t103)) = some r := h
  clear h
  replace H := Option.bind_eq_some_iff.mp H
  obtain ⟨t103, A20, H⟩ := H
  replace H : (some t103) = some r := H
  have A2 := Aside0.mk A20
  clear A20
  obtain rfl := Option.some.inj H
  go_enter Try.func16, Try.ntmps16
  go_wp2_with (first | ((with_reducible refine gate_callee (f := 29) rfl ?_); refine goesL_ (some 4) rfl rfl Try.func29 (by kernel_rfl) rfl #[.string a0] rfl (by (try simp only [List.map_toArray, List.map_cons, List.map_nil]); first | done | rfl | (simp only [List.length_drop, List.length_take]; rfl)) ?_; (with_reducible refine (ignore_ZzBase.calls k a0 t103 _ A2.out).mono ?_); rintro e w' ⟨rfl, ⟨nd, rfl⟩⟩; refine ⟨_, rfl, ?_⟩))
  go_ret
  exact ⟨by first | rfl | (simp; done) | (simp [*]; done), by repeat (first | exact Drawn0.refl _ | apply Drawn0.step)⟩

/-! ### spec_Base: function 17 -/
def spec_Base.l0 : Nat → ByteArray → Int → Option (ByteArray)
  | 0, _, _ => none
  | k + 1, x0, x3 => if x3 ≥ 0 then (if 0 ≤ x3 then (if x3 < (x0.size : Int) then (if (bt x0 x3) = 47 then (if 0 ≤ (wrap64 (x3 + 1)) then (if (wrap64 (x3 + 1)) ≤ (x0.size : Int) then (some (x0.extract ((wrap64 (x3 + 1)) : Int).toNat x0.size)) else (none)) else (none)) else (spec_Base.l0 k x0 (wrap64 (x3 - 1)))) else (none)) else (none)) else (some x0)
def spec_Base.f (k : Nat) (a0 : ByteArray) : Option (ByteArray) := spec_Base.l0 k a0 (wrap64 ((a0.size : Int) - 1))
theorem spec_Base.mono_l : ∀ k, (∀ y0 y1, LeO (spec_Base.l0 k y0 y1) (spec_Base.l0 (k + 1) y0 y1))
  | 0 => fun _ _ r h => by simp [spec_Base.l0] at h
  | k + 1 => by
    have ih0 := spec_Base.mono_l k
    · intro y0 y1
      unfold spec_Base.l0
      repeat' first
      | (with_reducible exact ih0 _ _)
      | (with_reducible exact LeO.refl _)
      | (with_reducible exact LeO.none _)
      | (with_reducible refine LeO.ite ?_ ?_)
      | (with_reducible refine LeO.bind ?_ (fun _ => ?_))
      | exact ih0 _ _
      | exact LeO.none _
      | refine LeO.ite ?_ ?_
      | refine LeO.bind ?_ (fun _ => ?_)
theorem spec_Base.mono : ∀ a0 k, LeO (spec_Base.f k a0) (spec_Base.f (k + 1) a0) := by
  intro a0 k
  have ih0 := spec_Base.mono_l k
  unfold spec_Base.f
  repeat' first
      | (with_reducible exact ih0 _ _)
      | (with_reducible exact LeO.refl _)
      | (with_reducible exact LeO.none _)
      | (with_reducible refine LeO.ite ?_ ?_)
      | (with_reducible refine LeO.bind ?_ (fun _ => ?_))
      | exact ih0 _ _
      | exact LeO.none _
      | refine LeO.ite ?_ ?_
      | refine LeO.bind ?_ (fun _ => ?_)
set_option maxHeartbeats 8000000 in
set_option maxRecDepth 100000 in
theorem spec_Base.calls (k : Nat) (a0 : ByteArray) (r : ByteArray) (w : World) (h : spec_Base.f k a0 = some r) :
    Calls Try.prog 17 #[.string a0] w fun e w' => e = .returned (.string r) ∧ Drawn0 w w' := by
  have H : (spec_Base.l0 k a0 (wrap64 ((a0.size : Int) - 1))) = some r := h
  clear h
  have H' := Aside0.mk H
  clear H
  go_enter Try.func17, Try.ntmps17
  go_wp2
  go_loopg [3] k (fun kq v3 w' => ∃ (x3_1 : Int), v3 = .int .i64 x3_1 ∧ Aside0 (spec_Base.l0 kq a0 x3_1 = some r) ∧ Aside0 (kq ≤ k) ∧ Drawn0 w w')
  case atStart => exact ⟨(wrap64 ((a0.size : Int) - 1)), (by first | rfl | (simp; done) | (simp [*]; done)), H', ⟨Nat.le_refl _⟩, by repeat (first | exact Drawn0.refl _ | apply Drawn0.step)⟩
  case round =>
    clear H'
    try clear c1
    obtain ⟨x3_1, rfl, HA, HK1, ⟨m1, rfl⟩⟩ := hrel
    cases gk with
    | zero => exact absurd HA.out (by simp [spec_Base.l0])
    | succ k1 =>
      have H := HA.out
      clear HA
      simp only [spec_Base.l0] at H
      by_cases c2 : x3_1 ≥ 0
      · rw [if_pos c2] at H
        have c2b0 : decide (0 ≤ x3_1) = true := decide_eq_true c2
        clear c2
        by_cases c3 : 0 ≤ x3_1
        · rw [if_pos c3] at H
          have c3b0 : decide (0 ≤ x3_1) = true := decide_eq_true c3
          clear c3
          by_cases c4 : x3_1 < (a0.size : Int)
          · rw [if_pos c4] at H
            have c4b0 : decide (x3_1 < (a0.size : Int)) = true := decide_eq_true c4
            clear c4
            by_cases c6 : (bt a0 x3_1) = 47
            · rw [if_pos c6] at H
              have c6b0 : ((bt a0 x3_1) == 47) = true := beq_iff_eq.mpr c6
              have c6b1 : ((bt a0 x3_1) != 47) = false := bne_eq_false_iff_eq.mpr c6
              clear c6
              obtain ⟨ji7, hji7⟩ : ∃ j_ : Int, (wrap64 (x3_1 + 1)) = j_ := ⟨_, rfl⟩
              replace H : (if 0 ≤ (ji7) then (if (ji7) ≤ (a0.size : Int) then (some (a0.extract ((ji7) : Int).toNat a0.size)) else (none)) else (none)) = some r := by first | (rw [hji7] at H; exact H) | (simp only [hji7] at H ⊢; exact H)
              have hji7w : (IntKind.i64.wrap (x3_1 + 1)) = ji7 := (i64_w _).trans hji7
              by_cases c8 : 0 ≤ (ji7)
              · rw [if_pos c8] at H
                have c8b0 := eq_true c8
                have c8b1 : decide (0 ≤ (ji7)) = true := decide_eq_true c8
                clear c8
                by_cases c9 : (ji7) ≤ (a0.size : Int)
                · rw [if_pos c9] at H
                  have c9b0 := eq_true c9
                  have c9b1 : decide ((ji7) ≤ (a0.size : Int)) = true := decide_eq_true c9
                  clear c9
                  obtain rfl := Option.some.inj H
                  have p5 : 0 ≤ (x3_1 : Int) := of_decide_eq_true (by first | (with_reducible assumption) | assumption)
                  have q5 : x3_1 < (a0.size : Int) := of_decide_eq_true (by first | (with_reducible assumption) | assumption)
                  have hx5 := bt_at a0 x3_1
                  replace p5 := eq_true p5
                  replace q5 := eq_true q5
                  go_wp2
                  go_ret
                  exact ⟨by first | rfl | (simp; done) | (simp only [← hji7] <;> (first | rfl | simp)) | (simp [*]; done), by repeat (first | exact Drawn0.refl _ | apply Drawn0.step)⟩
                · rw [if_neg c9] at H
                  exact absurd H (by simp)
              · rw [if_neg c8] at H
                exact absurd H (by simp)
            · rw [if_neg c6] at H
              have c6b0 : ((bt a0 x3_1) == 47) = false := beq_eq_false_iff_ne.mpr c6
              have c6b1 : ((bt a0 x3_1) != 47) = true := bne_iff_ne.mpr c6
              have H' := Aside0.mk H
              clear H
              have p5 : 0 ≤ (x3_1 : Int) := of_decide_eq_true (by first | (with_reducible assumption) | assumption)
              have q5 : x3_1 < (a0.size : Int) := of_decide_eq_true (by first | (with_reducible assumption) | assumption)
              have hx5 := bt_at a0 x3_1
              replace p5 := eq_true p5
              replace q5 := eq_true q5
              go_wp2
              go_roundg k1
              case measure => have := HK1.out; omega
              case rel => exact ⟨(wrap64 (x3_1 - 1)), (by first | rfl | (simp; done) | (simp [*]; done)), H', ⟨by have := HK1.out; omega⟩, by repeat (first | exact Drawn0.refl _ | apply Drawn0.step)⟩
          · rw [if_neg c4] at H
            exact absurd H (by simp)
        · rw [if_neg c3] at H
          exact absurd H (by simp)
      · rw [if_neg c2] at H
        have c2b0 : decide (0 ≤ x3_1) = false := decide_eq_false c2
        clear c2
        obtain rfl := Option.some.inj H
        go_wp2
        go_ret
        exact ⟨by first | rfl | (simp; done) | (simp [*]; done), by repeat (first | exact Drawn0.refl _ | apply Drawn0.step)⟩

/-! ### laws_FnPathBase: function 5 -/
def laws_FnPathBase.f (k : Nat) (a0 : ByteArray) : Option (Bool) := if (a0.size : Int) > 2147483647 then (some true) else ((laws_heClean.f k a0).bind fun t104 => (if t104 = true then ((impl_PathBase.f k a0).bind fun t105 => ((spec_Base.f k a0).bind fun t106 => (some (t105.toList == t106.toList)))) else (some true)))
theorem laws_FnPathBase.mono : ∀ a0 k, LeO (laws_FnPathBase.f k a0) (laws_FnPathBase.f (k + 1) a0) := by
  intro a0 k
  unfold laws_FnPathBase.f
  repeat' first
      | (with_reducible exact impl_PathBase.mono _ _)
      | (with_reducible exact laws_heClean.mono _ _)
      | (with_reducible exact spec_Base.mono _ _)
      | (with_reducible exact LeO.refl _)
      | (with_reducible exact LeO.none _)
      | (with_reducible refine LeO.ite ?_ ?_)
      | (with_reducible refine LeO.bind ?_ (fun _ => ?_))
      | exact impl_PathBase.mono _ _
      | exact laws_heClean.mono _ _
      | exact spec_Base.mono _ _
      | exact LeO.none _
      | refine LeO.ite ?_ ?_
      | refine LeO.bind ?_ (fun _ => ?_)
set_option maxHeartbeats 8000000 in
set_option maxRecDepth 100000 in
theorem laws_FnPathBase.calls (k : Nat) (a0 : ByteArray) (r : Bool) (w : World) (h : laws_FnPathBase.f k a0 = some r) :
    Calls Try.prog 5 #[.string a0] w fun e w' => e = .returned (.bool r) ∧ Drawn0 w w' := by
  have H : (if (a0.size : Int) > 2147483647 then (some true) else ((laws_heClean.f k a0).bind fun t104 => (if t104 = true then ((impl_PathBase.f k a0).bind fun t105 => ((spec_Base.f k a0).bind fun t106 => (some (t105.toList == t106.toList)))) else (some true)))) = some r := h
  clear h
  by_cases c2 : (a0.size : Int) > 2147483647
  · rw [if_pos c2] at H
    have c2b0 : decide (2147483647 < (a0.size : Int)) = true := decide_eq_true c2
    have c2b1 : decide (2147483647 < a0.size) = true := decide_eq_true (by omega)
    clear c2
    obtain rfl := Option.some.inj H
    go_enter Try.func5, Try.ntmps5
    go_wp2
    go_ret
    exact ⟨by first | rfl | (simp; done) | (simp [*]; done), by repeat (first | exact Drawn0.refl _ | apply Drawn0.step)⟩
  · rw [if_neg c2] at H
    have c2b0 : decide (2147483647 < (a0.size : Int)) = false := decide_eq_false c2
    have c2b1 : decide (2147483647 < a0.size) = false := decide_eq_false (by omega)
    clear c2
    replace H := Option.bind_eq_some_iff.mp H
    obtain ⟨t104, A30, H⟩ := H
    replace H : (if t104 = true then ((impl_PathBase.f k a0).bind fun t105 => ((spec_Base.f k a0).bind fun t106 => (some (t105.toList == t106.toList)))) else (some true)) = some r := H
    have A3 := Aside0.mk A30
    clear A30
    by_cases c4 : t104 = true
    · subst c4
      have H1 : ((impl_PathBase.f k a0).bind fun t105 => ((spec_Base.f k a0).bind fun t106 => (some (t105.toList == t106.toList)))) = some r := by rw [if_pos rfl] at H; exact H
      clear H
      have H := H1
      clear H1
      replace H := Option.bind_eq_some_iff.mp H
      obtain ⟨t105, A50, H⟩ := H
      replace H : ((spec_Base.f k a0).bind fun t106 => (some (t105.toList == t106.toList))) = some r := H
      have A5 := Aside0.mk A50
      clear A50
      replace H := Option.bind_eq_some_iff.mp H
      obtain ⟨t106, A60, H⟩ := H
      replace H : (some (t105.toList == t106.toList)) = some r := H
      have A6 := Aside0.mk A60
      clear A60
      obtain rfl := Option.some.inj H
      go_enter Try.func5, Try.ntmps5
      go_wp2_with (first | ((with_reducible refine gate_callee (f := 15) rfl ?_); refine goesL_ (some 7) rfl rfl Try.func15 (by kernel_rfl) rfl #[.string a0] rfl (by (try simp only [List.map_toArray, List.map_cons, List.map_nil]); first | done | rfl | (simp only [List.length_drop, List.length_take]; rfl)) ?_; (with_reducible refine (laws_heClean.calls k a0 true _ A3.out).mono ?_); rintro e w' ⟨rfl, ⟨nd, rfl⟩⟩; refine ⟨_, rfl, ?_⟩) | (go_at_call 16; (with_reducible refine (impl_PathBase.calls k a0 t105 _ A5.out).mono ?_); rintro e w' ⟨rfl, ⟨nd, rfl⟩⟩) | (go_at_call 17; (with_reducible refine (spec_Base.calls k a0 t106 _ A6.out).mono ?_); rintro e w' ⟨rfl, ⟨nd, rfl⟩⟩))
      go_ret
      exact ⟨by first | rfl | (simp; done) | (simp [*]; done), by repeat (first | exact Drawn0.refl _ | apply Drawn0.step)⟩
    · replace c4 := Bool.eq_false_iff.mpr c4
      subst c4
      have H1 : (some true) = some r := by rw [if_neg (show ¬ (false = true) by decide)] at H; exact H
      clear H
      have H := H1
      clear H1
      obtain rfl := Option.some.inj H
      go_enter Try.func5, Try.ntmps5
      go_wp2_with (first | ((with_reducible refine gate_callee (f := 15) rfl ?_); refine goesL_ (some 7) rfl rfl Try.func15 (by kernel_rfl) rfl #[.string a0] rfl (by (try simp only [List.map_toArray, List.map_cons, List.map_nil]); first | done | rfl | (simp only [List.length_drop, List.length_take]; rfl)) ?_; (with_reducible refine (laws_heClean.calls k a0 false _ A3.out).mono ?_); rintro e w' ⟨rfl, ⟨nd, rfl⟩⟩; refine ⟨_, rfl, ?_⟩))
      go_ret
      exact ⟨by first | rfl | (simp; done) | (simp [*]; done), by repeat (first | exact Drawn0.refl _ | apply Drawn0.step)⟩

/-- THE ONE PURE STATEMENT of laws_FnPathBase: yours. -/
def laws_FnPathBase.Pure : Prop := ∀ (a0 : ByteArray), a0.size ≤ 140737488351232 → ∃ k, laws_FnPathBase.f k a0 = some true
theorem laws_FnPathBase.walk (P : laws_FnPathBase.Pure) (a0 : ByteArray) (w : World) (w0 : a0.size ≤ 140737488351232) :
    Calls Try.prog 5 #[.string a0] w fun e w' => e = .returned (.bool true) ∧ Below w.heap.size w w' := by
  obtain ⟨k, h⟩ := P a0 w0
  refine (laws_FnPathBase.calls k a0 true w h).mono ?_
  rintro e w' ⟨rfl, hd⟩
  exact ⟨rfl, hd.below⟩

end Go.Proofs.Ytdomnigegpigiaa.PFnPathBase

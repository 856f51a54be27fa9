-- printed by a program of this session: the print, turned for a few more operations
import Derived.Test.YtcficphbjicneaaPFnPathNamesx0
import Derived.Test.YtcficphbjicneaaPFnPathNamesx1
namespace Go.Proofs.Ytcficphbjicneaa.PFnPathNames
open Go.RowKit Go.Proofs.YtcficphbjicneaaW.PrintWords Go.Proofs.YtcficphbjicneaaW.PrintLast Go.Proofs.YtcficphbjicneaaW.PrintMore
attribute [local go_sem] max2_int min2_int max_two min_two max_three min_three max_four min_four   -- for this text's walks alone
set_option linter.unusedVariables false
set_option linter.unusedSimpArgs false

/-! ### laws_FnPathNames: function 3 -/
mutual
def laws_FnPathNames.j0 : Nat → ByteArray → ByteArray → Bool → Option (Bool)
  | 0, _, _, _ => none
  | k + 1, x0, x1, x17 => if x17 = true then (some true) else (if (x0.size : Int) > 400 then (laws_FnPathNames.j1 k x0 x1 true) else (laws_FnPathNames.j1 k x0 x1 (decide ((x1.size : Int) > 400))))
def laws_FnPathNames.j1 : Nat → ByteArray → ByteArray → Bool → Option (Bool)
  | 0, _, _, _ => none
  | k + 1, x0, x1, x25 => if x25 = true then (some true) else ((impl_ParsePath.f k x0).bind fun t125 => ((spec_Names.f k x0).bind fun t128 => (if (t125.length : Int) = (t128.length : Int) then (laws_FnPathNames.l0 k x0 x1 t128 t125 (t125.length : Int) 0) else (some false))))
def laws_FnPathNames.l0 : Nat → ByteArray → ByteArray → List ByteArray → List ByteArray → Int → Int → Option (Bool)
  | 0, _, _, _, _, _, _ => none
  | k + 1, x0, x1, x6, x35, x36, x37 => if x37 < x36 then (if 0 ≤ x37 then (if x37 < (x35.length : Int) then (if x37 < (x6.length : Int) then (if (rdOf ByteArray.empty x35 x37).toList = (rdOf ByteArray.empty x6 x37).toList then (laws_FnPathNames.l0 k x0 x1 x6 x35 x36 (wrap64 (x37 + 1))) else (some false)) else (none)) else (none)) else (none)) else ((impl_ConcatPrefix.f x1 x0).bind fun t133 => (if x1.toList = ([] : List UInt8) then (if t133.toList = x0.toList then (some true) else (some false)) else (if x1.size + 1 ≤ 9223372036854775807 then (if (x1 ++ (⟨#[46]⟩ : ByteArray)).size + x0.size ≤ 9223372036854775807 then (some (t133.toList == ((x1 ++ (⟨#[46]⟩ : ByteArray)) ++ x0).toList)) else (none)) else (none))))
end
def laws_FnPathNames.f (k : Nat) (a0 : ByteArray) (a1 : ByteArray) : Option (Bool) := if (a0.size : Int) > 2147483647 then (laws_FnPathNames.j0 k a0 a1 true) else (laws_FnPathNames.j0 k a0 a1 (decide ((a1.size : Int) > 2147483647)))
theorem laws_FnPathNames.mono_l : ∀ k, (∀ y0 y1 y2, LeO (laws_FnPathNames.j0 k y0 y1 y2) (laws_FnPathNames.j0 (k + 1) y0 y1 y2)) ∧ (∀ y0 y1 y2, LeO (laws_FnPathNames.j1 k y0 y1 y2) (laws_FnPathNames.j1 (k + 1) y0 y1 y2)) ∧ (∀ y0 y1 y2 y3 y4 y5, LeO (laws_FnPathNames.l0 k y0 y1 y2 y3 y4 y5) (laws_FnPathNames.l0 (k + 1) y0 y1 y2 y3 y4 y5))
  | 0 => ⟨fun _ _ _ r h => by simp [laws_FnPathNames.j0] at h, fun _ _ _ r h => by simp [laws_FnPathNames.j1] at h, fun _ _ _ _ _ _ r h => by simp [laws_FnPathNames.l0] at h⟩
  | k + 1 => by
    obtain ⟨ih0, ih1, ih2⟩ := laws_FnPathNames.mono_l k
    refine ⟨?_, ?_, ?_⟩
    · intro y0 y1 y2
      unfold laws_FnPathNames.j0
      repeat' first
      | (with_reducible exact ih0 _ _ _)
      | (with_reducible exact ih1 _ _ _)
      | (with_reducible exact ih2 _ _ _ _ _ _)
      | (with_reducible exact impl_ParsePath.mono _ _)
      | (with_reducible exact spec_Names.mono _ _)
      | (with_reducible exact LeO.refl _)
      | (with_reducible exact LeO.none _)
      | (with_reducible refine LeO.ite ?_ ?_)
      | (with_reducible refine LeO.bind ?_ (fun _ => ?_))
      | exact ih0 _ _ _
      | exact ih1 _ _ _
      | exact ih2 _ _ _ _ _ _
      | exact impl_ParsePath.mono _ _
      | exact spec_Names.mono _ _
      | exact LeO.none _
      | refine LeO.ite ?_ ?_
      | refine LeO.bind ?_ (fun _ => ?_)
    · intro y0 y1 y2
      unfold laws_FnPathNames.j1
      repeat' first
      | (with_reducible exact ih0 _ _ _)
      | (with_reducible exact ih1 _ _ _)
      | (with_reducible exact ih2 _ _ _ _ _ _)
      | (with_reducible exact impl_ParsePath.mono _ _)
      | (with_reducible exact spec_Names.mono _ _)
      | (with_reducible exact LeO.refl _)
      | (with_reducible exact LeO.none _)
      | (with_reducible refine LeO.ite ?_ ?_)
      | (with_reducible refine LeO.bind ?_ (fun _ => ?_))
      | exact ih0 _ _ _
      | exact ih1 _ _ _
      | exact ih2 _ _ _ _ _ _
      | exact impl_ParsePath.mono _ _
      | exact spec_Names.mono _ _
      | exact LeO.none _
      | refine LeO.ite ?_ ?_
      | refine LeO.bind ?_ (fun _ => ?_)
    · intro y0 y1 y2 y3 y4 y5
      unfold laws_FnPathNames.l0
      repeat' first
      | (with_reducible exact ih0 _ _ _)
      | (with_reducible exact ih1 _ _ _)
      | (with_reducible exact ih2 _ _ _ _ _ _)
      | (with_reducible exact impl_ParsePath.mono _ _)
      | (with_reducible exact spec_Names.mono _ _)
      | (with_reducible exact LeO.refl _)
      | (with_reducible exact LeO.none _)
      | (with_reducible refine LeO.ite ?_ ?_)
      | (with_reducible refine LeO.bind ?_ (fun _ => ?_))
      | exact ih0 _ _ _
      | exact ih1 _ _ _
      | exact ih2 _ _ _ _ _ _
      | exact impl_ParsePath.mono _ _
      | exact spec_Names.mono _ _
      | exact LeO.none _
      | refine LeO.ite ?_ ?_
      | refine LeO.bind ?_ (fun _ => ?_)
theorem laws_FnPathNames.mono : ∀ a0 a1 k, LeO (laws_FnPathNames.f k a0 a1) (laws_FnPathNames.f (k + 1) a0 a1) := by
  intro a0 a1 k
  obtain ⟨ih0, ih1, ih2⟩ := laws_FnPathNames.mono_l k
  unfold laws_FnPathNames.f
  repeat' first
      | (with_reducible exact ih0 _ _ _)
      | (with_reducible exact ih1 _ _ _)
      | (with_reducible exact ih2 _ _ _ _ _ _)
      | (with_reducible exact impl_ParsePath.mono _ _)
      | (with_reducible exact spec_Names.mono _ _)
      | (with_reducible exact LeO.refl _)
      | (with_reducible exact LeO.none _)
      | (with_reducible refine LeO.ite ?_ ?_)
      | (with_reducible refine LeO.bind ?_ (fun _ => ?_))
      | exact ih0 _ _ _
      | exact ih1 _ _ _
      | exact ih2 _ _ _ _ _ _
      | exact impl_ParsePath.mono _ _
      | exact spec_Names.mono _ _
      | exact LeO.none _
      | refine LeO.ite ?_ ?_
      | refine LeO.bind ?_ (fun _ => ?_)
set_option maxHeartbeats 8000000 in
set_option maxRecDepth 100000 in
theorem laws_FnPathNames.calls (k : Nat) (a0 : ByteArray) (a1 : ByteArray) (r : Bool) (w : World) (h : laws_FnPathNames.f k a0 a1 = some r) :
    Calls Try.prog 3 #[.string a0, .string a1] w fun e w' => e = .returned (.bool r) ∧ Below w.heap.size w w' := by
  have HB := Aside0.mk (Below.refl w.heap.size w)
  have H : (if (a0.size : Int) > 2147483647 then (laws_FnPathNames.j0 k a0 a1 true) else (laws_FnPathNames.j0 k a0 a1 (decide ((a1.size : Int) > 2147483647)))) = some r := h
  clear h
  have HC3 := Aside0.mk H
  clear H
  go_enter Try.func3, Try.ntmps3
  go_upto_region 1 with (fail)
  go_cut [17] (fun v17 wc => ∃ (kq : Nat) (x17_2 : Bool), v17 = .bool x17_2 ∧ Aside0 (laws_FnPathNames.j0 kq a0 a1 x17_2 = some r) ∧ Aside0 (kq ≤ k) ∧ Aside0 (Below w.heap.size w wc))
  case first =>
    have H := HC3.out
    clear HC3
    by_cases c4 : (a0.size : Int) > 2147483647
    · rw [if_pos c4] at H
      have c4b0 : decide (2147483647 < (a0.size : Int)) = true := decide_eq_true c4
      have c4b1 : decide (2147483647 < a0.size) = true := decide_eq_true (by omega)
      clear c4
      (first | rw [c4b0] | (simp only [i64_w, i32_w]; rw [c4b0]) | rw [c4b3] | skip)
      have H' := Aside0.mk H
      clear H
      go_wp2
      go_meet
      case rel => exact ⟨_, (true), (by first | rfl | (simp; done) | (simp [*]; done)), H', ⟨by first | omega | exact Nat.le_refl _⟩, ⟨by repeat (first | (with_reducible first | exact HB.out | apply below_alloc | apply pw_below_drewN | apply below_drew1) | exact HB.out)⟩⟩
    · rw [if_neg c4] at H
      have c4b0 : decide (2147483647 < (a0.size : Int)) = false := decide_eq_false c4
      have c4b1 : decide (2147483647 < a0.size) = false := decide_eq_false (by omega)
      clear c4
      (first | rw [c4b0] | (simp only [i64_w, i32_w]; rw [c4b0]) | rw [c4b3] | skip)
      have H' := Aside0.mk H
      clear H
      go_wp2
      go_meet
      case rel => exact ⟨_, (decide ((a1.size : Int) > 2147483647)), (by first | rfl | (simp; done) | (simp [*]; done)), H', ⟨by first | omega | exact Nat.le_refl _⟩, ⟨by repeat (first | (with_reducible first | exact HB.out | apply below_alloc | apply pw_below_drewN | apply below_drew1) | exact HB.out)⟩⟩
  case rest =>
    clear HC3
    try clear p2
    try clear c3
    try clear c4
    try clear c4b0
    try clear c4b1
    obtain ⟨kq, x17_2, rfl, HA, HJ2, HB⟩ := hcut
    cases kq with
    | zero => exact absurd HA.out (by simp [laws_FnPathNames.j0])
    | succ kj2 =>
      have H := HA.out
      clear HA
      simp only [laws_FnPathNames.j0] at H
      by_cases c5 : x17_2 = true
      · subst c5
        have H1 : (some true) = some r := by rw [if_pos rfl] at H; exact H
        clear H
        have H := H1
        clear H1
        obtain rfl := Option.some.inj H
        go_wp2
        go_ret
        exact ⟨by first | rfl | (simp [errW_none, errW_some] <;> rfl) | (simp [*, errW_none, errW_some] <;> rfl), by repeat (first | (with_reducible first | exact HB.out | apply below_alloc | apply pw_below_drewN | apply below_drew1) | exact HB.out)⟩
      · replace c5 := Bool.eq_false_iff.mpr c5
        subst c5
        have H1 : (if (a0.size : Int) > 400 then (laws_FnPathNames.j1 kj2 a0 a1 true) else (laws_FnPathNames.j1 kj2 a0 a1 (decide ((a1.size : Int) > 400)))) = some r := by rw [if_neg (show ¬ (false = true) by decide)] at H; exact H
        clear H
        have H := H1
        clear H1
        have HC6 := Aside0.mk H
        clear H
        go_upto_region 3 with (fail)
        go_cut [25] (fun v25 wc => ∃ (kq : Nat) (x25_5 : Bool), v25 = .bool x25_5 ∧ Aside0 (laws_FnPathNames.j1 kq a0 a1 x25_5 = some r) ∧ Aside0 (kq ≤ kj2) ∧ Aside0 (Below w.heap.size w wc))
        case first =>
          have H := HC6.out
          clear HC6
          by_cases c7 : (a0.size : Int) > 400
          · rw [if_pos c7] at H
            have c7b0 : decide (400 < (a0.size : Int)) = true := decide_eq_true c7
            have c7b1 : decide (400 < a0.size) = true := decide_eq_true (by omega)
            clear c7
            (first | rw [c7b0] | (simp only [i64_w, i32_w]; rw [c7b0]) | rw [c7b3] | skip)
            have H' := Aside0.mk H
            clear H
            go_wp2
            go_meet
            case rel => exact ⟨_, (true), (by first | rfl | (simp; done) | (simp [*]; done)), H', ⟨by have := HJ2.out; first | omega | exact Nat.le_refl _⟩, ⟨by repeat (first | (with_reducible first | exact HB.out | apply below_alloc | apply pw_below_drewN | apply below_drew1) | exact HB.out)⟩⟩
          · rw [if_neg c7] at H
            have c7b0 : decide (400 < (a0.size : Int)) = false := decide_eq_false c7
            have c7b1 : decide (400 < a0.size) = false := decide_eq_false (by omega)
            clear c7
            (first | rw [c7b0] | (simp only [i64_w, i32_w]; rw [c7b0]) | rw [c7b3] | skip)
            have H' := Aside0.mk H
            clear H
            go_wp2
            go_meet
            case rel => exact ⟨_, (decide ((a1.size : Int) > 400)), (by first | rfl | (simp; done) | (simp [*]; done)), H', ⟨by have := HJ2.out; first | omega | exact Nat.le_refl _⟩, ⟨by repeat (first | (with_reducible first | exact HB.out | apply below_alloc | apply pw_below_drewN | apply below_drew1) | exact HB.out)⟩⟩
        case rest =>
          clear HC6
          try clear p2
          try clear c3
          try clear c4
          try clear c4b0
          try clear c4b1
          try clear c5
          try clear c7
          try clear c7b0
          try clear c7b1
          try clear p2
          obtain ⟨kq, x25_5, rfl, HA, HJ5, HB⟩ := hcut
          cases kq with
          | zero => exact absurd HA.out (by simp [laws_FnPathNames.j1])
          | succ kj5 =>
            have H := HA.out
            clear HA
            simp only [laws_FnPathNames.j1] at H
            by_cases c8 : x25_5 = true
            · subst c8
              have H1 : (some true) = some r := by rw [if_pos rfl] at H; exact H
              clear H
              have H := H1
              clear H1
              obtain rfl := Option.some.inj H
              go_wp2
              go_ret
              exact ⟨by first | rfl | (simp [errW_none, errW_some] <;> rfl) | (simp [*, errW_none, errW_some] <;> rfl), by repeat (first | (with_reducible first | exact HB.out | apply below_alloc | apply pw_below_drewN | apply below_drew1) | exact HB.out)⟩
            · replace c8 := Bool.eq_false_iff.mpr c8
              subst c8
              have H1 : ((impl_ParsePath.f kj5 a0).bind fun t125 => ((spec_Names.f kj5 a0).bind fun t128 => (if (t125.length : Int) = (t128.length : Int) then (laws_FnPathNames.l0 kj5 a0 a1 t128 t125 (t125.length : Int) 0) else (some false)))) = some r := by rw [if_neg (show ¬ (false = true) by decide)] at H; exact H
              clear H
              have H := H1
              clear H1
              replace H := Option.bind_eq_some_iff.mp H
              obtain ⟨t125, A90, H⟩ := H
              replace H : ((spec_Names.f kj5 a0).bind fun t128 => (if (t125.length : Int) = (t128.length : Int) then (laws_FnPathNames.l0 kj5 a0 a1 t128 t125 (t125.length : Int) 0) else (some false))) = some r := H
              have A9 := Aside0.mk A90
              clear A90
              replace H := Option.bind_eq_some_iff.mp H
              obtain ⟨t128, A100, H⟩ := H
              replace H : (if (t125.length : Int) = (t128.length : Int) then (laws_FnPathNames.l0 kj5 a0 a1 t128 t125 (t125.length : Int) 0) else (some false)) = some r := H
              have A10 := Aside0.mk A100
              clear A100
              by_cases c11 : (t125.length : Int) = (t128.length : Int)
              · rw [if_pos c11] at H
                have c11b0 : ((t125.length : Int) == (t128.length : Int)) = true := beq_iff_eq.mpr c11
                have c11b1 : ((t125.length : Int) != (t128.length : Int)) = false := bne_eq_false_iff_eq.mpr c11
                have c11b2 : (t125.length == t128.length) = true := by first | simpa using c11 | (simp at c11 ⊢; omega)
                clear c11
                have H' := Aside0.mk H
                clear H
                go_wp2_with (first | ((with_reducible refine gate_callee (f := 7) rfl ?_); refine goesL_ (some 27) rfl rfl Try.func7 (by kernel_rfl) rfl #[.string a0] rfl (by (try simp only [List.map_toArray, List.map_cons, List.map_nil]); first | done | rfl | (simp only [List.length_drop, List.length_take]; rfl)) ?_; (with_reducible refine (impl_ParsePath.calls kj5 a0 t125 _ A9.out).mono ?_); rintro e w12 ⟨v126, rfl, ho0, hb⟩; refine ⟨_, rfl, ?_⟩; have n0_ := Aside0.mk (Kd.R_lower ho0 (below_size (by repeat (first | (with_reducible first | exact HB.out | apply below_alloc | apply pw_below_drewN | apply below_drew1) | exact HB.out)))); have n1_ := Aside0.mk (below_step (by repeat (first | (with_reducible first | exact HB.out | apply below_alloc | apply pw_below_drewN | apply below_drew1) | exact HB.out)) hb); clear HB; have HO127 := n0_; have HB := n1_; clear n0_ n1_; (try clear hb); (try clear hb2); (try clear hk); (try clear hi); (try clear ho0)) | ((with_reducible refine gate_callee (f := 8) rfl ?_); refine goesL_ (some 29) rfl rfl Try.func8 (by kernel_rfl) rfl #[.string a0] rfl (by (try simp only [List.map_toArray, List.map_cons, List.map_nil]); first | done | rfl | (simp only [List.length_drop, List.length_take]; rfl)) ?_; (with_reducible refine (spec_Names.calls kj5 a0 t128 _ A10.out).mono ?_); rintro e w13 ⟨v129, rfl, ho0, hb⟩; refine ⟨_, rfl, ?_⟩; have n0_ := Aside0.mk (Kd.R_elder' (by (with_reducible repeat (first | apply Kd.R_alloc | apply Kd.R_drewN | apply Kd.R_drew)); exact HO127.out) (Kd.R_base ho0) hb); have n1_ := Aside0.mk (Kd.R_lower (Kd.R_new' ho0 (Kd.R_lt (by (with_reducible repeat (first | apply Kd.R_alloc | apply Kd.R_drewN | apply Kd.R_drew)); exact HO127.out))) (below_size (by repeat (first | (with_reducible first | exact HB.out | apply below_alloc | apply pw_below_drewN | apply below_drew1) | exact HB.out)))); have n2_ := Aside0.mk (below_step (by repeat (first | (with_reducible first | exact HB.out | apply below_alloc | apply pw_below_drewN | apply below_drew1) | exact HB.out)) hb); clear HO127; clear HB; have HO127 := n0_; have HO130 := n1_; have HB := n2_; clear n0_ n1_ n2_; (try clear hb); (try clear hb2); (try clear hk); (try clear hi); (try clear ho0); obtain ⟨Ao14, co14, eo14⟩ := Kd.R_slice HO127.out; subst eo14; obtain ⟨Ao15, co15, eo15⟩ := Kd.R_slice HO130.out; subst eo15))
                go_loopg [37] kj5 (fun kq v37 w' => ∃ (x37_3 : Int), v37 = .int .i64 x37_3 ∧ Aside0 (laws_FnPathNames.l0 kq a0 a1 t128 t125 (t125.length : Int) x37_3 = some r) ∧ Aside0 (kq ≤ kj5) ∧ Aside0 (Kd.R Kd.string 9 w' w.heap.size (fun k_ => some k_ ≠ ((.slice Ao14 t125.length co14) : Value).ownBlock) (.slice Ao15 t128.length co15) t128) ∧ Aside0 (Kd.R Kd.string 9 w' w.heap.size (fun k_ => some k_ ≠ ((.slice Ao15 t128.length co15) : Value).ownBlock) (.slice Ao14 t125.length co14) t125) ∧ Aside0 (Below w.heap.size w w'))
                case atStart => exact ⟨(0), (by first | rfl | (simp; done) | (simp [*]; done)), H', ⟨Nat.le_refl _⟩, ⟨by (with_reducible repeat (first | apply Kd.R_alloc | apply Kd.R_drewN | apply Kd.R_drew)); exact Kd.R_mono HO130.out (fun _ hk => hk.2)⟩, ⟨by (with_reducible repeat (first | apply Kd.R_alloc | apply Kd.R_drewN | apply Kd.R_drew)); exact Kd.R_mono HO127.out (fun _ hk => hk.2)⟩, ⟨by repeat (first | (with_reducible first | exact HB.out | apply below_alloc | apply pw_below_drewN | apply below_drew1) | exact HB.out)⟩⟩
                case round =>
                  clear H'
                  try clear c1
                  try clear p2
                  try clear c3
                  try clear c4
                  try clear c4b0
                  try clear c4b1
                  try clear c5
                  try clear c7
                  try clear c7b0
                  try clear c7b1
                  try clear c8
                  try clear c11
                  try clear c11b0
                  try clear c11b1
                  try clear c11b2
                  try clear p2
                  obtain ⟨x37_3, rfl, HA, HK3, HO_6, HO_35, HB⟩ := hrel
                  cases gk with
                  | zero => exact absurd HA.out (by simp [laws_FnPathNames.l0])
                  | succ k3 =>
                    have H := HA.out
                    clear HA
                    simp only [laws_FnPathNames.l0] at H
                    by_cases c16 : x37_3 < (t125.length : Int)
                    · rw [if_pos c16] at H
                      have c16b0 : decide (x37_3 < (t125.length : Int)) = true := decide_eq_true c16
                      clear c16
                      by_cases c17 : 0 ≤ x37_3
                      · rw [if_pos c17] at H
                        have c17b0 : decide (0 ≤ x37_3) = true := decide_eq_true c17
                        clear c17
                        by_cases c18 : x37_3 < (t125.length : Int)
                        · rw [if_pos c18] at H
                          have c18b0 : decide (x37_3 < (t125.length : Int)) = true := decide_eq_true c18
                          clear c18
                          by_cases c19 : x37_3 < (t128.length : Int)
                          · rw [if_pos c19] at H
                            have c19b0 : decide (x37_3 < (t128.length : Int)) = true := decide_eq_true c19
                            clear c19
                            by_cases c20 : (rdOf ByteArray.empty t125 x37_3).toList = (rdOf ByteArray.empty t128 x37_3).toList
                            · rw [if_pos c20] at H
                              have c20b0 : ((rdOf ByteArray.empty t125 x37_3).toList == (rdOf ByteArray.empty t128 x37_3).toList) = true := beq_iff_eq.mpr c20
                              have c20b1 : ((rdOf ByteArray.empty t125 x37_3).toList != (rdOf ByteArray.empty t128 x37_3).toList) = false := bne_eq_false_iff_eq.mpr c20
                              clear c20
                              have H' := Aside0.mk H
                              clear H
                              have p131 : 0 ≤ (x37_3 : Int) := of_decide_eq_true (by first | (with_reducible assumption) | assumption)
                              have q131 : x37_3 < (t125.length : Int) := of_decide_eq_true (by first | (with_reducible assumption) | assumption)
                              obtain ⟨ad131, e131, hx131_0⟩ := Kd.at_string (Kd.R_reads' HO_35.out).2.2 x37_3 p131 q131
                              cases e131
                              replace p131 := eq_true p131
                              replace q131 := eq_true q131
                              have p132 : 0 ≤ (x37_3 : Int) := of_decide_eq_true (by first | (with_reducible assumption) | assumption)
                              have q132 : x37_3 < (t128.length : Int) := of_decide_eq_true (by first | (with_reducible assumption) | assumption)
                              obtain ⟨ad132, e132, hx132_0⟩ := Kd.at_string (Kd.R_reads' HO_6.out).2.2 x37_3 p132 q132
                              cases e132
                              replace p132 := eq_true p132
                              replace q132 := eq_true q132
                              go_wp2
                              go_roundg k3
                              case measure => have := HJ2.out; have := HJ5.out; have := HK3.out; omega
                              case rel => exact ⟨(wrap64 (x37_3 + 1)), (by first | rfl | (simp; done) | (simp [*]; done)), H', ⟨by have := HJ2.out; have := HJ5.out; have := HK3.out; omega⟩, ⟨by (with_reducible repeat (first | apply Kd.R_alloc | apply Kd.R_drewN | apply Kd.R_drew)); exact HO_6.out⟩, ⟨by (with_reducible repeat (first | apply Kd.R_alloc | apply Kd.R_drewN | apply Kd.R_drew)); exact HO_35.out⟩, ⟨by repeat (first | (with_reducible first | exact HB.out | apply below_alloc | apply pw_below_drewN | apply below_drew1) | exact HB.out)⟩⟩
                            · rw [if_neg c20] at H
                              have c20b0 : ((rdOf ByteArray.empty t125 x37_3).toList == (rdOf ByteArray.empty t128 x37_3).toList) = false := beq_eq_false_iff_ne.mpr c20
                              have c20b1 : ((rdOf ByteArray.empty t125 x37_3).toList != (rdOf ByteArray.empty t128 x37_3).toList) = true := bne_iff_ne.mpr c20
                              obtain rfl := Option.some.inj H
                              have p131 : 0 ≤ (x37_3 : Int) := of_decide_eq_true (by first | (with_reducible assumption) | assumption)
                              have q131 : x37_3 < (t125.length : Int) := of_decide_eq_true (by first | (with_reducible assumption) | assumption)
                              obtain ⟨ad131, e131, hx131_0⟩ := Kd.at_string (Kd.R_reads' HO_35.out).2.2 x37_3 p131 q131
                              cases e131
                              replace p131 := eq_true p131
                              replace q131 := eq_true q131
                              have p132 : 0 ≤ (x37_3 : Int) := of_decide_eq_true (by first | (with_reducible assumption) | assumption)
                              have q132 : x37_3 < (t128.length : Int) := of_decide_eq_true (by first | (with_reducible assumption) | assumption)
                              obtain ⟨ad132, e132, hx132_0⟩ := Kd.at_string (Kd.R_reads' HO_6.out).2.2 x37_3 p132 q132
                              cases e132
                              replace p132 := eq_true p132
                              replace q132 := eq_true q132
                              go_wp2
                              go_ret
                              exact ⟨by first | rfl | (simp [errW_none, errW_some] <;> rfl) | (simp [*, errW_none, errW_some] <;> rfl), by repeat (first | (with_reducible first | exact HB.out | apply below_alloc | apply pw_below_drewN | apply below_drew1) | exact HB.out)⟩
                          · rw [if_neg c19] at H
                            exact absurd H (by simp)
                        · rw [if_neg c18] at H
                          exact absurd H (by simp)
                      · rw [if_neg c17] at H
                        exact absurd H (by simp)
                    · rw [if_neg c16] at H
                      have c16b0 : decide (x37_3 < (t125.length : Int)) = false := decide_eq_false c16
                      clear c16
                      replace H := Option.bind_eq_some_iff.mp H
                      obtain ⟨t133, A210, H⟩ := H
                      replace H : (if a1.toList = ([] : List UInt8) then (if t133.toList = a0.toList then (some true) else (some false)) else (if a1.size + 1 ≤ 9223372036854775807 then (if (a1 ++ (⟨#[46]⟩ : ByteArray)).size + a0.size ≤ 9223372036854775807 then (some (t133.toList == ((a1 ++ (⟨#[46]⟩ : ByteArray)) ++ a0).toList)) else (none)) else (none))) = some r := H
                      have A21 := Aside0.mk A210
                      clear A210
                      by_cases c22 : a1.toList = ([] : List UInt8)
                      · rw [if_pos c22] at H
                        have c22b0 : (a1.toList == ([] : List UInt8)) = true := beq_iff_eq.mpr c22
                        have c22b1 : (a1.toList != ([] : List UInt8)) = false := bne_eq_false_iff_eq.mpr c22
                        (try (have c22b2 : a1.toList.isEmpty = true := by simpa using c22))
                        (try (have c22b3 : (!a1.toList.isEmpty) = false := by simpa using c22))
                        clear c22
                        by_cases c23 : t133.toList = a0.toList
                        · rw [if_pos c23] at H
                          have c23b0 : (t133.toList == a0.toList) = true := beq_iff_eq.mpr c23
                          have c23b1 : (t133.toList != a0.toList) = false := bne_eq_false_iff_eq.mpr c23
                          clear c23
                          obtain rfl := Option.some.inj H
                          go_wp2_with (first | ((with_reducible refine gate_callee (f := 9) rfl ?_); refine goesL_ (some 51) rfl rfl Try.func9 (by kernel_rfl) rfl #[.string a1, .string a0] rfl (by (try simp only [List.map_toArray, List.map_cons, List.map_nil]); first | done | rfl | (simp only [List.length_drop, List.length_take]; rfl)) ?_; (with_reducible refine (impl_ConcatPrefix.calls a1 a0 t133 _ A21.out).mono ?_); rintro e w' ⟨rfl, ⟨nd, rfl⟩⟩; refine ⟨_, rfl, ?_⟩))
                          go_ret
                          exact ⟨by first | rfl | (simp [errW_none, errW_some] <;> rfl) | (simp [*, errW_none, errW_some] <;> rfl), by repeat (first | (with_reducible first | exact HB.out | apply below_alloc | apply pw_below_drewN | apply below_drew1) | exact HB.out)⟩
                        · rw [if_neg c23] at H
                          have c23b0 : (t133.toList == a0.toList) = false := beq_eq_false_iff_ne.mpr c23
                          have c23b1 : (t133.toList != a0.toList) = true := bne_iff_ne.mpr c23
                          obtain rfl := Option.some.inj H
                          go_wp2_with (first | ((with_reducible refine gate_callee (f := 9) rfl ?_); refine goesL_ (some 51) rfl rfl Try.func9 (by kernel_rfl) rfl #[.string a1, .string a0] rfl (by (try simp only [List.map_toArray, List.map_cons, List.map_nil]); first | done | rfl | (simp only [List.length_drop, List.length_take]; rfl)) ?_; (with_reducible refine (impl_ConcatPrefix.calls a1 a0 t133 _ A21.out).mono ?_); rintro e w' ⟨rfl, ⟨nd, rfl⟩⟩; refine ⟨_, rfl, ?_⟩))
                          go_ret
                          exact ⟨by first | rfl | (simp [errW_none, errW_some] <;> rfl) | (simp [*, errW_none, errW_some] <;> rfl), by repeat (first | (with_reducible first | exact HB.out | apply below_alloc | apply pw_below_drewN | apply below_drew1) | exact HB.out)⟩
                      · rw [if_neg c22] at H
                        have c22b0 : (a1.toList == ([] : List UInt8)) = false := beq_eq_false_iff_ne.mpr c22
                        have c22b1 : (a1.toList != ([] : List UInt8)) = true := bne_iff_ne.mpr c22
                        (try (have c22b2 : a1.toList.isEmpty = false := by simpa using c22))
                        (try (have c22b3 : (!a1.toList.isEmpty) = true := by simpa using c22))
                        by_cases c24 : a1.size + 1 ≤ 9223372036854775807
                        · rw [if_pos c24] at H
                          have c24b0 := eq_true c24
                          have c24b1 : decide (a1.size + 1 ≤ 9223372036854775807) = true := decide_eq_true c24
                          try have c24b2 : (9223372036854775807 < a1.size + 1) = False := eq_false (Nat.not_lt.2 c24)
                          by_cases c25 : (a1 ++ (⟨#[46]⟩ : ByteArray)).size + a0.size ≤ 9223372036854775807
                          · rw [if_pos c25] at H
                            have c25b0 := eq_true c25
                            have c25b1 : decide ((a1 ++ (⟨#[46]⟩ : ByteArray)).size + a0.size ≤ 9223372036854775807) = true := decide_eq_true c25
                            try have c25b2 : (9223372036854775807 < (a1 ++ (⟨#[46]⟩ : ByteArray)).size + a0.size) = False := eq_false (Nat.not_lt.2 c25)
                            try (have c25b3 := c25b2; rw [ByteArray.size_append] at c25b3)
                            try (have c25b4 : (9223372036854775807 < a1.size + 1 + a0.size) = False := by have h_ := c25b2; simp only [ByteArray.size_append] at h_; exact h_)
                            obtain rfl := Option.some.inj H
                            go_wp2_with (first | ((with_reducible refine gate_callee (f := 9) rfl ?_); refine goesL_ (some 51) rfl rfl Try.func9 (by kernel_rfl) rfl #[.string a1, .string a0] rfl (by (try simp only [List.map_toArray, List.map_cons, List.map_nil]); first | done | rfl | (simp only [List.length_drop, List.length_take]; rfl)) ?_; (with_reducible refine (impl_ConcatPrefix.calls a1 a0 t133 _ A21.out).mono ?_); rintro e w' ⟨rfl, ⟨nd, rfl⟩⟩; refine ⟨_, rfl, ?_⟩))
                            go_ret
                            exact ⟨by first | rfl | (simp [errW_none, errW_some] <;> rfl) | (simp [*, errW_none, errW_some] <;> rfl), by repeat (first | (with_reducible first | exact HB.out | apply below_alloc | apply pw_below_drewN | apply below_drew1) | exact HB.out)⟩
                          · rw [if_neg c25] at H
                            exact absurd H (by simp)
                        · rw [if_neg c24] at H
                          exact absurd H (by simp)
              · rw [if_neg c11] at H
                have c11b0 : ((t125.length : Int) == (t128.length : Int)) = false := beq_eq_false_iff_ne.mpr c11
                have c11b1 : ((t125.length : Int) != (t128.length : Int)) = true := bne_iff_ne.mpr c11
                have c11b2 : (t125.length == t128.length) = false := by first | simpa using c11 | (simp at c11 ⊢; omega)
                obtain rfl := Option.some.inj H
                go_wp2_with (first | ((with_reducible refine gate_callee (f := 7) rfl ?_); refine goesL_ (some 27) rfl rfl Try.func7 (by kernel_rfl) rfl #[.string a0] rfl (by (try simp only [List.map_toArray, List.map_cons, List.map_nil]); first | done | rfl | (simp only [List.length_drop, List.length_take]; rfl)) ?_; (with_reducible refine (impl_ParsePath.calls kj5 a0 t125 _ A9.out).mono ?_); rintro e w26 ⟨v126, rfl, ho0, hb⟩; refine ⟨_, rfl, ?_⟩; have n0_ := Aside0.mk (Kd.R_lower ho0 (below_size (by repeat (first | (with_reducible first | exact HB.out | apply below_alloc | apply pw_below_drewN | apply below_drew1) | exact HB.out)))); have n1_ := Aside0.mk (below_step (by repeat (first | (with_reducible first | exact HB.out | apply below_alloc | apply pw_below_drewN | apply below_drew1) | exact HB.out)) hb); clear HB; have HO127 := n0_; have HB := n1_; clear n0_ n1_; (try clear hb); (try clear hb2); (try clear hk); (try clear hi); (try clear ho0)) | ((with_reducible refine gate_callee (f := 8) rfl ?_); refine goesL_ (some 29) rfl rfl Try.func8 (by kernel_rfl) rfl #[.string a0] rfl (by (try simp only [List.map_toArray, List.map_cons, List.map_nil]); first | done | rfl | (simp only [List.length_drop, List.length_take]; rfl)) ?_; (with_reducible refine (spec_Names.calls kj5 a0 t128 _ A10.out).mono ?_); rintro e w27 ⟨v129, rfl, ho0, hb⟩; refine ⟨_, rfl, ?_⟩; have n0_ := Aside0.mk (Kd.R_elder' (by (with_reducible repeat (first | apply Kd.R_alloc | apply Kd.R_drewN | apply Kd.R_drew)); exact HO127.out) (Kd.R_base ho0) hb); have n1_ := Aside0.mk (Kd.R_lower (Kd.R_new' ho0 (Kd.R_lt (by (with_reducible repeat (first | apply Kd.R_alloc | apply Kd.R_drewN | apply Kd.R_drew)); exact HO127.out))) (below_size (by repeat (first | (with_reducible first | exact HB.out | apply below_alloc | apply pw_below_drewN | apply below_drew1) | exact HB.out)))); have n2_ := Aside0.mk (below_step (by repeat (first | (with_reducible first | exact HB.out | apply below_alloc | apply pw_below_drewN | apply below_drew1) | exact HB.out)) hb); clear HO127; clear HB; have HO127 := n0_; have HO130 := n1_; have HB := n2_; clear n0_ n1_ n2_; (try clear hb); (try clear hb2); (try clear hk); (try clear hi); (try clear ho0); obtain ⟨Ao28, co28, eo28⟩ := Kd.R_slice HO127.out; subst eo28; obtain ⟨Ao29, co29, eo29⟩ := Kd.R_slice HO130.out; subst eo29))
                go_ret
                exact ⟨by first | rfl | (simp [errW_none, errW_some] <;> rfl) | (simp [*, errW_none, errW_some] <;> rfl), by repeat (first | (with_reducible first | exact HB.out | apply below_alloc | apply pw_below_drewN | apply below_drew1) | exact HB.out)⟩

/-- THE ONE PURE STATEMENT of laws_FnPathNames: yours. -/
def laws_FnPathNames.Pure : Prop := ∀ (a0 : ByteArray) (a1 : ByteArray), a0.size ≤ 140737488351232 → a1.size ≤ 140737488351232 → ∃ k, laws_FnPathNames.f k a0 a1 = some true
theorem laws_FnPathNames.walk (P : laws_FnPathNames.Pure) (a0 : ByteArray) (a1 : ByteArray) (w : World) (w0 : a0.size ≤ 140737488351232) (w1 : a1.size ≤ 140737488351232) :
    Calls Try.prog 3 #[.string a0, .string a1] w fun e w' => e = .returned (.bool true) ∧ Below w.heap.size w w' := by
  obtain ⟨k, h⟩ := P a0 a1 w0 w1
  refine (laws_FnPathNames.calls k a0 a1 true w h).mono ?_
  rintro e w' ⟨rfl, hd⟩
  exact ⟨rfl, hd⟩

end Go.Proofs.Ytcficphbjicneaa.PFnPathNames

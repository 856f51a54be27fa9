-- printed by a program of this session: the print, turned for a few more operations
import Derived.Test.YtcficphbjicneaaPFnSeqIndentStylex0
import Derived.Test.YtcficphbjicneaaPFnSeqIndentStylex2
import Derived.Test.YtcficphbjicneaaPFnSeqIndentStylex3
namespace Go.Proofs.Ytcficphbjicneaa.PFnSeqIndentStyle
open Go.RowKit Go.Proofs.YtcficphbjicneaaW.PrintWords Go.Proofs.YtcficphbjicneaaW.PrintLast Go.Proofs.YtcficphbjicneaaW.PrintMore
attribute [local go_sem] max2_int min2_int max_two min_two max_three min_three max_four min_four   -- for this text's walks alone
set_option linter.unusedVariables false
set_option linter.unusedSimpArgs false

/-! ### spec_KySeqStyle: function 15 -/
mutual
def spec_KySeqStyle.l0 : Nat → List ByteArray → List ByteArray → Int → Int → Option (ByteArray)
  | 0, _, _, _, _ => none
  | k + 1, x3, x12, x13, x14 => if x14 < x13 then (if 0 ≤ x14 then (if x14 < (x12.length : Int) then ((spec_kyIndex.f k (rdOf ByteArray.empty x12 x14) (⟨#[45, 32]⟩ : ByteArray)).bind fun t165 => (if t165 < 0 then (spec_KySeqStyle.j1 k x3 x14 t165 x12 x13 x14 true) else (if 0 ≤ t165 then (if t165 ≤ ((rdOf ByteArray.empty x12 x14).size : Int) then ((spec_kyTrim.f k ((rdOf ByteArray.empty x12 x14).extract 0 (t165 : Int).toNat)).bind fun t166 => (spec_KySeqStyle.j1 k x3 x14 t165 x12 x13 x14 (t166.toList != ([] : List UInt8)))) else (none)) else (none)))) else (none)) else (none)) else (some (⟨#[99, 111, 109, 112, 97, 99, 116]⟩ : ByteArray))
def spec_KySeqStyle.j1 : Nat → List ByteArray → Int → Int → List ByteArray → Int → Int → Bool → Option (ByteArray)
  | 0, _, _, _, _, _, _, _ => none
  | k + 1, x3, x4, x6, x12, x13, x14, x29 => if x29 = true then (spec_KySeqStyle.l0 k x3 x12 x13 (wrap64 (x14 + 1))) else ((spec_KyKeyLine.f k x3 x4).bind fun t167 => ((spec_kyTrim.f k t167).bind fun t168 => (if t168.toList = ([] : List UInt8) then (spec_KySeqStyle.j2 k x3 x6 t167 x12 x13 x14 true) else ((spec_kyIndex.f k t168 (⟨#[58]⟩ : ByteArray)).bind fun t169 => (spec_KySeqStyle.j2 k x3 x6 t167 x12 x13 x14 (t169 != (wrap64 ((t168.size : Int) - 1))))))))
def spec_KySeqStyle.j2 : Nat → List ByteArray → Int → ByteArray → List ByteArray → Int → Int → Bool → Option (ByteArray)
  | 0, _, _, _, _, _, _, _ => none
  | k + 1, x3, x6, x7, x12, x13, x14, x44 => if x44 = true then (spec_KySeqStyle.l0 k x3 x12 x13 (wrap64 (x14 + 1))) else (spec_KySeqStyle.l1 k x3 x6 x7 0 x12 x13 x14)
def spec_KySeqStyle.l1 : Nat → List ByteArray → Int → ByteArray → Int → List ByteArray → Int → Int → Option (ByteArray)
  | 0, _, _, _, _, _, _, _ => none
  | k + 1, x3, x6, x7, x9, x12, x13, x14 => if 0 ≤ x9 then (if x9 < (x7.size : Int) then (if (bt x7 x9) = 32 then (spec_KySeqStyle.l1 k x3 x6 x7 (wrap64 (x9 + 1)) x12 x13 x14) else (if (wrap64 (x6 - x9)) = 0 then (some (⟨#[99, 111, 109, 112, 97, 99, 116]⟩ : ByteArray)) else (if (wrap64 (x6 - x9)) = 2 then (some (⟨#[119, 105, 100, 101]⟩ : ByteArray)) else (spec_KySeqStyle.l0 k x3 x12 x13 (wrap64 (x14 + 1)))))) else (none)) else (none)
end
def spec_KySeqStyle.f (k : Nat) (a0 : ByteArray) : Option (ByteArray) := (spec_kySplit.f k a0 (⟨#[10]⟩ : ByteArray)).bind fun t161 => (spec_KySeqStyle.l0 k t161 t161 (t161.length : Int) 0)
theorem spec_KySeqStyle.mono_l : ∀ k, (∀ y0 y1 y2 y3, LeO (spec_KySeqStyle.l0 k y0 y1 y2 y3) (spec_KySeqStyle.l0 (k + 1) y0 y1 y2 y3)) ∧ (∀ y0 y1 y2 y3 y4 y5 y6, LeO (spec_KySeqStyle.j1 k y0 y1 y2 y3 y4 y5 y6) (spec_KySeqStyle.j1 (k + 1) y0 y1 y2 y3 y4 y5 y6)) ∧ (∀ y0 y1 y2 y3 y4 y5 y6, LeO (spec_KySeqStyle.j2 k y0 y1 y2 y3 y4 y5 y6) (spec_KySeqStyle.j2 (k + 1) y0 y1 y2 y3 y4 y5 y6)) ∧ (∀ y0 y1 y2 y3 y4 y5 y6, LeO (spec_KySeqStyle.l1 k y0 y1 y2 y3 y4 y5 y6) (spec_KySeqStyle.l1 (k + 1) y0 y1 y2 y3 y4 y5 y6))
  | 0 => ⟨fun _ _ _ _ r h => by simp [spec_KySeqStyle.l0] at h, fun _ _ _ _ _ _ _ r h => by simp [spec_KySeqStyle.j1] at h, fun _ _ _ _ _ _ _ r h => by simp [spec_KySeqStyle.j2] at h, fun _ _ _ _ _ _ _ r h => by simp [spec_KySeqStyle.l1] at h⟩
  | k + 1 => by
    obtain ⟨ih0, ih1, ih2, ih3⟩ := spec_KySeqStyle.mono_l k
    refine ⟨?_, ?_, ?_, ?_⟩
    · intro y0 y1 y2 y3
      unfold spec_KySeqStyle.l0
      repeat' first
      | (with_reducible exact ih0 _ _ _ _)
      | (with_reducible exact ih1 _ _ _ _ _ _ _)
      | (with_reducible exact ih2 _ _ _ _ _ _ _)
      | (with_reducible exact ih3 _ _ _ _ _ _ _)
      | (with_reducible exact spec_KyKeyLine.mono _ _ _)
      | (with_reducible exact spec_kyIndex.mono _ _ _)
      | (with_reducible exact spec_kySplit.mono _ _ _)
      | (with_reducible exact spec_kyTrim.mono _ _)
      | (with_reducible exact LeO.refl _)
      | (with_reducible exact LeO.none _)
      | (with_reducible refine LeO.ite ?_ ?_)
      | (with_reducible refine LeO.bind ?_ (fun _ => ?_))
      | exact ih0 _ _ _ _
      | exact ih1 _ _ _ _ _ _ _
      | exact ih2 _ _ _ _ _ _ _
      | exact ih3 _ _ _ _ _ _ _
      | exact spec_KyKeyLine.mono _ _ _
      | exact spec_kyIndex.mono _ _ _
      | exact spec_kySplit.mono _ _ _
      | exact spec_kyTrim.mono _ _
      | exact LeO.none _
      | refine LeO.ite ?_ ?_
      | refine LeO.bind ?_ (fun _ => ?_)
    · intro y0 y1 y2 y3 y4 y5 y6
      unfold spec_KySeqStyle.j1
      repeat' first
      | (with_reducible exact ih0 _ _ _ _)
      | (with_reducible exact ih1 _ _ _ _ _ _ _)
      | (with_reducible exact ih2 _ _ _ _ _ _ _)
      | (with_reducible exact ih3 _ _ _ _ _ _ _)
      | (with_reducible exact spec_KyKeyLine.mono _ _ _)
      | (with_reducible exact spec_kyIndex.mono _ _ _)
      | (with_reducible exact spec_kySplit.mono _ _ _)
      | (with_reducible exact spec_kyTrim.mono _ _)
      | (with_reducible exact LeO.refl _)
      | (with_reducible exact LeO.none _)
      | (with_reducible refine LeO.ite ?_ ?_)
      | (with_reducible refine LeO.bind ?_ (fun _ => ?_))
      | exact ih0 _ _ _ _
      | exact ih1 _ _ _ _ _ _ _
      | exact ih2 _ _ _ _ _ _ _
      | exact ih3 _ _ _ _ _ _ _
      | exact spec_KyKeyLine.mono _ _ _
      | exact spec_kyIndex.mono _ _ _
      | exact spec_kySplit.mono _ _ _
      | exact spec_kyTrim.mono _ _
      | exact LeO.none _
      | refine LeO.ite ?_ ?_
      | refine LeO.bind ?_ (fun _ => ?_)
    · intro y0 y1 y2 y3 y4 y5 y6
      unfold spec_KySeqStyle.j2
      repeat' first
      | (with_reducible exact ih0 _ _ _ _)
      | (with_reducible exact ih1 _ _ _ _ _ _ _)
      | (with_reducible exact ih2 _ _ _ _ _ _ _)
      | (with_reducible exact ih3 _ _ _ _ _ _ _)
      | (with_reducible exact spec_KyKeyLine.mono _ _ _)
      | (with_reducible exact spec_kyIndex.mono _ _ _)
      | (with_reducible exact spec_kySplit.mono _ _ _)
      | (with_reducible exact spec_kyTrim.mono _ _)
      | (with_reducible exact LeO.refl _)
      | (with_reducible exact LeO.none _)
      | (with_reducible refine LeO.ite ?_ ?_)
      | (with_reducible refine LeO.bind ?_ (fun _ => ?_))
      | exact ih0 _ _ _ _
      | exact ih1 _ _ _ _ _ _ _
      | exact ih2 _ _ _ _ _ _ _
      | exact ih3 _ _ _ _ _ _ _
      | exact spec_KyKeyLine.mono _ _ _
      | exact spec_kyIndex.mono _ _ _
      | exact spec_kySplit.mono _ _ _
      | exact spec_kyTrim.mono _ _
      | exact LeO.none _
      | refine LeO.ite ?_ ?_
      | refine LeO.bind ?_ (fun _ => ?_)
    · intro y0 y1 y2 y3 y4 y5 y6
      unfold spec_KySeqStyle.l1
      repeat' first
      | (with_reducible exact ih0 _ _ _ _)
      | (with_reducible exact ih1 _ _ _ _ _ _ _)
      | (with_reducible exact ih2 _ _ _ _ _ _ _)
      | (with_reducible exact ih3 _ _ _ _ _ _ _)
      | (with_reducible exact spec_KyKeyLine.mono _ _ _)
      | (with_reducible exact spec_kyIndex.mono _ _ _)
      | (with_reducible exact spec_kySplit.mono _ _ _)
      | (with_reducible exact spec_kyTrim.mono _ _)
      | (with_reducible exact LeO.refl _)
      | (with_reducible exact LeO.none _)
      | (with_reducible refine LeO.ite ?_ ?_)
      | (with_reducible refine LeO.bind ?_ (fun _ => ?_))
      | exact ih0 _ _ _ _
      | exact ih1 _ _ _ _ _ _ _
      | exact ih2 _ _ _ _ _ _ _
      | exact ih3 _ _ _ _ _ _ _
      | exact spec_KyKeyLine.mono _ _ _
      | exact spec_kyIndex.mono _ _ _
      | exact spec_kySplit.mono _ _ _
      | exact spec_kyTrim.mono _ _
      | exact LeO.none _
      | refine LeO.ite ?_ ?_
      | refine LeO.bind ?_ (fun _ => ?_)
theorem spec_KySeqStyle.mono : ∀ a0 k, LeO (spec_KySeqStyle.f k a0) (spec_KySeqStyle.f (k + 1) a0) := by
  intro a0 k
  obtain ⟨ih0, ih1, ih2, ih3⟩ := spec_KySeqStyle.mono_l k
  unfold spec_KySeqStyle.f
  repeat' first
      | (with_reducible exact ih0 _ _ _ _)
      | (with_reducible exact ih1 _ _ _ _ _ _ _)
      | (with_reducible exact ih2 _ _ _ _ _ _ _)
      | (with_reducible exact ih3 _ _ _ _ _ _ _)
      | (with_reducible exact spec_KyKeyLine.mono _ _ _)
      | (with_reducible exact spec_kyIndex.mono _ _ _)
      | (with_reducible exact spec_kySplit.mono _ _ _)
      | (with_reducible exact spec_kyTrim.mono _ _)
      | (with_reducible exact LeO.refl _)
      | (with_reducible exact LeO.none _)
      | (with_reducible refine LeO.ite ?_ ?_)
      | (with_reducible refine LeO.bind ?_ (fun _ => ?_))
      | exact ih0 _ _ _ _
      | exact ih1 _ _ _ _ _ _ _
      | exact ih2 _ _ _ _ _ _ _
      | exact ih3 _ _ _ _ _ _ _
      | exact spec_KyKeyLine.mono _ _ _
      | exact spec_kyIndex.mono _ _ _
      | exact spec_kySplit.mono _ _ _
      | exact spec_kyTrim.mono _ _
      | exact LeO.none _
      | refine LeO.ite ?_ ?_
      | refine LeO.bind ?_ (fun _ => ?_)
set_option maxHeartbeats 8000000 in
set_option maxRecDepth 100000 in
theorem spec_KySeqStyle.calls (k : Nat) (a0 : ByteArray) (r : ByteArray) (w : World) (h : spec_KySeqStyle.f k a0 = some r) :
    Calls Try.prog 15 #[.string a0] w fun e w' => e = .returned (.string r) ∧ Below w.heap.size w w' := by
  have HB := Aside0.mk (Below.refl w.heap.size w)
  have H : ((spec_kySplit.f k a0 (⟨#[10]⟩ : ByteArray)).bind fun t161 => (spec_KySeqStyle.l0 k t161 t161 (t161.length : Int) 0)) = some r := h
  clear h
  replace H := Option.bind_eq_some_iff.mp H
  obtain ⟨t161, A20, H⟩ := H
  replace H : (spec_KySeqStyle.l0 k t161 t161 (t161.length : Int) 0) = some r := H
  have A2 := Aside0.mk A20
  clear A20
  have H' := Aside0.mk H
  clear H
  go_enter Try.func15, Try.ntmps15
  go_wp2_with (first | ((with_reducible refine gate_callee (f := 28) rfl ?_); refine goesL_ (some 11) rfl rfl Try.func28 (by kernel_rfl) rfl #[.string a0, .string (⟨#[10]⟩ : ByteArray)] rfl (by (try simp only [List.map_toArray, List.map_cons, List.map_nil]); first | done | rfl | (simp only [List.length_drop, List.length_take]; rfl)) ?_; (with_reducible refine (spec_kySplit.calls k a0 (⟨#[10]⟩ : ByteArray) t161 _ A2.out).mono ?_); rintro e w3 ⟨v162, rfl, ho0, hb⟩; refine ⟨_, rfl, ?_⟩; have n0_ := Aside0.mk (Kd.R_lower ho0 (below_size (by repeat (first | (with_reducible first | exact HB.out | apply below_alloc | apply pw_below_drewN | apply below_drew1) | exact HB.out)))); have n1_ := Aside0.mk (below_step (by repeat (first | (with_reducible first | exact HB.out | apply below_alloc | apply pw_below_drewN | apply below_drew1) | exact HB.out)) hb); clear HB; have HO163 := n0_; have HB := n1_; clear n0_ n1_; (try clear hb); (try clear hb2); (try clear hk); (try clear hi); (try clear ho0); obtain ⟨Ao4, co4, eo4⟩ := Kd.R_slice HO163.out; subst eo4))
  go_loopg [14] k (fun kq v14 w' => ∃ (x14_1 : Int), v14 = .int .i64 x14_1 ∧ Aside0 (spec_KySeqStyle.l0 kq t161 t161 (t161.length : Int) x14_1 = some r) ∧ Aside0 (kq ≤ k) ∧ Aside0 (Kd.R Kd.string 9 w' w.heap.size (fun _ => True) (.slice Ao4 t161.length co4) t161) ∧ Aside0 (Kd.R Kd.string 9 w' w.heap.size (fun _ => True) (.slice Ao4 t161.length co4) t161) ∧ Aside0 (Below w.heap.size w w'))
  case atStart => exact ⟨(0), (by first | rfl | (simp; done) | (simp [*]; done) | (simp; exact (fun (l : List UInt8) => (by cases l <;> simp : l.isEmpty = !(l != []))) _)), H', ⟨Nat.le_refl _⟩, ⟨by (with_reducible repeat (first | apply Kd.R_alloc | apply Kd.R_drewN | apply Kd.R_drew)); exact HO163.out⟩, ⟨by (with_reducible repeat (first | apply Kd.R_alloc | apply Kd.R_drewN | apply Kd.R_drew)); exact HO163.out⟩, ⟨by repeat (first | (with_reducible first | exact HB.out | apply below_alloc | apply pw_below_drewN | apply below_drew1) | exact HB.out)⟩⟩
  case round =>
    clear H'
    try clear c1
    try clear c2
    try clear p2
    obtain ⟨x14_1, rfl, HA, HK1, HO_3, HO_12, HB⟩ := hrel
    cases gk with
    | zero => exact absurd HA.out (by simp [spec_KySeqStyle.l0])
    | succ k1 =>
      have H := HA.out
      clear HA
      simp only [spec_KySeqStyle.l0] at H
      by_cases c5 : x14_1 < (t161.length : Int)
      · rw [if_pos c5] at H
        have c5b0 : decide (x14_1 < (t161.length : Int)) = true := decide_eq_true c5
        clear c5
        by_cases c6 : 0 ≤ x14_1
        · rw [if_pos c6] at H
          have c6b0 : decide (0 ≤ x14_1) = true := decide_eq_true c6
          clear c6
          by_cases c7 : x14_1 < (t161.length : Int)
          · rw [if_pos c7] at H
            have c7b0 : decide (x14_1 < (t161.length : Int)) = true := decide_eq_true c7
            clear c7
            replace H := Option.bind_eq_some_iff.mp H
            obtain ⟨t165, A80, H⟩ := H
            replace H : (if t165 < 0 then (spec_KySeqStyle.j1 k1 t161 x14_1 t165 t161 (t161.length : Int) x14_1 true) else (if 0 ≤ t165 then (if t165 ≤ ((rdOf ByteArray.empty t161 x14_1).size : Int) then ((spec_kyTrim.f k1 ((rdOf ByteArray.empty t161 x14_1).extract 0 (t165 : Int).toNat)).bind fun t166 => (spec_KySeqStyle.j1 k1 t161 x14_1 t165 t161 (t161.length : Int) x14_1 (t166.toList != ([] : List UInt8)))) else (none)) else (none))) = some r := H
            have A8 := Aside0.mk A80
            clear A80
            have HC9 := Aside0.mk H
            clear H
            have p164 : 0 ≤ (x14_1 : Int) := of_decide_eq_true (by first | (with_reducible assumption) | assumption)
            have q164 : x14_1 < (t161.length : Int) := of_decide_eq_true (by first | (with_reducible assumption) | assumption)
            obtain ⟨ad164, e164, hx164_0⟩ := Kd.at_string (Kd.R_reads' HO_12.out).2.2 x14_1 p164 q164
            cases e164
            replace p164 := eq_true p164
            replace q164 := eq_true q164
            go_upto_region 6 with (first | ((with_reducible refine gate_callee (f := 29) rfl ?_); refine goesL_ (some 20) rfl rfl Try.func29 (by kernel_rfl) rfl #[.string (rdOf ByteArray.empty t161 x14_1), .string (⟨#[45, 32]⟩ : ByteArray)] rfl (by (try simp only [List.map_toArray, List.map_cons, List.map_nil]); first | done | rfl | (simp only [List.length_drop, List.length_take]; rfl)) ?_; (with_reducible refine (spec_kyIndex.calls k1 (rdOf ByteArray.empty t161 x14_1) (⟨#[45, 32]⟩ : ByteArray) t165 _ A8.out).mono ?_); rintro e w' ⟨rfl, ⟨nd, rfl⟩⟩; refine ⟨_, rfl, ?_⟩))
            (try simp only [Act.put, List.setIfInBounds_toArray, List.set_cons_zero, List.set_cons_succ])
            go_cut [29] (fun v29 wc => ∃ (kq : Nat) (x29_8 : Bool), v29 = .bool x29_8 ∧ Aside0 (spec_KySeqStyle.j1 kq t161 x14_1 t165 t161 (t161.length : Int) x14_1 x29_8 = some r) ∧ Aside0 (kq ≤ k1) ∧ Aside0 (Kd.R Kd.string 9 wc w.heap.size (fun _ => True) (.slice (some ad164) t161.length co4) t161) ∧ Aside0 (Kd.R Kd.string 9 wc w.heap.size (fun _ => True) (.slice (some ad164) t161.length co4) t161) ∧ Aside0 (Below w.heap.size w wc))
            case first =>
              have H := HC9.out
              clear HC9
              by_cases c10 : t165 < 0
              · rw [if_pos c10] at H
                have c10b0 : decide (t165 < 0) = true := decide_eq_true c10
                clear c10
                (first | rw [c10b0] | (simp only [i64_w, i32_w]; rw [c10b0]) | rw [c10b3] | skip)
                have H' := Aside0.mk H
                clear H
                go_wp2
                go_meet
                case rel => exact ⟨_, (true), (by first | rfl | (simp; done) | (simp [*]; done) | (simp; exact (fun (l : List UInt8) => (by cases l <;> simp : l.isEmpty = !(l != []))) _)), H', ⟨by have := HK1.out; first | omega | exact Nat.le_refl _⟩, ⟨by (with_reducible repeat (first | apply Kd.R_alloc | apply Kd.R_drewN | apply Kd.R_drew)); exact HO_3.out⟩, ⟨by (with_reducible repeat (first | apply Kd.R_alloc | apply Kd.R_drewN | apply Kd.R_drew)); exact HO_12.out⟩, ⟨by repeat (first | (with_reducible first | exact HB.out | apply below_alloc | apply pw_below_drewN | apply below_drew1) | exact HB.out)⟩⟩
              · rw [if_neg c10] at H
                have c10b0 : decide (t165 < 0) = false := decide_eq_false c10
                clear c10
                (first | rw [c10b0] | (simp only [i64_w, i32_w]; rw [c10b0]) | rw [c10b3] | skip)
                by_cases c11 : 0 ≤ t165
                · rw [if_pos c11] at H
                  have c11b0 := eq_true c11
                  have c11b1 : decide (0 ≤ t165) = true := decide_eq_true c11
                  clear c11
                  by_cases c12 : t165 ≤ ((rdOf ByteArray.empty t161 x14_1).size : Int)
                  · rw [if_pos c12] at H
                    have c12b0 := eq_true c12
                    have c12b1 : decide (t165 ≤ ((rdOf ByteArray.empty t161 x14_1).size : Int)) = true := decide_eq_true c12
                    clear c12
                    replace H := Option.bind_eq_some_iff.mp H
                    obtain ⟨t166, A130, H⟩ := H
                    replace H : (spec_KySeqStyle.j1 k1 t161 x14_1 t165 t161 (t161.length : Int) x14_1 (t166.toList != ([] : List UInt8))) = some r := H
                    have A13 := Aside0.mk A130
                    clear A130
                    have H' := Aside0.mk H
                    clear H
                    go_wp2_with (first | (go_at_call 30; (with_reducible refine (spec_kyTrim.calls k1 ((rdOf ByteArray.empty t161 x14_1).extract 0 (t165 : Int).toNat) t166 _ A13.out).mono ?_); rintro e w' ⟨rfl, ⟨nd, rfl⟩⟩))
                    go_meet
                    case rel => exact ⟨_, ((t166.toList != ([] : List UInt8))), (by first | rfl | (simp; done) | (simp [*]; done) | (simp; exact (fun (l : List UInt8) => (by cases l <;> simp : l.isEmpty = !(l != []))) _)), H', ⟨by have := HK1.out; first | omega | exact Nat.le_refl _⟩, ⟨by (with_reducible repeat (first | apply Kd.R_alloc | apply Kd.R_drewN | apply Kd.R_drew)); exact HO_3.out⟩, ⟨by (with_reducible repeat (first | apply Kd.R_alloc | apply Kd.R_drewN | apply Kd.R_drew)); exact HO_12.out⟩, ⟨by repeat (first | (with_reducible first | exact HB.out | apply below_alloc | apply pw_below_drewN | apply below_drew1) | exact HB.out)⟩⟩
                  · rw [if_neg c12] at H
                    exact absurd H (by simp)
                · rw [if_neg c11] at H
                  exact absurd H (by simp)
            case rest =>
              clear HC9
              try clear c1
              try clear p1
              try clear q1
              try clear hx1
              try clear c2
              try clear p2
              try clear c5
              try clear c5b0
              try clear c6
              try clear c6b0
              try clear c7
              try clear c7b0
              try clear c10
              try clear c10b0
              try clear c11
              try clear c11b0
              try clear c11b1
              try clear c12
              try clear c12b0
              try clear c12b1
              try clear hx164_0
              try clear p164
              try clear p2
              try clear q164
              obtain ⟨kq, x29_8, rfl, HA, HJ8, HO_3, HO_12, HB⟩ := hcut
              cases kq with
              | zero => exact absurd HA.out (by simp [spec_KySeqStyle.j1])
              | succ kj8 =>
                have H := HA.out
                clear HA
                simp only [spec_KySeqStyle.j1] at H
                by_cases c14 : x29_8 = true
                · subst c14
                  have H1 : (spec_KySeqStyle.l0 kj8 t161 t161 (t161.length : Int) (wrap64 (x14_1 + 1))) = some r := by rw [if_pos rfl] at H; exact H
                  clear H
                  have H := H1
                  clear H1
                  have H' := Aside0.mk H
                  clear H
                  go_wp2
                  go_roundg kj8
                  case measure => have := HK1.out; have := HJ8.out; omega
                  case rel => exact ⟨(wrap64 (x14_1 + 1)), (by first | rfl | (simp; done) | (simp [*]; done) | (simp; exact (fun (l : List UInt8) => (by cases l <;> simp : l.isEmpty = !(l != []))) _)), H', ⟨by have := HK1.out; have := HJ8.out; omega⟩, ⟨by (with_reducible repeat (first | apply Kd.R_alloc | apply Kd.R_drewN | apply Kd.R_drew)); exact HO_3.out⟩, ⟨by (with_reducible repeat (first | apply Kd.R_alloc | apply Kd.R_drewN | apply Kd.R_drew)); exact HO_12.out⟩, ⟨by repeat (first | (with_reducible first | exact HB.out | apply below_alloc | apply pw_below_drewN | apply below_drew1) | exact HB.out)⟩⟩
                · replace c14 := Bool.eq_false_iff.mpr c14
                  subst c14
                  have H1 : ((spec_KyKeyLine.f kj8 t161 x14_1).bind fun t167 => ((spec_kyTrim.f kj8 t167).bind fun t168 => (if t168.toList = ([] : List UInt8) then (spec_KySeqStyle.j2 kj8 t161 t165 t167 t161 (t161.length : Int) x14_1 true) else ((spec_kyIndex.f kj8 t168 (⟨#[58]⟩ : ByteArray)).bind fun t169 => (spec_KySeqStyle.j2 kj8 t161 t165 t167 t161 (t161.length : Int) x14_1 (t169 != (wrap64 ((t168.size : Int) - 1)))))))) = some r := by rw [if_neg (show ¬ (false = true) by decide)] at H; exact H
                  clear H
                  have H := H1
                  clear H1
                  replace H := Option.bind_eq_some_iff.mp H
                  obtain ⟨t167, A150, H⟩ := H
                  replace H : ((spec_kyTrim.f kj8 t167).bind fun t168 => (if t168.toList = ([] : List UInt8) then (spec_KySeqStyle.j2 kj8 t161 t165 t167 t161 (t161.length : Int) x14_1 true) else ((spec_kyIndex.f kj8 t168 (⟨#[58]⟩ : ByteArray)).bind fun t169 => (spec_KySeqStyle.j2 kj8 t161 t165 t167 t161 (t161.length : Int) x14_1 (t169 != (wrap64 ((t168.size : Int) - 1))))))) = some r := H
                  have A15 := Aside0.mk A150
                  clear A150
                  replace H := Option.bind_eq_some_iff.mp H
                  obtain ⟨t168, A160, H⟩ := H
                  replace H : (if t168.toList = ([] : List UInt8) then (spec_KySeqStyle.j2 kj8 t161 t165 t167 t161 (t161.length : Int) x14_1 true) else ((spec_kyIndex.f kj8 t168 (⟨#[58]⟩ : ByteArray)).bind fun t169 => (spec_KySeqStyle.j2 kj8 t161 t165 t167 t161 (t161.length : Int) x14_1 (t169 != (wrap64 ((t168.size : Int) - 1)))))) = some r := H
                  have A16 := Aside0.mk A160
                  clear A160
                  have HC17 := Aside0.mk H
                  clear H
                  go_upto_region 9 with (first | ((with_reducible refine gate_callee (f := 31) rfl ?_); refine goesL_ (some 32) rfl rfl Try.func31 (by kernel_rfl) rfl #[.slice (some ad164) t161.length co4, .int .i64 x14_1] rfl (by (try simp only [List.map_toArray, List.map_cons, List.map_nil]); first | done | rfl | (simp only [List.length_drop, List.length_take]; rfl)) ?_; (with_reducible refine (spec_KyKeyLine.calls kj8 _ _ t161 x14_1 t167 _ ?side1 ?side2 A15.out).mono ?_); (case side1 => repeat (first | exact (Kd.R_reads' HO_3.out).2.2 | (with_reducible refine Kd.C_alloc ?_ _) | (with_reducible refine Kd.C_drewN ?_ _) | (with_reducible refine Kd.C_drew ?_))); (case side2 => exact (Kd.R_reads' HO_3.out).2.1); rintro e w18 ⟨rfl, hb⟩; refine ⟨_, rfl, ?_⟩; have n0_ := Aside0.mk (Kd.R_below (by (with_reducible repeat (first | apply Kd.R_alloc | apply Kd.R_drewN | apply Kd.R_drew)); exact HO_3.out) hb); have n1_ := Aside0.mk (Kd.R_below (by (with_reducible repeat (first | apply Kd.R_alloc | apply Kd.R_drewN | apply Kd.R_drew)); exact HO_12.out) hb); have n2_ := Aside0.mk (below_step (by repeat (first | (with_reducible first | exact HB.out | apply below_alloc | apply pw_below_drewN | apply below_drew1) | exact HB.out)) hb); clear HO_3; clear HO_12; clear HB; have HO_3 := n0_; have HO_12 := n1_; have HB := n2_; clear n0_ n1_ n2_; (try clear hb); (try clear hb2); (try clear hk); (try clear hi)) | ((with_reducible refine gate_callee (f := 30) rfl ?_); refine goesL_ (some 34) rfl rfl Try.func30 (by kernel_rfl) rfl #[.string t167] rfl (by (try simp only [List.map_toArray, List.map_cons, List.map_nil]); first | done | rfl | (simp only [List.length_drop, List.length_take]; rfl)) ?_; (with_reducible refine (spec_kyTrim.calls kj8 t167 t168 _ A16.out).mono ?_); rintro e w' ⟨rfl, ⟨nd, rfl⟩⟩; refine ⟨_, rfl, ?_⟩))
                  (try simp only [Act.put, List.setIfInBounds_toArray, List.set_cons_zero, List.set_cons_succ])
                  go_cut [44] (fun v44 wc => ∃ (kq : Nat) (x44_16 : Bool), v44 = .bool x44_16 ∧ Aside0 (spec_KySeqStyle.j2 kq t161 t165 t167 t161 (t161.length : Int) x14_1 x44_16 = some r) ∧ Aside0 (kq ≤ kj8) ∧ Aside0 (Kd.R Kd.string 9 wc w.heap.size (fun _ => True) (.slice (some ad164) t161.length co4) t161) ∧ Aside0 (Kd.R Kd.string 9 wc w.heap.size (fun _ => True) (.slice (some ad164) t161.length co4) t161) ∧ Aside0 (Below w.heap.size w wc))
                  case first =>
                    have H := HC17.out
                    clear HC17
                    by_cases c19 : t168.toList = ([] : List UInt8)
                    · rw [if_pos c19] at H
                      have c19b0 : (t168.toList == ([] : List UInt8)) = true := beq_iff_eq.mpr c19
                      have c19b1 : (t168.toList != ([] : List UInt8)) = false := bne_eq_false_iff_eq.mpr c19
                      (try (have c19b2 : t168.toList.isEmpty = true := by simpa using c19))
                      (try (have c19b3 : (!t168.toList.isEmpty) = false := by simpa using c19))
                      clear c19
                      (first | rw [c19b0] | (simp only [i64_w, i32_w]; rw [c19b0]) | rw [c19b3] | skip)
                      have H' := Aside0.mk H
                      clear H
                      go_wp2
                      go_meet
                      case rel => exact ⟨_, (true), (by first | rfl | (simp; done) | (simp [*]; done) | (simp; exact (fun (l : List UInt8) => (by cases l <;> simp : l.isEmpty = !(l != []))) _)), H', ⟨by have := HK1.out; have := HJ8.out; first | omega | exact Nat.le_refl _⟩, ⟨by (with_reducible repeat (first | apply Kd.R_alloc | apply Kd.R_drewN | apply Kd.R_drew)); exact HO_3.out⟩, ⟨by (with_reducible repeat (first | apply Kd.R_alloc | apply Kd.R_drewN | apply Kd.R_drew)); exact HO_12.out⟩, ⟨by repeat (first | (with_reducible first | exact HB.out | apply below_alloc | apply pw_below_drewN | apply below_drew1) | exact HB.out)⟩⟩
                    · rw [if_neg c19] at H
                      have c19b0 : (t168.toList == ([] : List UInt8)) = false := beq_eq_false_iff_ne.mpr c19
                      have c19b1 : (t168.toList != ([] : List UInt8)) = true := bne_iff_ne.mpr c19
                      (try (have c19b2 : t168.toList.isEmpty = false := by simpa using c19))
                      (try (have c19b3 : (!t168.toList.isEmpty) = true := by simpa using c19))
                      (first | rw [c19b0] | (simp only [i64_w, i32_w]; rw [c19b0]) | rw [c19b3] | skip)
                      replace H := Option.bind_eq_some_iff.mp H
                      obtain ⟨t169, A200, H⟩ := H
                      replace H : (spec_KySeqStyle.j2 kj8 t161 t165 t167 t161 (t161.length : Int) x14_1 (t169 != (wrap64 ((t168.size : Int) - 1)))) = some r := H
                      have A20 := Aside0.mk A200
                      clear A200
                      have H' := Aside0.mk H
                      clear H
                      go_wp2_with (first | (go_at_call 29; (with_reducible refine (spec_kyIndex.calls kj8 t168 (⟨#[58]⟩ : ByteArray) t169 _ A20.out).mono ?_); rintro e w' ⟨rfl, ⟨nd, rfl⟩⟩))
                      go_meet
                      case rel => exact ⟨_, ((t169 != (wrap64 ((t168.size : Int) - 1)))), (by first | rfl | (simp; done) | (simp [*]; done) | (simp; exact (fun (l : List UInt8) => (by cases l <;> simp : l.isEmpty = !(l != []))) _)), H', ⟨by have := HK1.out; have := HJ8.out; first | omega | exact Nat.le_refl _⟩, ⟨by (with_reducible repeat (first | apply Kd.R_alloc | apply Kd.R_drewN | apply Kd.R_drew)); exact HO_3.out⟩, ⟨by (with_reducible repeat (first | apply Kd.R_alloc | apply Kd.R_drewN | apply Kd.R_drew)); exact HO_12.out⟩, ⟨by repeat (first | (with_reducible first | exact HB.out | apply below_alloc | apply pw_below_drewN | apply below_drew1) | exact HB.out)⟩⟩
                  case rest =>
                    clear HC17
                    try clear c1
                    try clear p1
                    try clear q1
                    try clear hx1
                    try clear c2
                    try clear p2
                    try clear c3
                    try clear c5
                    try clear c5b0
                    try clear c6
                    try clear c6b0
                    try clear p6
                    try clear c7
                    try clear c7b0
                    try clear c10
                    try clear c10b0
                    try clear c11
                    try clear c11b0
                    try clear c11b1
                    try clear c12
                    try clear c12b0
                    try clear c12b1
                    try clear c14
                    try clear c15
                    try clear p16
                    try clear q16
                    try clear hx16
                    try clear c19
                    try clear c19b0
                    try clear c19b1
                    try clear c19b2
                    try clear hx164_0
                    try clear p1
                    try clear p164
                    try clear p2
                    try clear q1
                    try clear q164
                    obtain ⟨kq, x44_16, rfl, HA, HJ16, HO_3, HO_12, HB⟩ := hcut
                    cases kq with
                    | zero => exact absurd HA.out (by simp [spec_KySeqStyle.j2])
                    | succ kj16 =>
                      have H := HA.out
                      clear HA
                      simp only [spec_KySeqStyle.j2] at H
                      by_cases c21 : x44_16 = true
                      · subst c21
                        have H1 : (spec_KySeqStyle.l0 kj16 t161 t161 (t161.length : Int) (wrap64 (x14_1 + 1))) = some r := by rw [if_pos rfl] at H; exact H
                        clear H
                        have H := H1
                        clear H1
                        have H' := Aside0.mk H
                        clear H
                        go_wp2
                        go_roundg kj16
                        case measure => have := HK1.out; have := HJ8.out; have := HJ16.out; omega
                        case rel => exact ⟨(wrap64 (x14_1 + 1)), (by first | rfl | (simp; done) | (simp [*]; done) | (simp; exact (fun (l : List UInt8) => (by cases l <;> simp : l.isEmpty = !(l != []))) _)), H', ⟨by have := HK1.out; have := HJ8.out; have := HJ16.out; omega⟩, ⟨by (with_reducible repeat (first | apply Kd.R_alloc | apply Kd.R_drewN | apply Kd.R_drew)); exact HO_3.out⟩, ⟨by (with_reducible repeat (first | apply Kd.R_alloc | apply Kd.R_drewN | apply Kd.R_drew)); exact HO_12.out⟩, ⟨by repeat (first | (with_reducible first | exact HB.out | apply below_alloc | apply pw_below_drewN | apply below_drew1) | exact HB.out)⟩⟩
                      · replace c21 := Bool.eq_false_iff.mpr c21
                        subst c21
                        have H1 : (spec_KySeqStyle.l1 kj16 t161 t165 t167 0 t161 (t161.length : Int) x14_1) = some r := by rw [if_neg (show ¬ (false = true) by decide)] at H; exact H
                        clear H
                        have H := H1
                        clear H1
                        have H' := Aside0.mk H
                        clear H
                        go_wp2
                        go_loopg [9] kj16 (fun kq v9 w' => ∃ (x9_4 : Int), v9 = .int .i64 x9_4 ∧ Aside0 (spec_KySeqStyle.l1 kq t161 t165 t167 x9_4 t161 (t161.length : Int) x14_1 = some r) ∧ Aside0 (kq ≤ kj16) ∧ Aside0 (Kd.R Kd.string 9 w' w.heap.size (fun _ => True) (.slice (some ad164) t161.length co4) t161) ∧ Aside0 (Kd.R Kd.string 9 w' w.heap.size (fun _ => True) (.slice (some ad164) t161.length co4) t161) ∧ Aside0 (Below w.heap.size w w'))
                        case atStart => exact ⟨(0), (by first | rfl | (simp; done) | (simp [*]; done) | (simp; exact (fun (l : List UInt8) => (by cases l <;> simp : l.isEmpty = !(l != []))) _)), H', ⟨Nat.le_refl _⟩, ⟨by (with_reducible repeat (first | apply Kd.R_alloc | apply Kd.R_drewN | apply Kd.R_drew)); exact HO_3.out⟩, ⟨by (with_reducible repeat (first | apply Kd.R_alloc | apply Kd.R_drewN | apply Kd.R_drew)); exact HO_12.out⟩, ⟨by repeat (first | (with_reducible first | exact HB.out | apply below_alloc | apply pw_below_drewN | apply below_drew1) | exact HB.out)⟩⟩
                        case round =>
                          clear H'
                          try clear c1
                          try clear p1
                          try clear q1
                          try clear hx1
                          try clear c2
                          try clear p2
                          try clear c3
                          try clear c5
                          try clear c5b0
                          try clear c6
                          try clear c6b0
                          try clear p6
                          try clear c7
                          try clear c7b0
                          try clear c10
                          try clear c10b0
                          try clear c11
                          try clear c11b0
                          try clear c11b1
                          try clear c12
                          try clear c12b0
                          try clear c12b1
                          try clear c14
                          try clear c15
                          try clear p16
                          try clear q16
                          try clear hx16
                          try clear c19
                          try clear c19b0
                          try clear c19b1
                          try clear c19b2
                          try clear c21
                          try clear hx164_0
                          try clear p1
                          try clear p16
                          try clear p164
                          try clear p2
                          try clear p6
                          try clear q1
                          try clear q16
                          try clear q164
                          obtain ⟨x9_4, rfl, HA, HK4, HO_3, HO_12, HB⟩ := hrel
                          cases gk with
                          | zero => exact absurd HA.out (by simp [spec_KySeqStyle.l1])
                          | succ k4 =>
                            have H := HA.out
                            clear HA
                            simp only [spec_KySeqStyle.l1] at H
                            by_cases c22 : 0 ≤ x9_4
                            · rw [if_pos c22] at H
                              have c22b0 : decide (0 ≤ x9_4) = true := decide_eq_true c22
                              clear c22
                              by_cases c23 : x9_4 < (t167.size : Int)
                              · rw [if_pos c23] at H
                                have c23b0 : decide (x9_4 < (t167.size : Int)) = true := decide_eq_true c23
                                clear c23
                                by_cases c25 : (bt t167 x9_4) = 32
                                · rw [if_pos c25] at H
                                  have c25b0 : ((bt t167 x9_4) == 32) = true := beq_iff_eq.mpr c25
                                  have c25b1 : ((bt t167 x9_4) != 32) = false := bne_eq_false_iff_eq.mpr c25
                                  clear c25
                                  have H' := Aside0.mk H
                                  clear H
                                  have p24 : 0 ≤ (x9_4 : Int) := of_decide_eq_true (by first | (with_reducible assumption) | assumption)
                                  have q24 : x9_4 < (t167.size : Int) := of_decide_eq_true (by first | (with_reducible assumption) | assumption)
                                  have hx24 := bt_at t167 x9_4
                                  replace p24 := eq_true p24
                                  replace q24 := eq_true q24
                                  go_wp2
                                  go_roundg k4
                                  case measure => have := HK1.out; have := HJ8.out; have := HJ16.out; have := HK4.out; omega
                                  case rel => exact ⟨(wrap64 (x9_4 + 1)), (by first | rfl | (simp; done) | (simp [*]; done) | (simp; exact (fun (l : List UInt8) => (by cases l <;> simp : l.isEmpty = !(l != []))) _)), H', ⟨by have := HK1.out; have := HJ8.out; have := HJ16.out; have := HK4.out; omega⟩, ⟨by (with_reducible repeat (first | apply Kd.R_alloc | apply Kd.R_drewN | apply Kd.R_drew)); exact HO_3.out⟩, ⟨by (with_reducible repeat (first | apply Kd.R_alloc | apply Kd.R_drewN | apply Kd.R_drew)); exact HO_12.out⟩, ⟨by repeat (first | (with_reducible first | exact HB.out | apply below_alloc | apply pw_below_drewN | apply below_drew1) | exact HB.out)⟩⟩
                                · rw [if_neg c25] at H
                                  have c25b0 : ((bt t167 x9_4) == 32) = false := beq_eq_false_iff_ne.mpr c25
                                  have c25b1 : ((bt t167 x9_4) != 32) = true := bne_iff_ne.mpr c25
                                  by_cases c26 : (wrap64 (t165 - x9_4)) = 0
                                  · rw [if_pos c26] at H
                                    have c26b0 : ((wrap64 (t165 - x9_4)) == 0) = true := beq_iff_eq.mpr c26
                                    have c26b1 : ((wrap64 (t165 - x9_4)) != 0) = false := bne_eq_false_iff_eq.mpr c26
                                    clear c26
                                    obtain rfl := Option.some.inj H
                                    have p24 : 0 ≤ (x9_4 : Int) := of_decide_eq_true (by first | (with_reducible assumption) | assumption)
                                    have q24 : x9_4 < (t167.size : Int) := of_decide_eq_true (by first | (with_reducible assumption) | assumption)
                                    have hx24 := bt_at t167 x9_4
                                    replace p24 := eq_true p24
                                    replace q24 := eq_true q24
                                    go_wp2
                                    go_ret
                                    exact ⟨by first | rfl | (simp [errW_none, errW_some] <;> rfl) | (simp [*, errW_none, errW_some] <;> rfl), by repeat (first | (with_reducible first | exact HB.out | apply below_alloc | apply pw_below_drewN | apply below_drew1) | exact HB.out)⟩
                                  · rw [if_neg c26] at H
                                    have c26b0 : ((wrap64 (t165 - x9_4)) == 0) = false := beq_eq_false_iff_ne.mpr c26
                                    have c26b1 : ((wrap64 (t165 - x9_4)) != 0) = true := bne_iff_ne.mpr c26
                                    by_cases c27 : (wrap64 (t165 - x9_4)) = 2
                                    · rw [if_pos c27] at H
                                      have c27b0 : ((wrap64 (t165 - x9_4)) == 2) = true := beq_iff_eq.mpr c27
                                      have c27b1 : ((wrap64 (t165 - x9_4)) != 2) = false := bne_eq_false_iff_eq.mpr c27
                                      clear c27
                                      obtain rfl := Option.some.inj H
                                      have p24 : 0 ≤ (x9_4 : Int) := of_decide_eq_true (by first | (with_reducible assumption) | assumption)
                                      have q24 : x9_4 < (t167.size : Int) := of_decide_eq_true (by first | (with_reducible assumption) | assumption)
                                      have hx24 := bt_at t167 x9_4
                                      replace p24 := eq_true p24
                                      replace q24 := eq_true q24
                                      go_wp2
                                      go_ret
                                      exact ⟨by first | rfl | (simp [errW_none, errW_some] <;> rfl) | (simp [*, errW_none, errW_some] <;> rfl), by repeat (first | (with_reducible first | exact HB.out | apply below_alloc | apply pw_below_drewN | apply below_drew1) | exact HB.out)⟩
                                    · rw [if_neg c27] at H
                                      have c27b0 : ((wrap64 (t165 - x9_4)) == 2) = false := beq_eq_false_iff_ne.mpr c27
                                      have c27b1 : ((wrap64 (t165 - x9_4)) != 2) = true := bne_iff_ne.mpr c27
                                      have H' := Aside0.mk H
                                      clear H
                                      have p24 : 0 ≤ (x9_4 : Int) := of_decide_eq_true (by first | (with_reducible assumption) | assumption)
                                      have q24 : x9_4 < (t167.size : Int) := of_decide_eq_true (by first | (with_reducible assumption) | assumption)
                                      have hx24 := bt_at t167 x9_4
                                      replace p24 := eq_true p24
                                      replace q24 := eq_true q24
                                      go_wp2
                                      go_roundg k4
                                      case measure => have := HK1.out; have := HJ8.out; have := HJ16.out; have := HK4.out; omega
                                      case rel => exact ⟨(wrap64 (x14_1 + 1)), (by first | rfl | (simp; done) | (simp [*]; done) | (simp; exact (fun (l : List UInt8) => (by cases l <;> simp : l.isEmpty = !(l != []))) _)), H', ⟨by have := HK1.out; have := HJ8.out; have := HJ16.out; have := HK4.out; omega⟩, ⟨by (with_reducible repeat (first | apply Kd.R_alloc | apply Kd.R_drewN | apply Kd.R_drew)); exact HO_3.out⟩, ⟨by (with_reducible repeat (first | apply Kd.R_alloc | apply Kd.R_drewN | apply Kd.R_drew)); exact HO_12.out⟩, ⟨by repeat (first | (with_reducible first | exact HB.out | apply below_alloc | apply pw_below_drewN | apply below_drew1) | exact HB.out)⟩⟩
                              · rw [if_neg c23] at H
                                exact absurd H (by simp)
                            · rw [if_neg c22] at H
                              exact absurd H (by simp)
          · rw [if_neg c7] at H
            exact absurd H (by simp)
        · rw [if_neg c6] at H
          exact absurd H (by simp)
      · rw [if_neg c5] at H
        have c5b0 : decide (x14_1 < (t161.length : Int)) = false := decide_eq_false c5
        clear c5
        obtain rfl := Option.some.inj H
        go_wp2
        go_ret
        exact ⟨by first | rfl | (simp [errW_none, errW_some] <;> rfl) | (simp [*, errW_none, errW_some] <;> rfl), by repeat (first | (with_reducible first | exact HB.out | apply below_alloc | apply pw_below_drewN | apply below_drew1) | exact HB.out)⟩

/-! ### laws_FnSeqIndentStyle: function 5 -/
def laws_FnSeqIndentStyle.f (k : Nat) (a0 : ByteArray) : Option (Bool) := if (a0.size : Int) > 2147483647 then (some true) else (if 0 ≤ (mn (a0.size : Int) 400) then (if (mn (a0.size : Int) 400) ≤ (a0.size : Int) then ((impl_SeqIndentStyle.f k (a0.extract 0 ((mn (a0.size : Int) 400) : Int).toNat)).bind fun t170 => ((spec_KySeqStyle.f k (a0.extract 0 ((mn (a0.size : Int) 400) : Int).toNat)).bind fun t171 => (if t170.toList = t171.toList then ((impl_SeqIndentStyle.f k (⟨#[97, 58, 10, 32, 32, 45, 32, 98, 10]⟩ : ByteArray)).bind fun t172 => (some (t172.toList == ([119, 105, 100, 101] : List UInt8)))) else (some false)))) else (none)) else (none))
theorem laws_FnSeqIndentStyle.mono : ∀ a0 k, LeO (laws_FnSeqIndentStyle.f k a0) (laws_FnSeqIndentStyle.f (k + 1) a0) := by
  intro a0 k
  unfold laws_FnSeqIndentStyle.f
  repeat' first
      | (with_reducible exact impl_SeqIndentStyle.mono _ _)
      | (with_reducible exact spec_KySeqStyle.mono _ _)
      | (with_reducible exact LeO.refl _)
      | (with_reducible exact LeO.none _)
      | (with_reducible refine LeO.ite ?_ ?_)
      | (with_reducible refine LeO.bind ?_ (fun _ => ?_))
      | exact impl_SeqIndentStyle.mono _ _
      | exact spec_KySeqStyle.mono _ _
      | exact LeO.none _
      | refine LeO.ite ?_ ?_
      | refine LeO.bind ?_ (fun _ => ?_)
set_option maxHeartbeats 8000000 in
set_option maxRecDepth 100000 in
theorem laws_FnSeqIndentStyle.calls (k : Nat) (a0 : ByteArray) (r : Bool) (w : World) (h : laws_FnSeqIndentStyle.f k a0 = some r) :
    Calls Try.prog 5 #[.string a0] w fun e w' => e = .returned (.bool r) ∧ Below w.heap.size w w' := by
  have HB := Aside0.mk (Below.refl w.heap.size w)
  have H : (if (a0.size : Int) > 2147483647 then (some true) else (if 0 ≤ (mn (a0.size : Int) 400) then (if (mn (a0.size : Int) 400) ≤ (a0.size : Int) then ((impl_SeqIndentStyle.f k (a0.extract 0 ((mn (a0.size : Int) 400) : Int).toNat)).bind fun t170 => ((spec_KySeqStyle.f k (a0.extract 0 ((mn (a0.size : Int) 400) : Int).toNat)).bind fun t171 => (if t170.toList = t171.toList then ((impl_SeqIndentStyle.f k (⟨#[97, 58, 10, 32, 32, 45, 32, 98, 10]⟩ : ByteArray)).bind fun t172 => (some (t172.toList == ([119, 105, 100, 101] : List UInt8)))) else (some false)))) else (none)) else (none))) = some r := h
  clear h
  by_cases c2 : (a0.size : Int) > 2147483647
  · rw [if_pos c2] at H
    have c2b0 : decide (2147483647 < (a0.size : Int)) = true := decide_eq_true c2
    have c2b1 : decide (2147483647 < a0.size) = true := decide_eq_true (by omega)
    clear c2
    obtain rfl := Option.some.inj H
    go_enter Try.func5, Try.ntmps5
    go_wp2
    go_ret
    exact ⟨by first | rfl | (simp [errW_none, errW_some] <;> rfl) | (simp [*, errW_none, errW_some] <;> rfl), by repeat (first | (with_reducible first | exact HB.out | apply below_alloc | apply pw_below_drewN | apply below_drew1) | exact HB.out)⟩
  · rw [if_neg c2] at H
    have c2b0 : decide (2147483647 < (a0.size : Int)) = false := decide_eq_false c2
    have c2b1 : decide (2147483647 < a0.size) = false := decide_eq_false (by omega)
    clear c2
    obtain ⟨ji3, hji3⟩ : ∃ j_ : Int, (mn (a0.size : Int) 400) = j_ := ⟨_, rfl⟩
    replace H : (if 0 ≤ (ji3) then (if (ji3) ≤ (a0.size : Int) then ((impl_SeqIndentStyle.f k (a0.extract 0 ((ji3) : Int).toNat)).bind fun t170 => ((spec_KySeqStyle.f k (a0.extract 0 ((ji3) : Int).toNat)).bind fun t171 => (if t170.toList = t171.toList then ((impl_SeqIndentStyle.f k (⟨#[97, 58, 10, 32, 32, 45, 32, 98, 10]⟩ : ByteArray)).bind fun t172 => (some (t172.toList == ([119, 105, 100, 101] : List UInt8)))) else (some false)))) else (none)) else (none)) = some r := by first | (rw [hji3] at H; exact H) | (simp only [hji3] at H ⊢; exact H)
    (try (have hji3h : ji3 ≤ 400 := by (rw [← hji3]; unfold mn; (repeat' split) <;> omega)))
    (try (have hji3g : ji3 ≤ 64 := by omega))
    (try (have hji3l : 0 ≤ ji3 := by (rw [← hji3]; unfold mn; (repeat' split) <;> omega)))
    (try (have hji3m : 0 ≤ ji3 := by omega))
    have hji3_ : (if 400 < (a0.size : Int) then 400 else (a0.size : Int)) = ji3 := hji3
    by_cases c4 : 0 ≤ (ji3)
    · rw [if_pos c4] at H
      have c4b0 := eq_true c4
      have c4b1 : decide (0 ≤ (ji3)) = true := decide_eq_true c4
      clear c4
      by_cases c5 : (ji3) ≤ (a0.size : Int)
      · rw [if_pos c5] at H
        have c5b0 := eq_true c5
        have c5b1 : decide ((ji3) ≤ (a0.size : Int)) = true := decide_eq_true c5
        clear c5
        replace H := Option.bind_eq_some_iff.mp H
        obtain ⟨t170, A60, H⟩ := H
        replace H : ((spec_KySeqStyle.f k (a0.extract 0 ((ji3) : Int).toNat)).bind fun t171 => (if t170.toList = t171.toList then ((impl_SeqIndentStyle.f k (⟨#[97, 58, 10, 32, 32, 45, 32, 98, 10]⟩ : ByteArray)).bind fun t172 => (some (t172.toList == ([119, 105, 100, 101] : List UInt8)))) else (some false))) = some r := H
        have A6 := Aside0.mk A60
        clear A60
        replace H := Option.bind_eq_some_iff.mp H
        obtain ⟨t171, A70, H⟩ := H
        replace H : (if t170.toList = t171.toList then ((impl_SeqIndentStyle.f k (⟨#[97, 58, 10, 32, 32, 45, 32, 98, 10]⟩ : ByteArray)).bind fun t172 => (some (t172.toList == ([119, 105, 100, 101] : List UInt8)))) else (some false)) = some r := H
        have A7 := Aside0.mk A70
        clear A70
        by_cases c8 : t170.toList = t171.toList
        · rw [if_pos c8] at H
          have c8b0 : (t170.toList == t171.toList) = true := beq_iff_eq.mpr c8
          have c8b1 : (t170.toList != t171.toList) = false := bne_eq_false_iff_eq.mpr c8
          clear c8
          replace H := Option.bind_eq_some_iff.mp H
          obtain ⟨t172, A90, H⟩ := H
          replace H : (some (t172.toList == ([119, 105, 100, 101] : List UInt8))) = some r := H
          have A9 := Aside0.mk A90
          clear A90
          obtain rfl := Option.some.inj H
          go_enter Try.func5, Try.ntmps5
          go_wp2_with (first | ((with_reducible refine gate_callee (f := 14) rfl ?_); refine goesL_ (some 12) rfl rfl Try.func14 (by kernel_rfl) rfl #[.string (a0.extract 0 ((ji3) : Int).toNat)] rfl (by (try simp only [List.map_toArray, List.map_cons, List.map_nil]); first | done | (simp only [hji3]; rfl) | rfl | (simp only [List.length_drop, List.length_take]; rfl)) ?_; (with_reducible refine (impl_SeqIndentStyle.calls k (a0.extract 0 ((ji3) : Int).toNat) t170 _ A6.out).mono ?_); rintro e w10 ⟨rfl, hb⟩; refine ⟨_, rfl, ?_⟩; have n0_ := Aside0.mk (below_step (by repeat (first | (with_reducible first | exact HB.out | apply below_alloc | apply pw_below_drewN | apply below_drew1) | exact HB.out)) hb); clear HB; have HB := n0_; clear n0_; (try clear hb); (try clear hb2); (try clear hk); (try clear hi)) | ((with_reducible refine gate_callee (f := 15) rfl ?_); refine goesL_ (some 14) rfl rfl Try.func15 (by kernel_rfl) rfl #[.string (a0.extract 0 ((ji3) : Int).toNat)] rfl (by (try simp only [List.map_toArray, List.map_cons, List.map_nil]); first | done | (simp only [hji3]; rfl) | rfl | (simp only [List.length_drop, List.length_take]; rfl)) ?_; (with_reducible refine (spec_KySeqStyle.calls k (a0.extract 0 ((ji3) : Int).toNat) t171 _ A7.out).mono ?_); rintro e w11 ⟨rfl, hb⟩; refine ⟨_, rfl, ?_⟩; have n0_ := Aside0.mk (below_step (by repeat (first | (with_reducible first | exact HB.out | apply below_alloc | apply pw_below_drewN | apply below_drew1) | exact HB.out)) hb); clear HB; have HB := n0_; clear n0_; (try clear hb); (try clear hb2); (try clear hk); (try clear hi)) | (go_at_call 14; (with_reducible refine (impl_SeqIndentStyle.calls k (⟨#[97, 58, 10, 32, 32, 45, 32, 98, 10]⟩ : ByteArray) t172 _ A9.out).mono ?_); rintro e w12 ⟨rfl, hb⟩; have n0_ := Aside0.mk (below_step (by repeat (first | (with_reducible first | exact HB.out | apply below_alloc | apply pw_below_drewN | apply below_drew1) | exact HB.out)) hb); clear HB; have HB := n0_; clear n0_; (try clear hb); (try clear hb2); (try clear hk); (try clear hi)))
          go_ret
          exact ⟨by first | rfl | (simp [errW_none, errW_some] <;> rfl) | (simp only [← hji3]; first | rfl | (simp [errW_none, errW_some] <;> rfl)) | (simp [*, errW_none, errW_some] <;> rfl), by repeat (first | (with_reducible first | exact HB.out | apply below_alloc | apply pw_below_drewN | apply below_drew1) | exact HB.out)⟩
        · rw [if_neg c8] at H
          have c8b0 : (t170.toList == t171.toList) = false := beq_eq_false_iff_ne.mpr c8
          have c8b1 : (t170.toList != t171.toList) = true := bne_iff_ne.mpr c8
          obtain rfl := Option.some.inj H
          go_enter Try.func5, Try.ntmps5
          go_wp2_with (first | ((with_reducible refine gate_callee (f := 14) rfl ?_); refine goesL_ (some 12) rfl rfl Try.func14 (by kernel_rfl) rfl #[.string (a0.extract 0 ((ji3) : Int).toNat)] rfl (by (try simp only [List.map_toArray, List.map_cons, List.map_nil]); first | done | (simp only [hji3]; rfl) | rfl | (simp only [List.length_drop, List.length_take]; rfl)) ?_; (with_reducible refine (impl_SeqIndentStyle.calls k (a0.extract 0 ((ji3) : Int).toNat) t170 _ A6.out).mono ?_); rintro e w13 ⟨rfl, hb⟩; refine ⟨_, rfl, ?_⟩; have n0_ := Aside0.mk (below_step (by repeat (first | (with_reducible first | exact HB.out | apply below_alloc | apply pw_below_drewN | apply below_drew1) | exact HB.out)) hb); clear HB; have HB := n0_; clear n0_; (try clear hb); (try clear hb2); (try clear hk); (try clear hi)) | ((with_reducible refine gate_callee (f := 15) rfl ?_); refine goesL_ (some 14) rfl rfl Try.func15 (by kernel_rfl) rfl #[.string (a0.extract 0 ((ji3) : Int).toNat)] rfl (by (try simp only [List.map_toArray, List.map_cons, List.map_nil]); first | done | (simp only [hji3]; rfl) | rfl | (simp only [List.length_drop, List.length_take]; rfl)) ?_; (with_reducible refine (spec_KySeqStyle.calls k (a0.extract 0 ((ji3) : Int).toNat) t171 _ A7.out).mono ?_); rintro e w14 ⟨rfl, hb⟩; refine ⟨_, rfl, ?_⟩; have n0_ := Aside0.mk (below_step (by repeat (first | (with_reducible first | exact HB.out | apply below_alloc | apply pw_below_drewN | apply below_drew1) | exact HB.out)) hb); clear HB; have HB := n0_; clear n0_; (try clear hb); (try clear hb2); (try clear hk); (try clear hi)))
          go_ret
          exact ⟨by first | rfl | (simp [errW_none, errW_some] <;> rfl) | (simp only [← hji3]; first | rfl | (simp [errW_none, errW_some] <;> rfl)) | (simp [*, errW_none, errW_some] <;> rfl), by repeat (first | (with_reducible first | exact HB.out | apply below_alloc | apply pw_below_drewN | apply below_drew1) | exact HB.out)⟩
      · rw [if_neg c5] at H
        exact absurd H (by simp)
    · rw [if_neg c4] at H
      exact absurd H (by simp)

/-- THE ONE PURE STATEMENT of laws_FnSeqIndentStyle: yours. -/
def laws_FnSeqIndentStyle.Pure : Prop := ∀ (a0 : ByteArray), a0.size ≤ 140737488351232 → ∃ k, laws_FnSeqIndentStyle.f k a0 = some true
theorem laws_FnSeqIndentStyle.walk (P : laws_FnSeqIndentStyle.Pure) (a0 : ByteArray) (w : World) (w0 : a0.size ≤ 140737488351232) :
    Calls Try.prog 5 #[.string a0] w fun e w' => e = .returned (.bool true) ∧ Below w.heap.size w w' := by
  obtain ⟨k, h⟩ := P a0 w0
  refine (laws_FnSeqIndentStyle.calls k a0 true w h).mono ?_
  rintro e w' ⟨rfl, hd⟩
  exact ⟨rfl, hd⟩

end Go.Proofs.Ytcficphbjicneaa.PFnSeqIndentStyle

-- printed by a program of this session: the print, turned for a few more operations
import Derived.Test.YtcficphbjicneaaPFnSeqIndentStylex0
import Derived.Test.YtcficphbjicneaaPFnSeqIndentStylex1
import Derived.Test.YtcficphbjicneaaHTrim
namespace Go.Proofs.Ytcficphbjicneaa.PFnSeqIndentStyle
open Go.RowKit Go.Proofs.YtcficphbjicneaaW.PrintWords Go.Proofs.YtcficphbjicneaaW.PrintLast Go.Proofs.YtcficphbjicneaaW.PrintMore
attribute [local go_sem] max2_int min2_int max_two min_two max_three min_three max_four min_four   -- for this text's walks alone
set_option linter.unusedVariables false
set_option linter.unusedSimpArgs false

/-! ### yaml_keyLineBeforeSeqElem: function 44 -/
def yaml_keyLineBeforeSeqElem.l0 : Nat → List ByteArray → Int → Option (ByteArray)
  | 0, _, _ => none
  | k + 1, x0, x5 => if x5 ≥ 0 then (if 0 ≤ x5 then (if x5 < (x0.length : Int) then ((yaml_zzTrim.f k (rdOf ByteArray.empty x0 x5) (⟨#[32]⟩ : ByteArray)).bind fun t119 => ((strings_HasPrefix.f t119 (⟨#[35]⟩ : ByteArray)).bind fun t120 => (if t120 = true then (yaml_keyLineBeforeSeqElem.l0 k x0 (wrap64 (x5 - 1))) else ((yaml_zzSplitTwo.f k (rdOf ByteArray.empty x0 x5) (⟨#[35]⟩ : ByteArray)).bind fun t121 => (if 0 < (t121.length : Int) then (some (rdOf ByteArray.empty t121 0)) else (none)))))) else (none)) else (none)) else (some (⟨#[]⟩ : ByteArray))
def yaml_keyLineBeforeSeqElem.f (k : Nat) (l0 : List ByteArray) (a1 : Int) : Option (ByteArray) := yaml_keyLineBeforeSeqElem.l0 k l0 (wrap64 (a1 - 1))
theorem yaml_keyLineBeforeSeqElem.mono_l : ∀ k, (∀ y0 y1, LeO (yaml_keyLineBeforeSeqElem.l0 k y0 y1) (yaml_keyLineBeforeSeqElem.l0 (k + 1) y0 y1))
  | 0 => fun _ _ r h => by simp [yaml_keyLineBeforeSeqElem.l0] at h
  | k + 1 => by
    have ih0 := yaml_keyLineBeforeSeqElem.mono_l k
    · intro y0 y1
      unfold yaml_keyLineBeforeSeqElem.l0
      repeat' first
      | (with_reducible exact ih0 _ _)
      | (with_reducible exact yaml_zzSplitTwo.mono _ _ _)
      | (with_reducible exact yaml_zzTrim.mono _ _ _)
      | (with_reducible exact LeO.refl _)
      | (with_reducible exact LeO.none _)
      | (with_reducible refine LeO.ite ?_ ?_)
      | (with_reducible refine LeO.bind ?_ (fun _ => ?_))
      | exact ih0 _ _
      | exact yaml_zzSplitTwo.mono _ _ _
      | exact yaml_zzTrim.mono _ _ _
      | exact LeO.none _
      | refine LeO.ite ?_ ?_
      | refine LeO.bind ?_ (fun _ => ?_)
theorem yaml_keyLineBeforeSeqElem.mono : ∀ a0 a1 k, LeO (yaml_keyLineBeforeSeqElem.f k a0 a1) (yaml_keyLineBeforeSeqElem.f (k + 1) a0 a1) := by
  intro a0 a1 k
  have ih0 := yaml_keyLineBeforeSeqElem.mono_l k
  unfold yaml_keyLineBeforeSeqElem.f
  repeat' first
      | (with_reducible exact ih0 _ _)
      | (with_reducible exact yaml_zzSplitTwo.mono _ _ _)
      | (with_reducible exact yaml_zzTrim.mono _ _ _)
      | (with_reducible exact LeO.refl _)
      | (with_reducible exact LeO.none _)
      | (with_reducible refine LeO.ite ?_ ?_)
      | (with_reducible refine LeO.bind ?_ (fun _ => ?_))
      | exact ih0 _ _
      | exact yaml_zzSplitTwo.mono _ _ _
      | exact yaml_zzTrim.mono _ _ _
      | exact LeO.none _
      | refine LeO.ite ?_ ?_
      | refine LeO.bind ?_ (fun _ => ?_)
set_option maxHeartbeats 8000000 in
set_option maxRecDepth 100000 in
theorem yaml_keyLineBeforeSeqElem.calls (k : Nat) (A0 : Option Addr) (c0 : Nat) (l0 : List ByteArray) (a1 : Int) (r : ByteArray) (w : World) (hr0 : Kd.C Kd.string w A0 l0.length l0) (hc0 : l0.length ≤ c0) (h : yaml_keyLineBeforeSeqElem.f k l0 a1 = some r) :
    Calls Try.prog 44 #[.slice A0 l0.length c0, .int .i64 a1] w fun e w' => e = .returned (.string r) ∧ Below w.heap.size w w' := by
  have HR0 := Aside0.mk hr0
  have HC0 := Aside0.mk hc0
  clear hr0 hc0
  have HB := Aside0.mk (Below.refl w.heap.size w)
  have H : (yaml_keyLineBeforeSeqElem.l0 k l0 (wrap64 (a1 - 1))) = some r := h
  clear h
  have H' := Aside0.mk H
  clear H
  go_enter Try.func44, Try.ntmps44
  go_wp2
  go_loopg [5] k (fun kq v5 w' => ∃ (x5_1 : Int), v5 = .int .i64 x5_1 ∧ Aside0 (yaml_keyLineBeforeSeqElem.l0 kq l0 x5_1 = some r) ∧ Aside0 (kq ≤ k) ∧ Aside0 (Below w.heap.size w w'))
  case atStart => exact ⟨(wrap64 (a1 - 1)), (by first | rfl | (simp; done) | (simp [*]; done)), H', ⟨Nat.le_refl _⟩, ⟨by repeat (first | (with_reducible first | exact HB.out | apply below_alloc | apply pw_below_drewN | apply below_drew1) | exact HB.out)⟩⟩
  case round =>
    clear H'
    try clear p2
    obtain ⟨x5_1, rfl, HA, HK1, HB⟩ := hrel
    cases gk with
    | zero => exact absurd HA.out (by simp [yaml_keyLineBeforeSeqElem.l0])
    | succ k1 =>
      have H := HA.out
      clear HA
      simp only [yaml_keyLineBeforeSeqElem.l0] at H
      by_cases c3 : x5_1 ≥ 0
      · rw [if_pos c3] at H
        have c3b0 : decide (0 ≤ x5_1) = true := decide_eq_true c3
        clear c3
        by_cases c4 : 0 ≤ x5_1
        · rw [if_pos c4] at H
          have c4b0 : decide (0 ≤ x5_1) = true := decide_eq_true c4
          clear c4
          by_cases c5 : x5_1 < (l0.length : Int)
          · rw [if_pos c5] at H
            have c5b0 : decide (x5_1 < (l0.length : Int)) = true := decide_eq_true c5
            clear c5
            replace H := Option.bind_eq_some_iff.mp H
            obtain ⟨t119, A60, H⟩ := H
            replace H : ((strings_HasPrefix.f t119 (⟨#[35]⟩ : ByteArray)).bind fun t120 => (if t120 = true then (yaml_keyLineBeforeSeqElem.l0 k1 l0 (wrap64 (x5_1 - 1))) else ((yaml_zzSplitTwo.f k1 (rdOf ByteArray.empty l0 x5_1) (⟨#[35]⟩ : ByteArray)).bind fun t121 => (if 0 < (t121.length : Int) then (some (rdOf ByteArray.empty t121 0)) else (none))))) = some r := H
            have A6 := Aside0.mk A60
            clear A60
            replace H := Option.bind_eq_some_iff.mp H
            obtain ⟨t120, A70, H⟩ := H
            replace H : (if t120 = true then (yaml_keyLineBeforeSeqElem.l0 k1 l0 (wrap64 (x5_1 - 1))) else ((yaml_zzSplitTwo.f k1 (rdOf ByteArray.empty l0 x5_1) (⟨#[35]⟩ : ByteArray)).bind fun t121 => (if 0 < (t121.length : Int) then (some (rdOf ByteArray.empty t121 0)) else (none)))) = some r := H
            have A7 := Aside0.mk A70
            clear A70
            by_cases c8 : t120 = true
            · subst c8
              have H1 : (yaml_keyLineBeforeSeqElem.l0 k1 l0 (wrap64 (x5_1 - 1))) = some r := by rw [if_pos rfl] at H; exact H
              clear H
              have H := H1
              clear H1
              have H' := Aside0.mk H
              clear H
              have p118 : 0 ≤ (x5_1 : Int) := of_decide_eq_true (by first | (with_reducible assumption) | assumption)
              have q118 : x5_1 < (l0.length : Int) := of_decide_eq_true (by first | (with_reducible assumption) | assumption)
              obtain ⟨ad118, e118, hx118_0⟩ := Kd.at_string HR0.out x5_1 p118 q118
              cases e118
              replace hx118_0 := (HB.out.cell (World.block_lt_of_cell? w _ hx118_0)).trans hx118_0
              replace p118 := eq_true p118
              replace q118 := eq_true q118
              go_wp2_with (first | ((with_reducible refine gate_callee (f := 43) rfl ?_); refine goesL_ (some 20) rfl rfl Try.func43 (by kernel_rfl) rfl #[.string (rdOf ByteArray.empty l0 x5_1), .string (⟨#[32]⟩ : ByteArray)] rfl (by (try simp only [List.map_toArray, List.map_cons, List.map_nil]); first | done | rfl | (simp only [List.length_drop, List.length_take]; rfl)) ?_; (with_reducible refine (yaml_zzTrim.calls k1 (rdOf ByteArray.empty l0 x5_1) (⟨#[32]⟩ : ByteArray) t119 _ A6.out).mono ?_); rintro e w9 ⟨rfl, hb⟩; refine ⟨_, rfl, ?_⟩; have n0_ := Aside0.mk (below_step (by repeat (first | (with_reducible first | exact HB.out | apply below_alloc | apply pw_below_drewN | apply below_drew1) | exact HB.out)) hb); clear HB; have HB := n0_; clear n0_; (try clear hb); (try clear hb2); (try clear hk); (try clear hi)) | ((with_reducible refine gate_callee (f := 60) rfl ?_); refine goesL_ (some 22) rfl rfl Try.func60 (by kernel_rfl) rfl #[.string t119, .string (⟨#[35]⟩ : ByteArray)] rfl (by (try simp only [List.map_toArray, List.map_cons, List.map_nil]); first | done | rfl | (simp only [List.length_drop, List.length_take]; rfl)) ?_; (with_reducible refine (strings_HasPrefix.calls t119 (⟨#[35]⟩ : ByteArray) true _ A7.out).mono ?_); rintro e w' ⟨rfl, ⟨nd, rfl⟩⟩; refine ⟨_, rfl, ?_⟩))
              go_roundg k1
              case measure => have := HK1.out; omega
              case rel => exact ⟨(wrap64 (x5_1 - 1)), (by first | rfl | (simp; done) | (simp [*]; done)), H', ⟨by have := HK1.out; omega⟩, ⟨by repeat (first | (with_reducible first | exact HB.out | apply below_alloc | apply pw_below_drewN | apply below_drew1) | exact HB.out)⟩⟩
            · replace c8 := Bool.eq_false_iff.mpr c8
              subst c8
              have H1 : ((yaml_zzSplitTwo.f k1 (rdOf ByteArray.empty l0 x5_1) (⟨#[35]⟩ : ByteArray)).bind fun t121 => (if 0 < (t121.length : Int) then (some (rdOf ByteArray.empty t121 0)) else (none))) = some r := by rw [if_neg (show ¬ (false = true) by decide)] at H; exact H
              clear H
              have H := H1
              clear H1
              replace H := Option.bind_eq_some_iff.mp H
              obtain ⟨t121, A100, H⟩ := H
              replace H : (if 0 < (t121.length : Int) then (some (rdOf ByteArray.empty t121 0)) else (none)) = some r := H
              have A10 := Aside0.mk A100
              clear A100
              by_cases c11 : 0 < (t121.length : Int)
              · rw [if_pos c11] at H
                have c11b0 : decide (0 < (t121.length : Int)) = true := decide_eq_true c11
                have c11b1 : decide (0 < t121.length) = true := decide_eq_true (by omega)
                clear c11
                obtain rfl := Option.some.inj H
                have p118 : 0 ≤ (x5_1 : Int) := of_decide_eq_true (by first | (with_reducible assumption) | assumption)
                have q118 : x5_1 < (l0.length : Int) := of_decide_eq_true (by first | (with_reducible assumption) | assumption)
                obtain ⟨ad118, e118, hx118_0⟩ := Kd.at_string HR0.out x5_1 p118 q118
                cases e118
                replace hx118_0 := (HB.out.cell (World.block_lt_of_cell? w _ hx118_0)).trans hx118_0
                replace p118 := eq_true p118
                replace q118 := eq_true q118
                go_wp2_with (first | ((with_reducible refine gate_callee (f := 43) rfl ?_); refine goesL_ (some 20) rfl rfl Try.func43 (by kernel_rfl) rfl #[.string (rdOf ByteArray.empty l0 x5_1), .string (⟨#[32]⟩ : ByteArray)] rfl (by (try simp only [List.map_toArray, List.map_cons, List.map_nil]); first | done | rfl | (simp only [List.length_drop, List.length_take]; rfl)) ?_; (with_reducible refine (yaml_zzTrim.calls k1 (rdOf ByteArray.empty l0 x5_1) (⟨#[32]⟩ : ByteArray) t119 _ A6.out).mono ?_); rintro e w12 ⟨rfl, hb⟩; refine ⟨_, rfl, ?_⟩; have n0_ := Aside0.mk (below_step (by repeat (first | (with_reducible first | exact HB.out | apply below_alloc | apply pw_below_drewN | apply below_drew1) | exact HB.out)) hb); clear HB; have HB := n0_; clear n0_; (try clear hb); (try clear hb2); (try clear hk); (try clear hi)) | ((with_reducible refine gate_callee (f := 60) rfl ?_); refine goesL_ (some 22) rfl rfl Try.func60 (by kernel_rfl) rfl #[.string t119, .string (⟨#[35]⟩ : ByteArray)] rfl (by (try simp only [List.map_toArray, List.map_cons, List.map_nil]); first | done | rfl | (simp only [List.length_drop, List.length_take]; rfl)) ?_; (with_reducible refine (strings_HasPrefix.calls t119 (⟨#[35]⟩ : ByteArray) false _ A7.out).mono ?_); rintro e w' ⟨rfl, ⟨nd, rfl⟩⟩; refine ⟨_, rfl, ?_⟩) | ((with_reducible refine gate_callee (f := 42) rfl ?_); refine goesL_ (some 24) rfl rfl Try.func42 (by kernel_rfl) rfl #[.string (rdOf ByteArray.empty l0 x5_1), .string (⟨#[35]⟩ : ByteArray)] rfl (by (try simp only [List.map_toArray, List.map_cons, List.map_nil]); first | done | rfl | (simp only [List.length_drop, List.length_take]; rfl)) ?_; (with_reducible refine (yaml_zzSplitTwo.calls k1 (rdOf ByteArray.empty l0 x5_1) (⟨#[35]⟩ : ByteArray) t121 _ A10.out).mono ?_); rintro e w13 ⟨v122, rfl, ho0, hb⟩; refine ⟨_, rfl, ?_⟩; have n0_ := Aside0.mk (Kd.R_lower ho0 (below_size (by repeat (first | (with_reducible first | exact HB.out | apply below_alloc | apply pw_below_drewN | apply below_drew1) | exact HB.out)))); have n1_ := Aside0.mk (below_step (by repeat (first | (with_reducible first | exact HB.out | apply below_alloc | apply pw_below_drewN | apply below_drew1) | exact HB.out)) hb); clear HB; have HO123 := n0_; have HB := n1_; clear n0_ n1_; (try clear hb); (try clear hb2); (try clear hk); (try clear hi); (try clear ho0); obtain ⟨Ao14, co14, eo14⟩ := Kd.R_slice HO123.out; subst eo14; have p124 : 0 ≤ (0 : Int) := (by omega); have q124 : 0 < (t121.length : Int) := of_decide_eq_true (by first | (with_reducible assumption) | assumption); obtain ⟨ad124, e124, hx124_0⟩ := Kd.at_string (Kd.R_reads' HO123.out).2.2 0 p124 q124; cases e124; have qi124 : (0 < t121.length) = True := eq_true (by omega); (try rw [show ((0 : Int)).toNat = 0 from rfl] at hx124_0); (try rw [Addr.add_zero'] at hx124_0); replace p124 := eq_true p124; replace q124 := eq_true q124))
                go_ret
                exact ⟨by first | rfl | (simp [errW_none, errW_some] <;> rfl) | (simp [*, errW_none, errW_some] <;> rfl), by repeat (first | (with_reducible first | exact HB.out | apply below_alloc | apply pw_below_drewN | apply below_drew1) | exact HB.out)⟩
              · rw [if_neg c11] at H
                exact absurd H (by simp)
          · rw [if_neg c5] at H
            exact absurd H (by simp)
        · rw [if_neg c4] at H
          exact absurd H (by simp)
      · rw [if_neg c3] at H
        have c3b0 : decide (0 ≤ x5_1) = false := decide_eq_false c3
        clear c3
        obtain rfl := Option.some.inj H
        go_wp2
        go_ret
        exact ⟨by first | rfl | (simp [errW_none, errW_some] <;> rfl) | (simp [*, errW_none, errW_some] <;> rfl), by repeat (first | (with_reducible first | exact HB.out | apply below_alloc | apply pw_below_drewN | apply below_drew1) | exact HB.out)⟩

/-! ### yaml_zzCount: function 46 -/
def yaml_zzCount.l1 : Nat → ByteArray → ByteArray → Int → Int → Option (Int)
  | 0, _, _, _, _ => none
  | k + 1, x0, x1, x5, x6 => if (wrap64 (x6 + (x1.size : Int))) ≤ (x0.size : Int) then (if 0 ≤ x6 then (if x6 ≤ (wrap64 (x6 + (x1.size : Int))) then (if (x0.extract (x6 : Int).toNat ((wrap64 (x6 + (x1.size : Int))) : Int).toNat).toList = x1.toList then (yaml_zzCount.l1 k x0 x1 (wrap64 (x5 + 1)) (wrap64 (x6 + (x1.size : Int)))) else (yaml_zzCount.l1 k x0 x1 x5 (wrap64 (x6 + 1)))) else (none)) else (none)) else (some x5)
def yaml_zzCount.f (k : Nat) (a0 : ByteArray) (a1 : ByteArray) : Option (Int) := if (a1.size : Int) = 0 then (none) else (yaml_zzCount.l1 k a0 a1 0 0)
theorem yaml_zzCount.mono_l : ∀ k, (∀ y0 y1 y2 y3, LeO (yaml_zzCount.l1 k y0 y1 y2 y3) (yaml_zzCount.l1 (k + 1) y0 y1 y2 y3))
  | 0 => fun _ _ _ _ r h => by simp [yaml_zzCount.l1] at h
  | k + 1 => by
    have ih0 := yaml_zzCount.mono_l k
    · intro y0 y1 y2 y3
      unfold yaml_zzCount.l1
      repeat' first
      | (with_reducible exact ih0 _ _ _ _)
      | (with_reducible exact LeO.refl _)
      | (with_reducible exact LeO.none _)
      | (with_reducible refine LeO.ite ?_ ?_)
      | (with_reducible refine LeO.bind ?_ (fun _ => ?_))
      | exact ih0 _ _ _ _
      | exact LeO.none _
      | refine LeO.ite ?_ ?_
      | refine LeO.bind ?_ (fun _ => ?_)
theorem yaml_zzCount.mono : ∀ a0 a1 k, LeO (yaml_zzCount.f k a0 a1) (yaml_zzCount.f (k + 1) a0 a1) := by
  intro a0 a1 k
  have ih0 := yaml_zzCount.mono_l k
  unfold yaml_zzCount.f
  repeat' first
      | (with_reducible exact ih0 _ _ _ _)
      | (with_reducible exact LeO.refl _)
      | (with_reducible exact LeO.none _)
      | (with_reducible refine LeO.ite ?_ ?_)
      | (with_reducible refine LeO.bind ?_ (fun _ => ?_))
      | exact ih0 _ _ _ _
      | exact LeO.none _
      | refine LeO.ite ?_ ?_
      | refine LeO.bind ?_ (fun _ => ?_)
set_option maxHeartbeats 8000000 in
set_option maxRecDepth 100000 in
theorem yaml_zzCount.calls (k : Nat) (a0 : ByteArray) (a1 : ByteArray) (r : Int) (w : World) (h : yaml_zzCount.f k a0 a1 = some r) :
    Calls Try.prog 46 #[.string a0, .string a1] w fun e w' => e = .returned (.int .i64 r) ∧ Drawn0 w w' := by
  have H : (if (a1.size : Int) = 0 then (none) else (yaml_zzCount.l1 k a0 a1 0 0)) = some r := h
  clear h
  by_cases c3 : (a1.size : Int) = 0
  · rw [if_pos c3] at H
    exact absurd H (by simp)
  · rw [if_neg c3] at H
    have c3b0 : ((a1.size : Int) == 0) = false := beq_eq_false_iff_ne.mpr c3
    have c3b1 : ((a1.size : Int) != 0) = true := bne_iff_ne.mpr c3
    have H' := Aside0.mk H
    clear H
    go_enter Try.func46, Try.ntmps46
    go_wp2
    go_loopg [5, 6] k (fun kq v5 v6 w' => ∃ (x5_1 : Int) (x6_1 : Int), v5 = .int .i64 x5_1 ∧ v6 = .int .i64 x6_1 ∧ Aside0 (yaml_zzCount.l1 kq a0 a1 x5_1 x6_1 = some r) ∧ Aside0 (kq ≤ k) ∧ Drawn0 w w')
    case atStart => exact ⟨(0), (0), (by first | rfl | (simp; done) | (simp [*]; done)), (by first | rfl | (simp; done) | (simp [*]; done)), H', ⟨Nat.le_refl _⟩, by repeat (first | exact Drawn0.refl _ | apply Drawn0.step)⟩
    case round =>
      clear H'
      try clear p2
      try clear c3
      try clear c3b0
      try clear c3b1
      obtain ⟨x5_1, x6_1, rfl, rfl, HA, HK1, ⟨m1, rfl⟩⟩ := hrel
      cases gk with
      | zero => exact absurd HA.out (by simp [yaml_zzCount.l1])
      | succ k1 =>
        have H := HA.out
        clear HA
        simp only [yaml_zzCount.l1] at H
        by_cases c4 : (wrap64 (x6_1 + (a1.size : Int))) ≤ (a0.size : Int)
        · rw [if_pos c4] at H
          have c4b0 : decide ((wrap64 (x6_1 + (a1.size : Int))) ≤ (a0.size : Int)) = true := decide_eq_true c4
          clear c4
          by_cases c5 : 0 ≤ x6_1
          · rw [if_pos c5] at H
            have c5b0 := eq_true c5
            have c5b1 : decide (0 ≤ x6_1) = true := decide_eq_true c5
            clear c5
            by_cases c6 : x6_1 ≤ (wrap64 (x6_1 + (a1.size : Int)))
            · rw [if_pos c6] at H
              have c6b0 := eq_true c6
              have c6b1 : decide (x6_1 ≤ (wrap64 (x6_1 + (a1.size : Int)))) = true := decide_eq_true c6
              have c7b0 := eq_true (of_decide_eq_true (by first | (with_reducible assumption) | assumption) : (wrap64 (x6_1 + (a1.size : Int))) ≤ (a0.size : Int))
              by_cases c8 : (a0.extract (x6_1 : Int).toNat ((wrap64 (x6_1 + (a1.size : Int))) : Int).toNat).toList = a1.toList
              · rw [if_pos c8] at H
                have c8b0 : ((a0.extract (x6_1 : Int).toNat ((wrap64 (x6_1 + (a1.size : Int))) : Int).toNat).toList == a1.toList) = true := beq_iff_eq.mpr c8
                have c8b1 : ((a0.extract (x6_1 : Int).toNat ((wrap64 (x6_1 + (a1.size : Int))) : Int).toNat).toList != a1.toList) = false := bne_eq_false_iff_eq.mpr c8
                clear c8
                have H' := Aside0.mk H
                clear H
                go_wp2
                go_roundg k1
                case measure => have := HK1.out; omega
                case rel => exact ⟨(wrap64 (x5_1 + 1)), (wrap64 (x6_1 + (a1.size : Int))), (by first | rfl | (simp; done) | (simp [*]; done)), (by first | rfl | (simp; done) | (simp [*]; done)), H', ⟨by have := HK1.out; omega⟩, by repeat (first | exact Drawn0.refl _ | apply Drawn0.step)⟩
              · rw [if_neg c8] at H
                have c8b0 : ((a0.extract (x6_1 : Int).toNat ((wrap64 (x6_1 + (a1.size : Int))) : Int).toNat).toList == a1.toList) = false := beq_eq_false_iff_ne.mpr c8
                have c8b1 : ((a0.extract (x6_1 : Int).toNat ((wrap64 (x6_1 + (a1.size : Int))) : Int).toNat).toList != a1.toList) = true := bne_iff_ne.mpr c8
                have H' := Aside0.mk H
                clear H
                go_wp2
                go_roundg k1
                case measure => have := HK1.out; omega
                case rel => exact ⟨(x5_1), (wrap64 (x6_1 + 1)), (by first | rfl | (simp; done) | (simp [*]; done)), (by first | rfl | (simp; done) | (simp [*]; done)), H', ⟨by have := HK1.out; omega⟩, by repeat (first | exact Drawn0.refl _ | apply Drawn0.step)⟩
            · rw [if_neg c6] at H
              exact absurd H (by simp)
          · rw [if_neg c5] at H
            exact absurd H (by simp)
        · rw [if_neg c4] at H
          have c4b0 : decide ((wrap64 (x6_1 + (a1.size : Int))) ≤ (a0.size : Int)) = false := decide_eq_false c4
          clear c4
          obtain rfl := Option.some.inj H
          go_wp2
          go_ret
          exact ⟨by first | rfl | (simp; done) | (simp [*]; done), by repeat (first | exact Drawn0.refl _ | apply Drawn0.step)⟩

/-! ### stringslite_HasSuffix: function 62 -/
def stringslite_HasSuffix.f (a0 : ByteArray) (a1 : ByteArray) : Option (Bool) := if (a0.size : Int) ≥ (a1.size : Int) then (if 0 ≤ (wrap64 ((a0.size : Int) - (a1.size : Int))) then (if (wrap64 ((a0.size : Int) - (a1.size : Int))) ≤ (a0.size : Int) then (some ((a0.extract ((wrap64 ((a0.size : Int) - (a1.size : Int))) : Int).toNat a0.size).toList == a1.toList)) else (none)) else (none)) else (some false)
set_option maxHeartbeats 8000000 in
set_option maxRecDepth 100000 in
theorem stringslite_HasSuffix.calls (a0 : ByteArray) (a1 : ByteArray) (r : Bool) (w : World) (h : stringslite_HasSuffix.f a0 a1 = some r) :
    Calls Try.prog 62 #[.string a0, .string a1] w fun e w' => e = .returned (.bool r) ∧ Drawn0 w w' := by
  have H : (if (a0.size : Int) ≥ (a1.size : Int) then (if 0 ≤ (wrap64 ((a0.size : Int) - (a1.size : Int))) then (if (wrap64 ((a0.size : Int) - (a1.size : Int))) ≤ (a0.size : Int) then (some ((a0.extract ((wrap64 ((a0.size : Int) - (a1.size : Int))) : Int).toNat a0.size).toList == a1.toList)) else (none)) else (none)) else (some false)) = some r := h
  clear h
  by_cases c3 : (a0.size : Int) ≥ (a1.size : Int)
  · rw [if_pos c3] at H
    have c3b0 : decide ((a1.size : Int) ≤ (a0.size : Int)) = true := decide_eq_true c3
    have c3b1 : decide (a1.size ≤ a0.size) = true := decide_eq_true (Int.ofNat_le.mp c3)
    clear c3
    obtain ⟨ji4, hji4⟩ : ∃ j_ : Int, (wrap64 ((a0.size : Int) - (a1.size : Int))) = j_ := ⟨_, rfl⟩
    replace H : (if 0 ≤ (ji4) then (if (ji4) ≤ (a0.size : Int) then (some ((a0.extract ((ji4) : Int).toNat a0.size).toList == a1.toList)) else (none)) else (none)) = some r := by first | (rw [hji4] at H; exact H) | (simp only [hji4] at H ⊢; exact H)
    have hji4w : (IntKind.i64.wrap ((a0.size : Int) - (a1.size : Int))) = ji4 := (i64_w _).trans hji4
    by_cases c5 : 0 ≤ (ji4)
    · rw [if_pos c5] at H
      have c5b0 := eq_true c5
      have c5b1 : decide (0 ≤ (ji4)) = true := decide_eq_true c5
      clear c5
      by_cases c6 : (ji4) ≤ (a0.size : Int)
      · rw [if_pos c6] at H
        have c6b0 := eq_true c6
        have c6b1 : decide ((ji4) ≤ (a0.size : Int)) = true := decide_eq_true c6
        clear c6
        obtain rfl := Option.some.inj H
        go_enter Try.func62, Try.ntmps62
        go_wp2
        go_ret
        exact ⟨by first | rfl | (simp; done) | (simp only [← hji4] <;> (first | rfl | simp)) | (simp [*]; done), by repeat (first | exact Drawn0.refl _ | apply Drawn0.step)⟩
      · rw [if_neg c6] at H
        exact absurd H (by simp)
    · rw [if_neg c5] at H
      exact absurd H (by simp)
  · rw [if_neg c3] at H
    have c3b0 : decide ((a1.size : Int) ≤ (a0.size : Int)) = false := decide_eq_false c3
    have c3b1 : decide (a1.size ≤ a0.size) = false := decide_eq_false (fun h => c3 (Int.ofNat_le.mpr h))
    clear c3
    obtain rfl := Option.some.inj H
    go_enter Try.func62, Try.ntmps62
    go_wp2
    go_ret
    exact ⟨by first | rfl | (simp; done) | (simp [*]; done), by repeat (first | exact Drawn0.refl _ | apply Drawn0.step)⟩

/-! ### strings_HasSuffix: function 47 -/
def strings_HasSuffix.f (a0 : ByteArray) (a1 : ByteArray) : Option (Bool) := (stringslite_HasSuffix.f a0 a1).bind fun t125 => (some t125)
set_option maxHeartbeats 8000000 in
set_option maxRecDepth 100000 in
theorem strings_HasSuffix.calls (a0 : ByteArray) (a1 : ByteArray) (r : Bool) (w : World) (h : strings_HasSuffix.f a0 a1 = some r) :
    Calls Try.prog 47 #[.string a0, .string a1] w fun e w' => e = .returned (.bool r) ∧ Drawn0 w w' := by
  have H : ((stringslite_HasSuffix.f a0 a1).bind fun t125 => (some t125)) = some r := h
  clear h
  replace H := Option.bind_eq_some_iff.mp H
  obtain ⟨t125, A30, H⟩ := H
  replace H : (some t125) = some r := H
  have A3 := Aside0.mk A30
  clear A30
  obtain rfl := Option.some.inj H
  go_enter Try.func47, Try.ntmps47
  go_wp2_with (first | ((with_reducible refine gate_callee (f := 62) rfl ?_); refine goesL_ (some 7) rfl rfl Try.func62 (by kernel_rfl) rfl #[.string a0, .string a1] rfl (by (try simp only [List.map_toArray, List.map_cons, List.map_nil]); first | done | rfl | (simp only [List.length_drop, List.length_take]; rfl)) ?_; (with_reducible refine (stringslite_HasSuffix.calls a0 a1 t125 _ A3.out).mono ?_); rintro e w' ⟨rfl, ⟨nd, rfl⟩⟩; refine ⟨_, rfl, ?_⟩))
  go_ret
  exact ⟨by first | rfl | (simp; done) | (simp [*]; done), by repeat (first | exact Drawn0.refl _ | apply Drawn0.step)⟩

/-! ### yaml_DeriveSeqIndentStyle: function 27 -/
mutual
def yaml_DeriveSeqIndentStyle.l0 : Nat → List ByteArray → List ByteArray → Int → Int → Option (ByteArray)
  | 0, _, _, _, _ => none
  | k + 1, x3, x13, x14, x15 => if x15 < x14 then (if 0 ≤ x15 then (if x15 < (x13.length : Int) then ((yaml_zzSplitTwo.f k (rdOf ByteArray.empty x13 x15) (⟨#[45, 32]⟩ : ByteArray)).bind fun t130 => (if (t130.length : Int) = 2 then (if 0 < (t130.length : Int) then ((yaml_zzTrim.f k (rdOf ByteArray.empty t130 0) (⟨#[32]⟩ : ByteArray)).bind fun t134 => (if t134.toList = ([] : List UInt8) then ((yaml_keyLineBeforeSeqElem.f k x3 x15).bind fun t136 => (if t136.toList = ([] : List UInt8) then (yaml_DeriveSeqIndentStyle.l0 k x3 x13 x14 (wrap64 (x15 + 1))) else ((yaml_zzTrimLeft.f t136 (⟨#[32]⟩ : ByteArray)).bind fun t137 => ((yaml_zzTrim.f k t136 (⟨#[32]⟩ : ByteArray)).bind fun t138 => ((yaml_zzCount.f k t138 (⟨#[58]⟩ : ByteArray)).bind fun t139 => (if t139 = 1 then ((strings_HasSuffix.f t138 (⟨#[58]⟩ : ByteArray)).bind fun t140 => (yaml_DeriveSeqIndentStyle.j1 k x3 ((rdOf ByteArray.empty t130 0).size : Int) (wrap64 ((t136.size : Int) - (t137.size : Int))) x13 x14 x15 (!t140))) else (yaml_DeriveSeqIndentStyle.j1 k x3 ((rdOf ByteArray.empty t130 0).size : Int) (wrap64 ((t136.size : Int) - (t137.size : Int))) x13 x14 x15 true))))))) else (yaml_DeriveSeqIndentStyle.l0 k x3 x13 x14 (wrap64 (x15 + 1))))) else (none)) else (yaml_DeriveSeqIndentStyle.l0 k x3 x13 x14 (wrap64 (x15 + 1))))) else (none)) else (none)) else (some (⟨#[99, 111, 109, 112, 97, 99, 116]⟩ : ByteArray))
def yaml_DeriveSeqIndentStyle.j1 : Nat → List ByteArray → Int → Int → List ByteArray → Int → Int → Bool → Option (ByteArray)
  | 0, _, _, _, _, _, _, _ => none
  | k + 1, x3, x7, x9, x13, x14, x15, x54 => if x54 = true then (yaml_DeriveSeqIndentStyle.l0 k x3 x13 x14 (wrap64 (x15 + 1))) else (if x7 = x9 then (some (⟨#[99, 111, 109, 112, 97, 99, 116]⟩ : ByteArray)) else (if (wrap64 (x7 - x9)) = 2 then (some (⟨#[119, 105, 100, 101]⟩ : ByteArray)) else (yaml_DeriveSeqIndentStyle.l0 k x3 x13 x14 (wrap64 (x15 + 1)))))
end
def yaml_DeriveSeqIndentStyle.f (k : Nat) (a0 : ByteArray) : Option (ByteArray) := (yaml_zzSplit.f k a0 (⟨#[10]⟩ : ByteArray)).bind fun t126 => (yaml_DeriveSeqIndentStyle.l0 k t126 t126 (t126.length : Int) 0)
theorem yaml_DeriveSeqIndentStyle.mono_l : ∀ k, (∀ y0 y1 y2 y3, LeO (yaml_DeriveSeqIndentStyle.l0 k y0 y1 y2 y3) (yaml_DeriveSeqIndentStyle.l0 (k + 1) y0 y1 y2 y3)) ∧ (∀ y0 y1 y2 y3 y4 y5 y6, LeO (yaml_DeriveSeqIndentStyle.j1 k y0 y1 y2 y3 y4 y5 y6) (yaml_DeriveSeqIndentStyle.j1 (k + 1) y0 y1 y2 y3 y4 y5 y6))
  | 0 => ⟨fun _ _ _ _ r h => by simp [yaml_DeriveSeqIndentStyle.l0] at h, fun _ _ _ _ _ _ _ r h => by simp [yaml_DeriveSeqIndentStyle.j1] at h⟩
  | k + 1 => by
    obtain ⟨ih0, ih1⟩ := yaml_DeriveSeqIndentStyle.mono_l k
    refine ⟨?_, ?_⟩
    · intro y0 y1 y2 y3
      unfold yaml_DeriveSeqIndentStyle.l0
      repeat' first
      | (with_reducible exact ih0 _ _ _ _)
      | (with_reducible exact ih1 _ _ _ _ _ _ _)
      | (with_reducible exact yaml_keyLineBeforeSeqElem.mono _ _ _)
      | (with_reducible exact yaml_zzCount.mono _ _ _)
      | (with_reducible exact yaml_zzSplit.mono _ _ _)
      | (with_reducible exact yaml_zzSplitTwo.mono _ _ _)
      | (with_reducible exact yaml_zzTrim.mono _ _ _)
      | (with_reducible exact LeO.refl _)
      | (with_reducible exact LeO.none _)
      | (with_reducible refine LeO.ite ?_ ?_)
      | (with_reducible refine LeO.bind ?_ (fun _ => ?_))
      | exact ih0 _ _ _ _
      | exact ih1 _ _ _ _ _ _ _
      | exact yaml_keyLineBeforeSeqElem.mono _ _ _
      | exact yaml_zzCount.mono _ _ _
      | exact yaml_zzSplit.mono _ _ _
      | exact yaml_zzSplitTwo.mono _ _ _
      | exact yaml_zzTrim.mono _ _ _
      | exact LeO.none _
      | refine LeO.ite ?_ ?_
      | refine LeO.bind ?_ (fun _ => ?_)
    · intro y0 y1 y2 y3 y4 y5 y6
      unfold yaml_DeriveSeqIndentStyle.j1
      repeat' first
      | (with_reducible exact ih0 _ _ _ _)
      | (with_reducible exact ih1 _ _ _ _ _ _ _)
      | (with_reducible exact yaml_keyLineBeforeSeqElem.mono _ _ _)
      | (with_reducible exact yaml_zzCount.mono _ _ _)
      | (with_reducible exact yaml_zzSplit.mono _ _ _)
      | (with_reducible exact yaml_zzSplitTwo.mono _ _ _)
      | (with_reducible exact yaml_zzTrim.mono _ _ _)
      | (with_reducible exact LeO.refl _)
      | (with_reducible exact LeO.none _)
      | (with_reducible refine LeO.ite ?_ ?_)
      | (with_reducible refine LeO.bind ?_ (fun _ => ?_))
      | exact ih0 _ _ _ _
      | exact ih1 _ _ _ _ _ _ _
      | exact yaml_keyLineBeforeSeqElem.mono _ _ _
      | exact yaml_zzCount.mono _ _ _
      | exact yaml_zzSplit.mono _ _ _
      | exact yaml_zzSplitTwo.mono _ _ _
      | exact yaml_zzTrim.mono _ _ _
      | exact LeO.none _
      | refine LeO.ite ?_ ?_
      | refine LeO.bind ?_ (fun _ => ?_)
theorem yaml_DeriveSeqIndentStyle.mono : ∀ a0 k, LeO (yaml_DeriveSeqIndentStyle.f k a0) (yaml_DeriveSeqIndentStyle.f (k + 1) a0) := by
  intro a0 k
  obtain ⟨ih0, ih1⟩ := yaml_DeriveSeqIndentStyle.mono_l k
  unfold yaml_DeriveSeqIndentStyle.f
  repeat' first
      | (with_reducible exact ih0 _ _ _ _)
      | (with_reducible exact ih1 _ _ _ _ _ _ _)
      | (with_reducible exact yaml_keyLineBeforeSeqElem.mono _ _ _)
      | (with_reducible exact yaml_zzCount.mono _ _ _)
      | (with_reducible exact yaml_zzSplit.mono _ _ _)
      | (with_reducible exact yaml_zzSplitTwo.mono _ _ _)
      | (with_reducible exact yaml_zzTrim.mono _ _ _)
      | (with_reducible exact LeO.refl _)
      | (with_reducible exact LeO.none _)
      | (with_reducible refine LeO.ite ?_ ?_)
      | (with_reducible refine LeO.bind ?_ (fun _ => ?_))
      | exact ih0 _ _ _ _
      | exact ih1 _ _ _ _ _ _ _
      | exact yaml_keyLineBeforeSeqElem.mono _ _ _
      | exact yaml_zzCount.mono _ _ _
      | exact yaml_zzSplit.mono _ _ _
      | exact yaml_zzSplitTwo.mono _ _ _
      | exact yaml_zzTrim.mono _ _ _
      | exact LeO.none _
      | refine LeO.ite ?_ ?_
      | refine LeO.bind ?_ (fun _ => ?_)
set_option maxHeartbeats 8000000 in
set_option maxRecDepth 100000 in
theorem yaml_DeriveSeqIndentStyle.calls (k : Nat) (a0 : ByteArray) (r : ByteArray) (w : World) (h : yaml_DeriveSeqIndentStyle.f k a0 = some r) :
    Calls Try.prog 27 #[.string a0] w fun e w' => e = .returned (.string r) ∧ Below w.heap.size w w' := by
  have HB := Aside0.mk (Below.refl w.heap.size w)
  have H : ((yaml_zzSplit.f k a0 (⟨#[10]⟩ : ByteArray)).bind fun t126 => (yaml_DeriveSeqIndentStyle.l0 k t126 t126 (t126.length : Int) 0)) = some r := h
  clear h
  replace H := Option.bind_eq_some_iff.mp H
  obtain ⟨t126, A20, H⟩ := H
  replace H : (yaml_DeriveSeqIndentStyle.l0 k t126 t126 (t126.length : Int) 0) = some r := H
  have A2 := Aside0.mk A20
  clear A20
  have H' := Aside0.mk H
  clear H
  go_enter Try.func27, Try.ntmps27
  go_wp2_with (first | ((with_reducible refine gate_callee (f := 41) rfl ?_); refine goesL_ (some 12) rfl rfl Try.func41 (by kernel_rfl) rfl #[.string a0, .string (⟨#[10]⟩ : ByteArray)] rfl (by (try simp only [List.map_toArray, List.map_cons, List.map_nil]); first | done | rfl | (simp only [List.length_drop, List.length_take]; rfl)) ?_; (with_reducible refine (yaml_zzSplit.calls k a0 (⟨#[10]⟩ : ByteArray) t126 _ A2.out).mono ?_); rintro e w3 ⟨v127, rfl, ho0, hb⟩; refine ⟨_, rfl, ?_⟩; have n0_ := Aside0.mk (Kd.R_lower ho0 (below_size (by repeat (first | (with_reducible first | exact HB.out | apply below_alloc | apply pw_below_drewN | apply below_drew1) | exact HB.out)))); have n1_ := Aside0.mk (below_step (by repeat (first | (with_reducible first | exact HB.out | apply below_alloc | apply pw_below_drewN | apply below_drew1) | exact HB.out)) hb); clear HB; have HO128 := n0_; have HB := n1_; clear n0_ n1_; (try clear hb); (try clear hb2); (try clear hk); (try clear hi); (try clear ho0); obtain ⟨Ao4, co4, eo4⟩ := Kd.R_slice HO128.out; subst eo4))
  go_loopg [15] k (fun kq v15 w' => ∃ (x15_1 : Int), v15 = .int .i64 x15_1 ∧ Aside0 (yaml_DeriveSeqIndentStyle.l0 kq t126 t126 (t126.length : Int) x15_1 = some r) ∧ Aside0 (kq ≤ k) ∧ Aside0 (Kd.R Kd.string 9 w' w.heap.size (fun _ => True) (.slice Ao4 t126.length co4) t126) ∧ Aside0 (Kd.R Kd.string 9 w' w.heap.size (fun _ => True) (.slice Ao4 t126.length co4) t126) ∧ Aside0 (Below w.heap.size w w'))
  case atStart => exact ⟨(0), (by first | rfl | (simp; done) | (simp [*]; done)), H', ⟨Nat.le_refl _⟩, ⟨by (with_reducible repeat (first | apply Kd.R_alloc | apply Kd.R_drewN | apply Kd.R_drew)); exact HO128.out⟩, ⟨by (with_reducible repeat (first | apply Kd.R_alloc | apply Kd.R_drewN | apply Kd.R_drew)); exact HO128.out⟩, ⟨by repeat (first | (with_reducible first | exact HB.out | apply below_alloc | apply pw_below_drewN | apply below_drew1) | exact HB.out)⟩⟩
  case round =>
    clear H'
    try clear c2
    try clear p2
    try clear c4
    obtain ⟨x15_1, rfl, HA, HK1, HO_3, HO_13, HB⟩ := hrel
    cases gk with
    | zero => exact absurd HA.out (by simp [yaml_DeriveSeqIndentStyle.l0])
    | succ k1 =>
      have H := HA.out
      clear HA
      simp only [yaml_DeriveSeqIndentStyle.l0] at H
      by_cases c5 : x15_1 < (t126.length : Int)
      · rw [if_pos c5] at H
        have c5b0 : decide (x15_1 < (t126.length : Int)) = true := decide_eq_true c5
        clear c5
        by_cases c6 : 0 ≤ x15_1
        · rw [if_pos c6] at H
          have c6b0 : decide (0 ≤ x15_1) = true := decide_eq_true c6
          clear c6
          by_cases c7 : x15_1 < (t126.length : Int)
          · rw [if_pos c7] at H
            have c7b0 : decide (x15_1 < (t126.length : Int)) = true := decide_eq_true c7
            clear c7
            replace H := Option.bind_eq_some_iff.mp H
            obtain ⟨t130, A80, H⟩ := H
            replace H : (if (t130.length : Int) = 2 then (if 0 < (t130.length : Int) then ((yaml_zzTrim.f k1 (rdOf ByteArray.empty t130 0) (⟨#[32]⟩ : ByteArray)).bind fun t134 => (if t134.toList = ([] : List UInt8) then ((yaml_keyLineBeforeSeqElem.f k1 t126 x15_1).bind fun t136 => (if t136.toList = ([] : List UInt8) then (yaml_DeriveSeqIndentStyle.l0 k1 t126 t126 (t126.length : Int) (wrap64 (x15_1 + 1))) else ((yaml_zzTrimLeft.f t136 (⟨#[32]⟩ : ByteArray)).bind fun t137 => ((yaml_zzTrim.f k1 t136 (⟨#[32]⟩ : ByteArray)).bind fun t138 => ((yaml_zzCount.f k1 t138 (⟨#[58]⟩ : ByteArray)).bind fun t139 => (if t139 = 1 then ((strings_HasSuffix.f t138 (⟨#[58]⟩ : ByteArray)).bind fun t140 => (yaml_DeriveSeqIndentStyle.j1 k1 t126 ((rdOf ByteArray.empty t130 0).size : Int) (wrap64 ((t136.size : Int) - (t137.size : Int))) t126 (t126.length : Int) x15_1 (!t140))) else (yaml_DeriveSeqIndentStyle.j1 k1 t126 ((rdOf ByteArray.empty t130 0).size : Int) (wrap64 ((t136.size : Int) - (t137.size : Int))) t126 (t126.length : Int) x15_1 true))))))) else (yaml_DeriveSeqIndentStyle.l0 k1 t126 t126 (t126.length : Int) (wrap64 (x15_1 + 1))))) else (none)) else (yaml_DeriveSeqIndentStyle.l0 k1 t126 t126 (t126.length : Int) (wrap64 (x15_1 + 1)))) = some r := H
            have A8 := Aside0.mk A80
            clear A80
            by_cases c9 : (t130.length : Int) = 2
            · rw [if_pos c9] at H
              have c9b0 : ((t130.length : Int) == 2) = true := beq_iff_eq.mpr c9
              have c9b1 : ((t130.length : Int) != 2) = false := bne_eq_false_iff_eq.mpr c9
              clear c9
              by_cases c10 : 0 < (t130.length : Int)
              · rw [if_pos c10] at H
                have c10b0 : decide (0 < (t130.length : Int)) = true := decide_eq_true c10
                have c10b1 : decide (0 < t130.length) = true := decide_eq_true (by omega)
                clear c10
                replace H := Option.bind_eq_some_iff.mp H
                obtain ⟨t134, A110, H⟩ := H
                replace H : (if t134.toList = ([] : List UInt8) then ((yaml_keyLineBeforeSeqElem.f k1 t126 x15_1).bind fun t136 => (if t136.toList = ([] : List UInt8) then (yaml_DeriveSeqIndentStyle.l0 k1 t126 t126 (t126.length : Int) (wrap64 (x15_1 + 1))) else ((yaml_zzTrimLeft.f t136 (⟨#[32]⟩ : ByteArray)).bind fun t137 => ((yaml_zzTrim.f k1 t136 (⟨#[32]⟩ : ByteArray)).bind fun t138 => ((yaml_zzCount.f k1 t138 (⟨#[58]⟩ : ByteArray)).bind fun t139 => (if t139 = 1 then ((strings_HasSuffix.f t138 (⟨#[58]⟩ : ByteArray)).bind fun t140 => (yaml_DeriveSeqIndentStyle.j1 k1 t126 ((rdOf ByteArray.empty t130 0).size : Int) (wrap64 ((t136.size : Int) - (t137.size : Int))) t126 (t126.length : Int) x15_1 (!t140))) else (yaml_DeriveSeqIndentStyle.j1 k1 t126 ((rdOf ByteArray.empty t130 0).size : Int) (wrap64 ((t136.size : Int) - (t137.size : Int))) t126 (t126.length : Int) x15_1 true))))))) else (yaml_DeriveSeqIndentStyle.l0 k1 t126 t126 (t126.length : Int) (wrap64 (x15_1 + 1)))) = some r := H
                have A11 := Aside0.mk A110
                clear A110
                by_cases c12 : t134.toList = ([] : List UInt8)
                · rw [if_pos c12] at H
                  have c12b0 : (t134.toList == ([] : List UInt8)) = true := beq_iff_eq.mpr c12
                  have c12b1 : (t134.toList != ([] : List UInt8)) = false := bne_eq_false_iff_eq.mpr c12
                  (try (have c12b2 : t134.toList.isEmpty = true := by simpa using c12))
                  (try (have c12b3 : (!t134.toList.isEmpty) = false := by simpa using c12))
                  clear c12
                  replace H := Option.bind_eq_some_iff.mp H
                  obtain ⟨t136, A130, H⟩ := H
                  replace H : (if t136.toList = ([] : List UInt8) then (yaml_DeriveSeqIndentStyle.l0 k1 t126 t126 (t126.length : Int) (wrap64 (x15_1 + 1))) else ((yaml_zzTrimLeft.f t136 (⟨#[32]⟩ : ByteArray)).bind fun t137 => ((yaml_zzTrim.f k1 t136 (⟨#[32]⟩ : ByteArray)).bind fun t138 => ((yaml_zzCount.f k1 t138 (⟨#[58]⟩ : ByteArray)).bind fun t139 => (if t139 = 1 then ((strings_HasSuffix.f t138 (⟨#[58]⟩ : ByteArray)).bind fun t140 => (yaml_DeriveSeqIndentStyle.j1 k1 t126 ((rdOf ByteArray.empty t130 0).size : Int) (wrap64 ((t136.size : Int) - (t137.size : Int))) t126 (t126.length : Int) x15_1 (!t140))) else (yaml_DeriveSeqIndentStyle.j1 k1 t126 ((rdOf ByteArray.empty t130 0).size : Int) (wrap64 ((t136.size : Int) - (t137.size : Int))) t126 (t126.length : Int) x15_1 true)))))) = some r := H
                  have A13 := Aside0.mk A130
                  clear A130
                  by_cases c14 : t136.toList = ([] : List UInt8)
                  · rw [if_pos c14] at H
                    have c14b0 : (t136.toList == ([] : List UInt8)) = true := beq_iff_eq.mpr c14
                    have c14b1 : (t136.toList != ([] : List UInt8)) = false := bne_eq_false_iff_eq.mpr c14
                    (try (have c14b2 : t136.toList.isEmpty = true := by simpa using c14))
                    (try (have c14b3 : (!t136.toList.isEmpty) = false := by simpa using c14))
                    clear c14
                    have H' := Aside0.mk H
                    clear H
                    have p129 : 0 ≤ (x15_1 : Int) := of_decide_eq_true (by first | (with_reducible assumption) | assumption)
                    have q129 : x15_1 < (t126.length : Int) := of_decide_eq_true (by first | (with_reducible assumption) | assumption)
                    obtain ⟨ad129, e129, hx129_0⟩ := Kd.at_string (Kd.R_reads' HO_13.out).2.2 x15_1 p129 q129
                    cases e129
                    replace p129 := eq_true p129
                    replace q129 := eq_true q129
                    go_wp2_with (first | ((with_reducible refine gate_callee (f := 42) rfl ?_); refine goesL_ (some 21) rfl rfl Try.func42 (by kernel_rfl) rfl #[.string (rdOf ByteArray.empty t126 x15_1), .string (⟨#[45, 32]⟩ : ByteArray)] rfl (by (try simp only [List.map_toArray, List.map_cons, List.map_nil]); first | done | rfl | (simp only [List.length_drop, List.length_take]; rfl)) ?_; (with_reducible refine (yaml_zzSplitTwo.calls k1 (rdOf ByteArray.empty t126 x15_1) (⟨#[45, 32]⟩ : ByteArray) t130 _ A8.out).mono ?_); rintro e w15 ⟨v131, rfl, ho0, hb⟩; refine ⟨_, rfl, ?_⟩; have n0_ := Aside0.mk (Kd.R_elder' (by (with_reducible repeat (first | apply Kd.R_alloc | apply Kd.R_drewN | apply Kd.R_drew)); exact HO_3.out) (Kd.R_base ho0) hb); have n1_ := Aside0.mk (Kd.R_elder' (by (with_reducible repeat (first | apply Kd.R_alloc | apply Kd.R_drewN | apply Kd.R_drew)); exact HO_13.out) (Kd.R_base ho0) hb); have n2_ := Aside0.mk (Kd.R_lower (Kd.R_new' (Kd.R_new' ho0 (Kd.R_lt (by (with_reducible repeat (first | apply Kd.R_alloc | apply Kd.R_drewN | apply Kd.R_drew)); exact HO_3.out))) (Kd.R_lt (by (with_reducible repeat (first | apply Kd.R_alloc | apply Kd.R_drewN | apply Kd.R_drew)); exact HO_13.out))) (below_size (by repeat (first | (with_reducible first | exact HB.out | apply below_alloc | apply pw_below_drewN | apply below_drew1) | exact HB.out)))); have n3_ := Aside0.mk (below_step (by repeat (first | (with_reducible first | exact HB.out | apply below_alloc | apply pw_below_drewN | apply below_drew1) | exact HB.out)) hb); clear HO_3; clear HO_13; clear HB; have HO_3 := n0_; have HO_13 := n1_; have HO132 := n2_; have HB := n3_; clear n0_ n1_ n2_ n3_; (try clear hb); (try clear hb2); (try clear hk); (try clear hi); (try clear ho0); obtain ⟨Ao16, co16, eo16⟩ := Kd.R_slice HO132.out; subst eo16; have p133 : 0 ≤ (0 : Int) := (by omega); have q133 : 0 < (t130.length : Int) := of_decide_eq_true (by first | (with_reducible assumption) | assumption); obtain ⟨ad133, e133, hx133_0⟩ := Kd.at_string (Kd.R_reads' HO132.out).2.2 0 p133 q133; cases e133; have qi133 : (0 < t130.length) = True := eq_true (by omega); (try rw [show ((0 : Int)).toNat = 0 from rfl] at hx133_0); (try rw [Addr.add_zero'] at hx133_0); replace p133 := eq_true p133; replace q133 := eq_true q133) | ((with_reducible refine gate_callee (f := 43) rfl ?_); refine goesL_ (some 28) rfl rfl Try.func43 (by kernel_rfl) rfl #[.string (rdOf ByteArray.empty t130 0), .string (⟨#[32]⟩ : ByteArray)] rfl (by (try simp only [List.map_toArray, List.map_cons, List.map_nil]); first | done | rfl | (simp only [List.length_drop, List.length_take]; rfl)) ?_; (with_reducible refine (yaml_zzTrim.calls k1 (rdOf ByteArray.empty t130 0) (⟨#[32]⟩ : ByteArray) t134 _ A11.out).mono ?_); rintro e w17 ⟨rfl, hb⟩; refine ⟨_, rfl, ?_⟩; have n0_ := Aside0.mk (Kd.R_below (by (with_reducible repeat (first | apply Kd.R_alloc | apply Kd.R_drewN | apply Kd.R_drew)); exact HO_3.out) hb); have n1_ := Aside0.mk (Kd.R_below (by (with_reducible repeat (first | apply Kd.R_alloc | apply Kd.R_drewN | apply Kd.R_drew)); exact HO_13.out) hb); have n2_ := Aside0.mk (Kd.R_below (by (with_reducible repeat (first | apply Kd.R_alloc | apply Kd.R_drewN | apply Kd.R_drew)); exact HO132.out) hb); have n3_ := Aside0.mk (below_step (by repeat (first | (with_reducible first | exact HB.out | apply below_alloc | apply pw_below_drewN | apply below_drew1) | exact HB.out)) hb); clear HO_3; clear HO_13; clear HO132; clear HB; have HO_3 := n0_; have HO_13 := n1_; have HO132 := n2_; have HB := n3_; clear n0_ n1_ n2_ n3_; (try clear hb); (try clear hb2); (try clear hk); (try clear hi); have p135 : 0 ≤ (0 : Int) := (by omega); have q135 : 0 < (t130.length : Int) := of_decide_eq_true (by first | (with_reducible assumption) | assumption); obtain ⟨ad135, e135, hx135_0⟩ := Kd.at_string (Kd.R_reads' HO132.out).2.2 0 p135 q135; obtain rfl : ad133 = ad135 := (by injection e135); have qi135 : (0 < t130.length) = True := eq_true (by omega); (try rw [show ((0 : Int)).toNat = 0 from rfl] at hx135_0); (try rw [Addr.add_zero'] at hx135_0); replace p135 := eq_true p135; replace q135 := eq_true q135) | ((with_reducible refine gate_callee (f := 44) rfl ?_); refine goesL_ (some 36) rfl rfl Try.func44 (by kernel_rfl) rfl #[.slice (some ad129) t126.length co4, .int .i64 x15_1] rfl (by (try simp only [List.map_toArray, List.map_cons, List.map_nil]); first | done | rfl | (simp only [List.length_drop, List.length_take]; rfl)) ?_; (with_reducible refine (yaml_keyLineBeforeSeqElem.calls k1 _ _ t126 x15_1 t136 _ ?side1 ?side2 A13.out).mono ?_); (case side1 => repeat (first | exact (Kd.R_reads' HO_3.out).2.2 | (with_reducible refine Kd.C_alloc ?_ _) | (with_reducible refine Kd.C_drewN ?_ _) | (with_reducible refine Kd.C_drew ?_))); (case side2 => exact (Kd.R_reads' HO_3.out).2.1); rintro e w18 ⟨rfl, hb⟩; refine ⟨_, rfl, ?_⟩; have n0_ := Aside0.mk (Kd.R_below (by (with_reducible repeat (first | apply Kd.R_alloc | apply Kd.R_drewN | apply Kd.R_drew)); exact HO_3.out) hb); have n1_ := Aside0.mk (Kd.R_below (by (with_reducible repeat (first | apply Kd.R_alloc | apply Kd.R_drewN | apply Kd.R_drew)); exact HO_13.out) hb); have n2_ := Aside0.mk (Kd.R_below (by (with_reducible repeat (first | apply Kd.R_alloc | apply Kd.R_drewN | apply Kd.R_drew)); exact HO132.out) hb); have n3_ := Aside0.mk (below_step (by repeat (first | (with_reducible first | exact HB.out | apply below_alloc | apply pw_below_drewN | apply below_drew1) | exact HB.out)) hb); clear HO_3; clear HO_13; clear HO132; clear HB; have HO_3 := n0_; have HO_13 := n1_; have HO132 := n2_; have HB := n3_; clear n0_ n1_ n2_ n3_; (try clear hb); (try clear hb2); (try clear hk); (try clear hi)))
                    go_roundg k1
                    case measure => have := HK1.out; omega
                    case rel => exact ⟨(wrap64 (x15_1 + 1)), (by first | rfl | (simp; done) | (simp [*]; done)), H', ⟨by have := HK1.out; omega⟩, ⟨by (with_reducible repeat (first | apply Kd.R_alloc | apply Kd.R_drewN | apply Kd.R_drew)); exact Kd.R_mono HO_3.out (fun _ hk => trivial)⟩, ⟨by (with_reducible repeat (first | apply Kd.R_alloc | apply Kd.R_drewN | apply Kd.R_drew)); exact Kd.R_mono HO_13.out (fun _ hk => trivial)⟩, ⟨by repeat (first | (with_reducible first | exact HB.out | apply below_alloc | apply pw_below_drewN | apply below_drew1) | exact HB.out)⟩⟩
                  · rw [if_neg c14] at H
                    have c14b0 : (t136.toList == ([] : List UInt8)) = false := beq_eq_false_iff_ne.mpr c14
                    have c14b1 : (t136.toList != ([] : List UInt8)) = true := bne_iff_ne.mpr c14
                    (try (have c14b2 : t136.toList.isEmpty = false := by simpa using c14))
                    (try (have c14b3 : (!t136.toList.isEmpty) = true := by simpa using c14))
                    replace H := Option.bind_eq_some_iff.mp H
                    obtain ⟨t137, A190, H⟩ := H
                    replace H : ((yaml_zzTrim.f k1 t136 (⟨#[32]⟩ : ByteArray)).bind fun t138 => ((yaml_zzCount.f k1 t138 (⟨#[58]⟩ : ByteArray)).bind fun t139 => (if t139 = 1 then ((strings_HasSuffix.f t138 (⟨#[58]⟩ : ByteArray)).bind fun t140 => (yaml_DeriveSeqIndentStyle.j1 k1 t126 ((rdOf ByteArray.empty t130 0).size : Int) (wrap64 ((t136.size : Int) - (t137.size : Int))) t126 (t126.length : Int) x15_1 (!t140))) else (yaml_DeriveSeqIndentStyle.j1 k1 t126 ((rdOf ByteArray.empty t130 0).size : Int) (wrap64 ((t136.size : Int) - (t137.size : Int))) t126 (t126.length : Int) x15_1 true)))) = some r := H
                    have A19 := Aside0.mk A190
                    clear A190
                    replace H := Option.bind_eq_some_iff.mp H
                    obtain ⟨t138, A200, H⟩ := H
                    replace H : ((yaml_zzCount.f k1 t138 (⟨#[58]⟩ : ByteArray)).bind fun t139 => (if t139 = 1 then ((strings_HasSuffix.f t138 (⟨#[58]⟩ : ByteArray)).bind fun t140 => (yaml_DeriveSeqIndentStyle.j1 k1 t126 ((rdOf ByteArray.empty t130 0).size : Int) (wrap64 ((t136.size : Int) - (t137.size : Int))) t126 (t126.length : Int) x15_1 (!t140))) else (yaml_DeriveSeqIndentStyle.j1 k1 t126 ((rdOf ByteArray.empty t130 0).size : Int) (wrap64 ((t136.size : Int) - (t137.size : Int))) t126 (t126.length : Int) x15_1 true))) = some r := H
                    have A20 := Aside0.mk A200
                    clear A200
                    have HC21 := Aside0.mk H
                    clear H
                    have p129 : 0 ≤ (x15_1 : Int) := of_decide_eq_true (by first | (with_reducible assumption) | assumption)
                    have q129 : x15_1 < (t126.length : Int) := of_decide_eq_true (by first | (with_reducible assumption) | assumption)
                    obtain ⟨ad129, e129, hx129_0⟩ := Kd.at_string (Kd.R_reads' HO_13.out).2.2 x15_1 p129 q129
                    cases e129
                    replace p129 := eq_true p129
                    replace q129 := eq_true q129
                    go_upto_region 13 with (first | ((with_reducible refine gate_callee (f := 42) rfl ?_); refine goesL_ (some 21) rfl rfl Try.func42 (by kernel_rfl) rfl #[.string (rdOf ByteArray.empty t126 x15_1), .string (⟨#[45, 32]⟩ : ByteArray)] rfl (by (try simp only [List.map_toArray, List.map_cons, List.map_nil]); first | done | rfl | (simp only [List.length_drop, List.length_take]; rfl)) ?_; (with_reducible refine (yaml_zzSplitTwo.calls k1 (rdOf ByteArray.empty t126 x15_1) (⟨#[45, 32]⟩ : ByteArray) t130 _ A8.out).mono ?_); rintro e w22 ⟨v131, rfl, ho0, hb⟩; refine ⟨_, rfl, ?_⟩; have n0_ := Aside0.mk (Kd.R_elder' (by (with_reducible repeat (first | apply Kd.R_alloc | apply Kd.R_drewN | apply Kd.R_drew)); exact HO_3.out) (Kd.R_base ho0) hb); have n1_ := Aside0.mk (Kd.R_elder' (by (with_reducible repeat (first | apply Kd.R_alloc | apply Kd.R_drewN | apply Kd.R_drew)); exact HO_13.out) (Kd.R_base ho0) hb); have n2_ := Aside0.mk (Kd.R_lower (Kd.R_new' (Kd.R_new' ho0 (Kd.R_lt (by (with_reducible repeat (first | apply Kd.R_alloc | apply Kd.R_drewN | apply Kd.R_drew)); exact HO_3.out))) (Kd.R_lt (by (with_reducible repeat (first | apply Kd.R_alloc | apply Kd.R_drewN | apply Kd.R_drew)); exact HO_13.out))) (below_size (by repeat (first | (with_reducible first | exact HB.out | apply below_alloc | apply pw_below_drewN | apply below_drew1) | exact HB.out)))); have n3_ := Aside0.mk (below_step (by repeat (first | (with_reducible first | exact HB.out | apply below_alloc | apply pw_below_drewN | apply below_drew1) | exact HB.out)) hb); clear HO_3; clear HO_13; clear HB; have HO_3 := n0_; have HO_13 := n1_; have HO132 := n2_; have HB := n3_; clear n0_ n1_ n2_ n3_; (try clear hb); (try clear hb2); (try clear hk); (try clear hi); (try clear ho0); obtain ⟨Ao23, co23, eo23⟩ := Kd.R_slice HO132.out; subst eo23; have p133 : 0 ≤ (0 : Int) := (by omega); have q133 : 0 < (t130.length : Int) := of_decide_eq_true (by first | (with_reducible assumption) | assumption); obtain ⟨ad133, e133, hx133_0⟩ := Kd.at_string (Kd.R_reads' HO132.out).2.2 0 p133 q133; cases e133; have qi133 : (0 < t130.length) = True := eq_true (by omega); (try rw [show ((0 : Int)).toNat = 0 from rfl] at hx133_0); (try rw [Addr.add_zero'] at hx133_0); replace p133 := eq_true p133; replace q133 := eq_true q133) | ((with_reducible refine gate_callee (f := 43) rfl ?_); refine goesL_ (some 28) rfl rfl Try.func43 (by kernel_rfl) rfl #[.string (rdOf ByteArray.empty t130 0), .string (⟨#[32]⟩ : ByteArray)] rfl (by (try simp only [List.map_toArray, List.map_cons, List.map_nil]); first | done | rfl | (simp only [List.length_drop, List.length_take]; rfl)) ?_; (with_reducible refine (yaml_zzTrim.calls k1 (rdOf ByteArray.empty t130 0) (⟨#[32]⟩ : ByteArray) t134 _ A11.out).mono ?_); rintro e w24 ⟨rfl, hb⟩; refine ⟨_, rfl, ?_⟩; have n0_ := Aside0.mk (Kd.R_below (by (with_reducible repeat (first | apply Kd.R_alloc | apply Kd.R_drewN | apply Kd.R_drew)); exact HO_3.out) hb); have n1_ := Aside0.mk (Kd.R_below (by (with_reducible repeat (first | apply Kd.R_alloc | apply Kd.R_drewN | apply Kd.R_drew)); exact HO_13.out) hb); have n2_ := Aside0.mk (Kd.R_below (by (with_reducible repeat (first | apply Kd.R_alloc | apply Kd.R_drewN | apply Kd.R_drew)); exact HO132.out) hb); have n3_ := Aside0.mk (below_step (by repeat (first | (with_reducible first | exact HB.out | apply below_alloc | apply pw_below_drewN | apply below_drew1) | exact HB.out)) hb); clear HO_3; clear HO_13; clear HO132; clear HB; have HO_3 := n0_; have HO_13 := n1_; have HO132 := n2_; have HB := n3_; clear n0_ n1_ n2_ n3_; (try clear hb); (try clear hb2); (try clear hk); (try clear hi); have p135 : 0 ≤ (0 : Int) := (by omega); have q135 : 0 < (t130.length : Int) := of_decide_eq_true (by first | (with_reducible assumption) | assumption); obtain ⟨ad135, e135, hx135_0⟩ := Kd.at_string (Kd.R_reads' HO132.out).2.2 0 p135 q135; obtain rfl : ad133 = ad135 := (by injection e135); have qi135 : (0 < t130.length) = True := eq_true (by omega); (try rw [show ((0 : Int)).toNat = 0 from rfl] at hx135_0); (try rw [Addr.add_zero'] at hx135_0); replace p135 := eq_true p135; replace q135 := eq_true q135) | ((with_reducible refine gate_callee (f := 44) rfl ?_); refine goesL_ (some 36) rfl rfl Try.func44 (by kernel_rfl) rfl #[.slice (some ad129) t126.length co4, .int .i64 x15_1] rfl (by (try simp only [List.map_toArray, List.map_cons, List.map_nil]); first | done | rfl | (simp only [List.length_drop, List.length_take]; rfl)) ?_; (with_reducible refine (yaml_keyLineBeforeSeqElem.calls k1 _ _ t126 x15_1 t136 _ ?side1 ?side2 A13.out).mono ?_); (case side1 => repeat (first | exact (Kd.R_reads' HO_3.out).2.2 | (with_reducible refine Kd.C_alloc ?_ _) | (with_reducible refine Kd.C_drewN ?_ _) | (with_reducible refine Kd.C_drew ?_))); (case side2 => exact (Kd.R_reads' HO_3.out).2.1); rintro e w25 ⟨rfl, hb⟩; refine ⟨_, rfl, ?_⟩; have n0_ := Aside0.mk (Kd.R_below (by (with_reducible repeat (first | apply Kd.R_alloc | apply Kd.R_drewN | apply Kd.R_drew)); exact HO_3.out) hb); have n1_ := Aside0.mk (Kd.R_below (by (with_reducible repeat (first | apply Kd.R_alloc | apply Kd.R_drewN | apply Kd.R_drew)); exact HO_13.out) hb); have n2_ := Aside0.mk (Kd.R_below (by (with_reducible repeat (first | apply Kd.R_alloc | apply Kd.R_drewN | apply Kd.R_drew)); exact HO132.out) hb); have n3_ := Aside0.mk (below_step (by repeat (first | (with_reducible first | exact HB.out | apply below_alloc | apply pw_below_drewN | apply below_drew1) | exact HB.out)) hb); clear HO_3; clear HO_13; clear HO132; clear HB; have HO_3 := n0_; have HO_13 := n1_; have HO132 := n2_; have HB := n3_; clear n0_ n1_ n2_ n3_; (try clear hb); (try clear hb2); (try clear hk); (try clear hi)) | ((with_reducible refine gate_callee (f := 45) rfl ?_); refine goesL_ (some 42) rfl rfl Try.func45 (by kernel_rfl) rfl #[.string t136, .string (⟨#[32]⟩ : ByteArray)] rfl (by (try simp only [List.map_toArray, List.map_cons, List.map_nil]); first | done | rfl | (simp only [List.length_drop, List.length_take]; rfl)) ?_; (with_reducible refine (yaml_zzTrimLeft.calls t136 (⟨#[32]⟩ : ByteArray) t137 _ A19.out).mono ?_); rintro e w26 ⟨rfl, hb⟩; refine ⟨_, rfl, ?_⟩; have n0_ := Aside0.mk (Kd.R_below (by (with_reducible repeat (first | apply Kd.R_alloc | apply Kd.R_drewN | apply Kd.R_drew)); exact HO_3.out) hb); have n1_ := Aside0.mk (Kd.R_below (by (with_reducible repeat (first | apply Kd.R_alloc | apply Kd.R_drewN | apply Kd.R_drew)); exact HO_13.out) hb); have n2_ := Aside0.mk (Kd.R_below (by (with_reducible repeat (first | apply Kd.R_alloc | apply Kd.R_drewN | apply Kd.R_drew)); exact HO132.out) hb); have n3_ := Aside0.mk (below_step (by repeat (first | (with_reducible first | exact HB.out | apply below_alloc | apply pw_below_drewN | apply below_drew1) | exact HB.out)) hb); clear HO_3; clear HO_13; clear HO132; clear HB; have HO_3 := n0_; have HO_13 := n1_; have HO132 := n2_; have HB := n3_; clear n0_ n1_ n2_ n3_; (try clear hb); (try clear hb2); (try clear hk); (try clear hi)) | ((with_reducible refine gate_callee (f := 43) rfl ?_); refine goesL_ (some 46) rfl rfl Try.func43 (by kernel_rfl) rfl #[.string t136, .string (⟨#[32]⟩ : ByteArray)] rfl (by (try simp only [List.map_toArray, List.map_cons, List.map_nil]); first | done | rfl | (simp only [List.length_drop, List.length_take]; rfl)) ?_; (with_reducible refine (yaml_zzTrim.calls k1 t136 (⟨#[32]⟩ : ByteArray) t138 _ A20.out).mono ?_); rintro e w27 ⟨rfl, hb⟩; refine ⟨_, rfl, ?_⟩; have n0_ := Aside0.mk (Kd.R_below (by (with_reducible repeat (first | apply Kd.R_alloc | apply Kd.R_drewN | apply Kd.R_drew)); exact HO_3.out) hb); have n1_ := Aside0.mk (Kd.R_below (by (with_reducible repeat (first | apply Kd.R_alloc | apply Kd.R_drewN | apply Kd.R_drew)); exact HO_13.out) hb); have n2_ := Aside0.mk (Kd.R_below (by (with_reducible repeat (first | apply Kd.R_alloc | apply Kd.R_drewN | apply Kd.R_drew)); exact HO132.out) hb); have n3_ := Aside0.mk (below_step (by repeat (first | (with_reducible first | exact HB.out | apply below_alloc | apply pw_below_drewN | apply below_drew1) | exact HB.out)) hb); clear HO_3; clear HO_13; clear HO132; clear HB; have HO_3 := n0_; have HO_13 := n1_; have HO132 := n2_; have HB := n3_; clear n0_ n1_ n2_ n3_; (try clear hb); (try clear hb2); (try clear hk); (try clear hi)))
                    (try simp only [Act.put, List.setIfInBounds_toArray, List.set_cons_zero, List.set_cons_succ])
                    go_cut [54] (fun v54 wc => ∃ (kq : Nat) (x54_20 : Bool), v54 = .bool x54_20 ∧ Aside0 (yaml_DeriveSeqIndentStyle.j1 kq t126 ((rdOf ByteArray.empty t130 0).size : Int) (wrap64 ((t136.size : Int) - (t137.size : Int))) t126 (t126.length : Int) x15_1 x54_20 = some r) ∧ Aside0 (kq ≤ k1) ∧ Aside0 (Kd.R Kd.string 9 wc w.heap.size (fun _ => True) (.slice (some ad129) t126.length co4) t126) ∧ Aside0 (Kd.R Kd.string 9 wc w.heap.size (fun _ => True) (.slice (some ad129) t126.length co4) t126) ∧ Aside0 (Below w.heap.size w wc))
                    case first =>
                      have H := HC21.out
                      clear HC21
                      replace H := Option.bind_eq_some_iff.mp H
                      obtain ⟨t139, A280, H⟩ := H
                      replace H : (if t139 = 1 then ((strings_HasSuffix.f t138 (⟨#[58]⟩ : ByteArray)).bind fun t140 => (yaml_DeriveSeqIndentStyle.j1 k1 t126 ((rdOf ByteArray.empty t130 0).size : Int) (wrap64 ((t136.size : Int) - (t137.size : Int))) t126 (t126.length : Int) x15_1 (!t140))) else (yaml_DeriveSeqIndentStyle.j1 k1 t126 ((rdOf ByteArray.empty t130 0).size : Int) (wrap64 ((t136.size : Int) - (t137.size : Int))) t126 (t126.length : Int) x15_1 true)) = some r := H
                      have A28 := Aside0.mk A280
                      clear A280
                      by_cases c29 : t139 = 1
                      · rw [if_pos c29] at H
                        have c29b0 : (t139 == 1) = true := beq_iff_eq.mpr c29
                        have c29b1 : (t139 != 1) = false := bne_eq_false_iff_eq.mpr c29
                        clear c29
                        (first | rw [c29b0] | (simp only [i64_w, i32_w]; rw [c29b0]) | rw [c29b3] | skip)
                        replace H := Option.bind_eq_some_iff.mp H
                        obtain ⟨t140, A300, H⟩ := H
                        replace H : (yaml_DeriveSeqIndentStyle.j1 k1 t126 ((rdOf ByteArray.empty t130 0).size : Int) (wrap64 ((t136.size : Int) - (t137.size : Int))) t126 (t126.length : Int) x15_1 (!t140)) = some r := H
                        have A30 := Aside0.mk A300
                        clear A300
                        have H' := Aside0.mk H
                        clear H
                        go_wp2_with (first | ((with_reducible refine gate_callee (f := 46) rfl ?_); refine goesL_ (some 48) rfl rfl Try.func46 (by kernel_rfl) rfl #[.string t138, .string (⟨#[58]⟩ : ByteArray)] rfl (by (try simp only [List.map_toArray, List.map_cons, List.map_nil]); first | done | rfl | (simp only [List.length_drop, List.length_take]; rfl)) ?_; (with_reducible refine (yaml_zzCount.calls k1 t138 (⟨#[58]⟩ : ByteArray) t139 _ A28.out).mono ?_); rintro e w' ⟨rfl, ⟨nd, rfl⟩⟩; refine ⟨_, rfl, ?_⟩) | (go_at_call 47; (with_reducible refine (strings_HasSuffix.calls t138 (⟨#[58]⟩ : ByteArray) t140 _ A30.out).mono ?_); rintro e w' ⟨rfl, ⟨nd, rfl⟩⟩))
                        go_meet
                        case rel => exact ⟨_, (!t140), (by first | rfl | (simp; done) | (simp [*]; done)), H', ⟨by have := HK1.out; first | omega | exact Nat.le_refl _⟩, ⟨by (with_reducible repeat (first | apply Kd.R_alloc | apply Kd.R_drewN | apply Kd.R_drew)); exact Kd.R_mono HO_3.out (fun _ hk => trivial)⟩, ⟨by (with_reducible repeat (first | apply Kd.R_alloc | apply Kd.R_drewN | apply Kd.R_drew)); exact Kd.R_mono HO_13.out (fun _ hk => trivial)⟩, ⟨by repeat (first | (with_reducible first | exact HB.out | apply below_alloc | apply pw_below_drewN | apply below_drew1) | exact HB.out)⟩⟩
                      · rw [if_neg c29] at H
                        have c29b0 : (t139 == 1) = false := beq_eq_false_iff_ne.mpr c29
                        have c29b1 : (t139 != 1) = true := bne_iff_ne.mpr c29
                        (first | rw [c29b0] | (simp only [i64_w, i32_w]; rw [c29b0]) | rw [c29b3] | skip)
                        have H' := Aside0.mk H
                        clear H
                        go_wp2_with (first | ((with_reducible refine gate_callee (f := 46) rfl ?_); refine goesL_ (some 48) rfl rfl Try.func46 (by kernel_rfl) rfl #[.string t138, .string (⟨#[58]⟩ : ByteArray)] rfl (by (try simp only [List.map_toArray, List.map_cons, List.map_nil]); first | done | rfl | (simp only [List.length_drop, List.length_take]; rfl)) ?_; (with_reducible refine (yaml_zzCount.calls k1 t138 (⟨#[58]⟩ : ByteArray) t139 _ A28.out).mono ?_); rintro e w' ⟨rfl, ⟨nd, rfl⟩⟩; refine ⟨_, rfl, ?_⟩))
                        go_meet
                        case rel => exact ⟨_, (true), (by first | rfl | (simp; done) | (simp [*]; done)), H', ⟨by have := HK1.out; first | omega | exact Nat.le_refl _⟩, ⟨by (with_reducible repeat (first | apply Kd.R_alloc | apply Kd.R_drewN | apply Kd.R_drew)); exact Kd.R_mono HO_3.out (fun _ hk => trivial)⟩, ⟨by (with_reducible repeat (first | apply Kd.R_alloc | apply Kd.R_drewN | apply Kd.R_drew)); exact Kd.R_mono HO_13.out (fun _ hk => trivial)⟩, ⟨by repeat (first | (with_reducible first | exact HB.out | apply below_alloc | apply pw_below_drewN | apply below_drew1) | exact HB.out)⟩⟩
                    case rest =>
                      clear HC21
                      try clear c1
                      try clear p1
                      try clear q1
                      try clear hx1
                      try clear qi1
                      try clear c2
                      try clear p2
                      try clear c4
                      try clear c5
                      try clear c5b0
                      try clear c6
                      try clear c6b0
                      try clear p6
                      try clear c7
                      try clear c7b0
                      try clear c9
                      try clear c9b0
                      try clear c9b1
                      try clear c10
                      try clear c10b0
                      try clear c10b1
                      try clear c12
                      try clear c12b0
                      try clear c12b1
                      try clear c12b2
                      try clear p12
                      try clear q12
                      try clear hx12
                      try clear p13
                      try clear q13
                      try clear hx13
                      try clear qi13
                      try clear c14
                      try clear c14b0
                      try clear c14b1
                      try clear c14b2
                      try clear c27
                      try clear c29
                      try clear c29b0
                      try clear c29b1
                      try clear hx129_0
                      try clear hx133_0
                      try clear hx135_0
                      try clear p129
                      try clear p133
                      try clear p135
                      try clear p2
                      try clear q129
                      try clear q133
                      try clear q135
                      obtain ⟨kq, x54_20, rfl, HA, HJ20, HO_3, HO_13, HB⟩ := hcut
                      cases kq with
                      | zero => exact absurd HA.out (by simp [yaml_DeriveSeqIndentStyle.j1])
                      | succ kj20 =>
                        have H := HA.out
                        clear HA
                        simp only [yaml_DeriveSeqIndentStyle.j1] at H
                        by_cases c31 : x54_20 = true
                        · subst c31
                          have H1 : (yaml_DeriveSeqIndentStyle.l0 kj20 t126 t126 (t126.length : Int) (wrap64 (x15_1 + 1))) = some r := by rw [if_pos rfl] at H; exact H
                          clear H
                          have H := H1
                          clear H1
                          have H' := Aside0.mk H
                          clear H
                          go_wp2
                          go_roundg kj20
                          case measure => have := HK1.out; have := HJ20.out; omega
                          case rel => exact ⟨(wrap64 (x15_1 + 1)), (by first | rfl | (simp; done) | (simp [*]; done)), H', ⟨by have := HK1.out; have := HJ20.out; omega⟩, ⟨by (with_reducible repeat (first | apply Kd.R_alloc | apply Kd.R_drewN | apply Kd.R_drew)); exact HO_3.out⟩, ⟨by (with_reducible repeat (first | apply Kd.R_alloc | apply Kd.R_drewN | apply Kd.R_drew)); exact HO_13.out⟩, ⟨by repeat (first | (with_reducible first | exact HB.out | apply below_alloc | apply pw_below_drewN | apply below_drew1) | exact HB.out)⟩⟩
                        · replace c31 := Bool.eq_false_iff.mpr c31
                          subst c31
                          have H1 : (if ((rdOf ByteArray.empty t130 0).size : Int) = (wrap64 ((t136.size : Int) - (t137.size : Int))) then (some (⟨#[99, 111, 109, 112, 97, 99, 116]⟩ : ByteArray)) else (if (wrap64 (((rdOf ByteArray.empty t130 0).size : Int) - (wrap64 ((t136.size : Int) - (t137.size : Int))))) = 2 then (some (⟨#[119, 105, 100, 101]⟩ : ByteArray)) else (yaml_DeriveSeqIndentStyle.l0 kj20 t126 t126 (t126.length : Int) (wrap64 (x15_1 + 1))))) = some r := by rw [if_neg (show ¬ (false = true) by decide)] at H; exact H
                          clear H
                          have H := H1
                          clear H1
                          by_cases c32 : ((rdOf ByteArray.empty t130 0).size : Int) = (wrap64 ((t136.size : Int) - (t137.size : Int)))
                          · rw [if_pos c32] at H
                            have c32b0 : (((rdOf ByteArray.empty t130 0).size : Int) == (wrap64 ((t136.size : Int) - (t137.size : Int)))) = true := beq_iff_eq.mpr c32
                            have c32b1 : (((rdOf ByteArray.empty t130 0).size : Int) != (wrap64 ((t136.size : Int) - (t137.size : Int)))) = false := bne_eq_false_iff_eq.mpr c32
                            clear c32
                            obtain rfl := Option.some.inj H
                            go_wp2
                            go_ret
                            exact ⟨by first | rfl | (simp [errW_none, errW_some] <;> rfl) | (simp [*, errW_none, errW_some] <;> rfl), by repeat (first | (with_reducible first | exact HB.out | apply below_alloc | apply pw_below_drewN | apply below_drew1) | exact HB.out)⟩
                          · rw [if_neg c32] at H
                            have c32b0 : (((rdOf ByteArray.empty t130 0).size : Int) == (wrap64 ((t136.size : Int) - (t137.size : Int)))) = false := beq_eq_false_iff_ne.mpr c32
                            have c32b1 : (((rdOf ByteArray.empty t130 0).size : Int) != (wrap64 ((t136.size : Int) - (t137.size : Int)))) = true := bne_iff_ne.mpr c32
                            by_cases c33 : (wrap64 (((rdOf ByteArray.empty t130 0).size : Int) - (wrap64 ((t136.size : Int) - (t137.size : Int))))) = 2
                            · rw [if_pos c33] at H
                              have c33b0 : ((wrap64 (((rdOf ByteArray.empty t130 0).size : Int) - (wrap64 ((t136.size : Int) - (t137.size : Int))))) == 2) = true := beq_iff_eq.mpr c33
                              have c33b1 : ((wrap64 (((rdOf ByteArray.empty t130 0).size : Int) - (wrap64 ((t136.size : Int) - (t137.size : Int))))) != 2) = false := bne_eq_false_iff_eq.mpr c33
                              clear c33
                              obtain rfl := Option.some.inj H
                              go_wp2
                              go_ret
                              exact ⟨by first | rfl | (simp [errW_none, errW_some] <;> rfl) | (simp [*, errW_none, errW_some] <;> rfl), by repeat (first | (with_reducible first | exact HB.out | apply below_alloc | apply pw_below_drewN | apply below_drew1) | exact HB.out)⟩
                            · rw [if_neg c33] at H
                              have c33b0 : ((wrap64 (((rdOf ByteArray.empty t130 0).size : Int) - (wrap64 ((t136.size : Int) - (t137.size : Int))))) == 2) = false := beq_eq_false_iff_ne.mpr c33
                              have c33b1 : ((wrap64 (((rdOf ByteArray.empty t130 0).size : Int) - (wrap64 ((t136.size : Int) - (t137.size : Int))))) != 2) = true := bne_iff_ne.mpr c33
                              have H' := Aside0.mk H
                              clear H
                              go_wp2
                              go_roundg kj20
                              case measure => have := HK1.out; have := HJ20.out; omega
                              case rel => exact ⟨(wrap64 (x15_1 + 1)), (by first | rfl | (simp; done) | (simp [*]; done)), H', ⟨by have := HK1.out; have := HJ20.out; omega⟩, ⟨by (with_reducible repeat (first | apply Kd.R_alloc | apply Kd.R_drewN | apply Kd.R_drew)); exact HO_3.out⟩, ⟨by (with_reducible repeat (first | apply Kd.R_alloc | apply Kd.R_drewN | apply Kd.R_drew)); exact HO_13.out⟩, ⟨by repeat (first | (with_reducible first | exact HB.out | apply below_alloc | apply pw_below_drewN | apply below_drew1) | exact HB.out)⟩⟩
                · rw [if_neg c12] at H
                  have c12b0 : (t134.toList == ([] : List UInt8)) = false := beq_eq_false_iff_ne.mpr c12
                  have c12b1 : (t134.toList != ([] : List UInt8)) = true := bne_iff_ne.mpr c12
                  (try (have c12b2 : t134.toList.isEmpty = false := by simpa using c12))
                  (try (have c12b3 : (!t134.toList.isEmpty) = true := by simpa using c12))
                  have H' := Aside0.mk H
                  clear H
                  have p129 : 0 ≤ (x15_1 : Int) := of_decide_eq_true (by first | (with_reducible assumption) | assumption)
                  have q129 : x15_1 < (t126.length : Int) := of_decide_eq_true (by first | (with_reducible assumption) | assumption)
                  obtain ⟨ad129, e129, hx129_0⟩ := Kd.at_string (Kd.R_reads' HO_13.out).2.2 x15_1 p129 q129
                  cases e129
                  replace p129 := eq_true p129
                  replace q129 := eq_true q129
                  go_wp2_with (first | ((with_reducible refine gate_callee (f := 42) rfl ?_); refine goesL_ (some 21) rfl rfl Try.func42 (by kernel_rfl) rfl #[.string (rdOf ByteArray.empty t126 x15_1), .string (⟨#[45, 32]⟩ : ByteArray)] rfl (by (try simp only [List.map_toArray, List.map_cons, List.map_nil]); first | done | rfl | (simp only [List.length_drop, List.length_take]; rfl)) ?_; (with_reducible refine (yaml_zzSplitTwo.calls k1 (rdOf ByteArray.empty t126 x15_1) (⟨#[45, 32]⟩ : ByteArray) t130 _ A8.out).mono ?_); rintro e w34 ⟨v131, rfl, ho0, hb⟩; refine ⟨_, rfl, ?_⟩; have n0_ := Aside0.mk (Kd.R_elder' (by (with_reducible repeat (first | apply Kd.R_alloc | apply Kd.R_drewN | apply Kd.R_drew)); exact HO_3.out) (Kd.R_base ho0) hb); have n1_ := Aside0.mk (Kd.R_elder' (by (with_reducible repeat (first | apply Kd.R_alloc | apply Kd.R_drewN | apply Kd.R_drew)); exact HO_13.out) (Kd.R_base ho0) hb); have n2_ := Aside0.mk (Kd.R_lower (Kd.R_new' (Kd.R_new' ho0 (Kd.R_lt (by (with_reducible repeat (first | apply Kd.R_alloc | apply Kd.R_drewN | apply Kd.R_drew)); exact HO_3.out))) (Kd.R_lt (by (with_reducible repeat (first | apply Kd.R_alloc | apply Kd.R_drewN | apply Kd.R_drew)); exact HO_13.out))) (below_size (by repeat (first | (with_reducible first | exact HB.out | apply below_alloc | apply pw_below_drewN | apply below_drew1) | exact HB.out)))); have n3_ := Aside0.mk (below_step (by repeat (first | (with_reducible first | exact HB.out | apply below_alloc | apply pw_below_drewN | apply below_drew1) | exact HB.out)) hb); clear HO_3; clear HO_13; clear HB; have HO_3 := n0_; have HO_13 := n1_; have HO132 := n2_; have HB := n3_; clear n0_ n1_ n2_ n3_; (try clear hb); (try clear hb2); (try clear hk); (try clear hi); (try clear ho0); obtain ⟨Ao35, co35, eo35⟩ := Kd.R_slice HO132.out; subst eo35; have p133 : 0 ≤ (0 : Int) := (by omega); have q133 : 0 < (t130.length : Int) := of_decide_eq_true (by first | (with_reducible assumption) | assumption); obtain ⟨ad133, e133, hx133_0⟩ := Kd.at_string (Kd.R_reads' HO132.out).2.2 0 p133 q133; cases e133; have qi133 : (0 < t130.length) = True := eq_true (by omega); (try rw [show ((0 : Int)).toNat = 0 from rfl] at hx133_0); (try rw [Addr.add_zero'] at hx133_0); replace p133 := eq_true p133; replace q133 := eq_true q133) | ((with_reducible refine gate_callee (f := 43) rfl ?_); refine goesL_ (some 28) rfl rfl Try.func43 (by kernel_rfl) rfl #[.string (rdOf ByteArray.empty t130 0), .string (⟨#[32]⟩ : ByteArray)] rfl (by (try simp only [List.map_toArray, List.map_cons, List.map_nil]); first | done | rfl | (simp only [List.length_drop, List.length_take]; rfl)) ?_; (with_reducible refine (yaml_zzTrim.calls k1 (rdOf ByteArray.empty t130 0) (⟨#[32]⟩ : ByteArray) t134 _ A11.out).mono ?_); rintro e w36 ⟨rfl, hb⟩; refine ⟨_, rfl, ?_⟩; have n0_ := Aside0.mk (Kd.R_below (by (with_reducible repeat (first | apply Kd.R_alloc | apply Kd.R_drewN | apply Kd.R_drew)); exact HO_3.out) hb); have n1_ := Aside0.mk (Kd.R_below (by (with_reducible repeat (first | apply Kd.R_alloc | apply Kd.R_drewN | apply Kd.R_drew)); exact HO_13.out) hb); have n2_ := Aside0.mk (Kd.R_below (by (with_reducible repeat (first | apply Kd.R_alloc | apply Kd.R_drewN | apply Kd.R_drew)); exact HO132.out) hb); have n3_ := Aside0.mk (below_step (by repeat (first | (with_reducible first | exact HB.out | apply below_alloc | apply pw_below_drewN | apply below_drew1) | exact HB.out)) hb); clear HO_3; clear HO_13; clear HO132; clear HB; have HO_3 := n0_; have HO_13 := n1_; have HO132 := n2_; have HB := n3_; clear n0_ n1_ n2_ n3_; (try clear hb); (try clear hb2); (try clear hk); (try clear hi)))
                  go_roundg k1
                  case measure => have := HK1.out; omega
                  case rel => exact ⟨(wrap64 (x15_1 + 1)), (by first | rfl | (simp; done) | (simp [*]; done)), H', ⟨by have := HK1.out; omega⟩, ⟨by (with_reducible repeat (first | apply Kd.R_alloc | apply Kd.R_drewN | apply Kd.R_drew)); exact Kd.R_mono HO_3.out (fun _ hk => trivial)⟩, ⟨by (with_reducible repeat (first | apply Kd.R_alloc | apply Kd.R_drewN | apply Kd.R_drew)); exact Kd.R_mono HO_13.out (fun _ hk => trivial)⟩, ⟨by repeat (first | (with_reducible first | exact HB.out | apply below_alloc | apply pw_below_drewN | apply below_drew1) | exact HB.out)⟩⟩
              · rw [if_neg c10] at H
                exact absurd H (by simp)
            · rw [if_neg c9] at H
              have c9b0 : ((t130.length : Int) == 2) = false := beq_eq_false_iff_ne.mpr c9
              have c9b1 : ((t130.length : Int) != 2) = true := bne_iff_ne.mpr c9
              have H' := Aside0.mk H
              clear H
              have p129 : 0 ≤ (x15_1 : Int) := of_decide_eq_true (by first | (with_reducible assumption) | assumption)
              have q129 : x15_1 < (t126.length : Int) := of_decide_eq_true (by first | (with_reducible assumption) | assumption)
              obtain ⟨ad129, e129, hx129_0⟩ := Kd.at_string (Kd.R_reads' HO_13.out).2.2 x15_1 p129 q129
              cases e129
              replace p129 := eq_true p129
              replace q129 := eq_true q129
              go_wp2_with (first | ((with_reducible refine gate_callee (f := 42) rfl ?_); refine goesL_ (some 21) rfl rfl Try.func42 (by kernel_rfl) rfl #[.string (rdOf ByteArray.empty t126 x15_1), .string (⟨#[45, 32]⟩ : ByteArray)] rfl (by (try simp only [List.map_toArray, List.map_cons, List.map_nil]); first | done | rfl | (simp only [List.length_drop, List.length_take]; rfl)) ?_; (with_reducible refine (yaml_zzSplitTwo.calls k1 (rdOf ByteArray.empty t126 x15_1) (⟨#[45, 32]⟩ : ByteArray) t130 _ A8.out).mono ?_); rintro e w37 ⟨v131, rfl, ho0, hb⟩; refine ⟨_, rfl, ?_⟩; have n0_ := Aside0.mk (Kd.R_elder' (by (with_reducible repeat (first | apply Kd.R_alloc | apply Kd.R_drewN | apply Kd.R_drew)); exact HO_3.out) (Kd.R_base ho0) hb); have n1_ := Aside0.mk (Kd.R_elder' (by (with_reducible repeat (first | apply Kd.R_alloc | apply Kd.R_drewN | apply Kd.R_drew)); exact HO_13.out) (Kd.R_base ho0) hb); have n2_ := Aside0.mk (Kd.R_lower (Kd.R_new' (Kd.R_new' ho0 (Kd.R_lt (by (with_reducible repeat (first | apply Kd.R_alloc | apply Kd.R_drewN | apply Kd.R_drew)); exact HO_3.out))) (Kd.R_lt (by (with_reducible repeat (first | apply Kd.R_alloc | apply Kd.R_drewN | apply Kd.R_drew)); exact HO_13.out))) (below_size (by repeat (first | (with_reducible first | exact HB.out | apply below_alloc | apply pw_below_drewN | apply below_drew1) | exact HB.out)))); have n3_ := Aside0.mk (below_step (by repeat (first | (with_reducible first | exact HB.out | apply below_alloc | apply pw_below_drewN | apply below_drew1) | exact HB.out)) hb); clear HO_3; clear HO_13; clear HB; have HO_3 := n0_; have HO_13 := n1_; have HO132 := n2_; have HB := n3_; clear n0_ n1_ n2_ n3_; (try clear hb); (try clear hb2); (try clear hk); (try clear hi); (try clear ho0); obtain ⟨Ao38, co38, eo38⟩ := Kd.R_slice HO132.out; subst eo38))
              go_roundg k1
              case measure => have := HK1.out; omega
              case rel => exact ⟨(wrap64 (x15_1 + 1)), (by first | rfl | (simp; done) | (simp [*]; done)), H', ⟨by have := HK1.out; omega⟩, ⟨by (with_reducible repeat (first | apply Kd.R_alloc | apply Kd.R_drewN | apply Kd.R_drew)); exact Kd.R_mono HO_3.out (fun _ hk => trivial)⟩, ⟨by (with_reducible repeat (first | apply Kd.R_alloc | apply Kd.R_drewN | apply Kd.R_drew)); exact Kd.R_mono HO_13.out (fun _ hk => trivial)⟩, ⟨by repeat (first | (with_reducible first | exact HB.out | apply below_alloc | apply pw_below_drewN | apply below_drew1) | exact HB.out)⟩⟩
          · rw [if_neg c7] at H
            exact absurd H (by simp)
        · rw [if_neg c6] at H
          exact absurd H (by simp)
      · rw [if_neg c5] at H
        have c5b0 : decide (x15_1 < (t126.length : Int)) = false := decide_eq_false c5
        clear c5
        obtain rfl := Option.some.inj H
        go_wp2
        go_ret
        exact ⟨by first | rfl | (simp [errW_none, errW_some] <;> rfl) | (simp [*, errW_none, errW_some] <;> rfl), by repeat (first | (with_reducible first | exact HB.out | apply below_alloc | apply pw_below_drewN | apply below_drew1) | exact HB.out)⟩

/-! ### impl_SeqIndentStyle: function 14 -/
def impl_SeqIndentStyle.f (k : Nat) (a0 : ByteArray) : Option (ByteArray) := (yaml_DeriveSeqIndentStyle.f k a0).bind fun t141 => (some t141)
theorem impl_SeqIndentStyle.mono : ∀ a0 k, LeO (impl_SeqIndentStyle.f k a0) (impl_SeqIndentStyle.f (k + 1) a0) := by
  intro a0 k
  unfold impl_SeqIndentStyle.f
  repeat' first
      | (with_reducible exact yaml_DeriveSeqIndentStyle.mono _ _)
      | (with_reducible exact LeO.refl _)
      | (with_reducible exact LeO.none _)
      | (with_reducible refine LeO.ite ?_ ?_)
      | (with_reducible refine LeO.bind ?_ (fun _ => ?_))
      | exact yaml_DeriveSeqIndentStyle.mono _ _
      | exact LeO.none _
      | refine LeO.ite ?_ ?_
      | refine LeO.bind ?_ (fun _ => ?_)
set_option maxHeartbeats 8000000 in
set_option maxRecDepth 100000 in
theorem impl_SeqIndentStyle.calls (k : Nat) (a0 : ByteArray) (r : ByteArray) (w : World) (h : impl_SeqIndentStyle.f k a0 = some r) :
    Calls Try.prog 14 #[.string a0] w fun e w' => e = .returned (.string r) ∧ Below w.heap.size w w' := by
  have HB := Aside0.mk (Below.refl w.heap.size w)
  have H : ((yaml_DeriveSeqIndentStyle.f k a0).bind fun t141 => (some t141)) = some r := h
  clear h
  replace H := Option.bind_eq_some_iff.mp H
  obtain ⟨t141, A20, H⟩ := H
  replace H : (some t141) = some r := H
  have A2 := Aside0.mk A20
  clear A20
  obtain rfl := Option.some.inj H
  go_enter Try.func14, Try.ntmps14
  go_wp2_with (first | ((with_reducible refine gate_callee (f := 27) rfl ?_); refine goesL_ (some 4) rfl rfl Try.func27 (by kernel_rfl) rfl #[.string a0] rfl (by (try simp only [List.map_toArray, List.map_cons, List.map_nil]); first | done | rfl | (simp only [List.length_drop, List.length_take]; rfl)) ?_; (with_reducible refine (yaml_DeriveSeqIndentStyle.calls k a0 t141 _ A2.out).mono ?_); rintro e w3 ⟨rfl, hb⟩; refine ⟨_, rfl, ?_⟩; have n0_ := Aside0.mk (below_step (by repeat (first | (with_reducible first | exact HB.out | apply below_alloc | apply pw_below_drewN | apply below_drew1) | exact HB.out)) hb); clear HB; have HB := n0_; clear n0_; (try clear hb); (try clear hb2); (try clear hk); (try clear hi)))
  go_ret
  exact ⟨by first | rfl | (simp [errW_none, errW_some] <;> rfl) | (simp [*, errW_none, errW_some] <;> rfl), by repeat (first | (with_reducible first | exact HB.out | apply below_alloc | apply pw_below_drewN | apply below_drew1) | exact HB.out)⟩

/-! ### spec_kyIndex: function 29 -/
def spec_kyIndex.l0 : Nat → ByteArray → ByteArray → Int → Option (Int)
  | 0, _, _, _ => none
  | k + 1, x0, x1, x5 => if (wrap64 (x5 + (x1.size : Int))) ≤ (x0.size : Int) then (if 0 ≤ x5 then (if x5 ≤ (wrap64 (x5 + (x1.size : Int))) then (if (x0.extract (x5 : Int).toNat ((wrap64 (x5 + (x1.size : Int))) : Int).toNat).toList = x1.toList then (some x5) else (spec_kyIndex.l0 k x0 x1 (wrap64 (x5 + 1)))) else (none)) else (none)) else (some (-1))
def spec_kyIndex.f (k : Nat) (a0 : ByteArray) (a1 : ByteArray) : Option (Int) := spec_kyIndex.l0 k a0 a1 0
theorem spec_kyIndex.mono_l : ∀ k, (∀ y0 y1 y2, LeO (spec_kyIndex.l0 k y0 y1 y2) (spec_kyIndex.l0 (k + 1) y0 y1 y2))
  | 0 => fun _ _ _ r h => by simp [spec_kyIndex.l0] at h
  | k + 1 => by
    have ih0 := spec_kyIndex.mono_l k
    · intro y0 y1 y2
      unfold spec_kyIndex.l0
      repeat' first
      | (with_reducible exact ih0 _ _ _)
      | (with_reducible exact LeO.refl _)
      | (with_reducible exact LeO.none _)
      | (with_reducible refine LeO.ite ?_ ?_)
      | (with_reducible refine LeO.bind ?_ (fun _ => ?_))
      | exact ih0 _ _ _
      | exact LeO.none _
      | refine LeO.ite ?_ ?_
      | refine LeO.bind ?_ (fun _ => ?_)
theorem spec_kyIndex.mono : ∀ a0 a1 k, LeO (spec_kyIndex.f k a0 a1) (spec_kyIndex.f (k + 1) a0 a1) := by
  intro a0 a1 k
  have ih0 := spec_kyIndex.mono_l k
  unfold spec_kyIndex.f
  repeat' first
      | (with_reducible exact ih0 _ _ _)
      | (with_reducible exact LeO.refl _)
      | (with_reducible exact LeO.none _)
      | (with_reducible refine LeO.ite ?_ ?_)
      | (with_reducible refine LeO.bind ?_ (fun _ => ?_))
      | exact ih0 _ _ _
      | exact LeO.none _
      | refine LeO.ite ?_ ?_
      | refine LeO.bind ?_ (fun _ => ?_)
set_option maxHeartbeats 8000000 in
set_option maxRecDepth 100000 in
theorem spec_kyIndex.calls (k : Nat) (a0 : ByteArray) (a1 : ByteArray) (r : Int) (w : World) (h : spec_kyIndex.f k a0 a1 = some r) :
    Calls Try.prog 29 #[.string a0, .string a1] w fun e w' => e = .returned (.int .i64 r) ∧ Drawn0 w w' := by
  have H : (spec_kyIndex.l0 k a0 a1 0) = some r := h
  clear h
  have H' := Aside0.mk H
  clear H
  go_enter Try.func29, Try.ntmps29
  go_wp2
  go_loopg [5] k (fun kq v5 w' => ∃ (x5_1 : Int), v5 = .int .i64 x5_1 ∧ Aside0 (spec_kyIndex.l0 kq a0 a1 x5_1 = some r) ∧ Aside0 (kq ≤ k) ∧ Drawn0 w w')
  case atStart => exact ⟨(0), (by first | rfl | (simp; done) | (simp [*]; done)), H', ⟨Nat.le_refl _⟩, by repeat (first | exact Drawn0.refl _ | apply Drawn0.step)⟩
  case round =>
    clear H'
    try clear c2
    try clear p2
    obtain ⟨x5_1, rfl, HA, HK1, ⟨m1, rfl⟩⟩ := hrel
    cases gk with
    | zero => exact absurd HA.out (by simp [spec_kyIndex.l0])
    | succ k1 =>
      have H := HA.out
      clear HA
      simp only [spec_kyIndex.l0] at H
      by_cases c3 : (wrap64 (x5_1 + (a1.size : Int))) ≤ (a0.size : Int)
      · rw [if_pos c3] at H
        have c3b0 : decide ((wrap64 (x5_1 + (a1.size : Int))) ≤ (a0.size : Int)) = true := decide_eq_true c3
        clear c3
        by_cases c4 : 0 ≤ x5_1
        · rw [if_pos c4] at H
          have c4b0 := eq_true c4
          have c4b1 : decide (0 ≤ x5_1) = true := decide_eq_true c4
          clear c4
          by_cases c5 : x5_1 ≤ (wrap64 (x5_1 + (a1.size : Int)))
          · rw [if_pos c5] at H
            have c5b0 := eq_true c5
            have c5b1 : decide (x5_1 ≤ (wrap64 (x5_1 + (a1.size : Int)))) = true := decide_eq_true c5
            have c6b0 := eq_true (of_decide_eq_true (by first | (with_reducible assumption) | assumption) : (wrap64 (x5_1 + (a1.size : Int))) ≤ (a0.size : Int))
            by_cases c7 : (a0.extract (x5_1 : Int).toNat ((wrap64 (x5_1 + (a1.size : Int))) : Int).toNat).toList = a1.toList
            · rw [if_pos c7] at H
              have c7b0 : ((a0.extract (x5_1 : Int).toNat ((wrap64 (x5_1 + (a1.size : Int))) : Int).toNat).toList == a1.toList) = true := beq_iff_eq.mpr c7
              have c7b1 : ((a0.extract (x5_1 : Int).toNat ((wrap64 (x5_1 + (a1.size : Int))) : Int).toNat).toList != a1.toList) = false := bne_eq_false_iff_eq.mpr c7
              clear c7
              obtain rfl := Option.some.inj H
              go_wp2
              go_ret
              exact ⟨by first | rfl | (simp; done) | (simp [*]; done), by repeat (first | exact Drawn0.refl _ | apply Drawn0.step)⟩
            · rw [if_neg c7] at H
              have c7b0 : ((a0.extract (x5_1 : Int).toNat ((wrap64 (x5_1 + (a1.size : Int))) : Int).toNat).toList == a1.toList) = false := beq_eq_false_iff_ne.mpr c7
              have c7b1 : ((a0.extract (x5_1 : Int).toNat ((wrap64 (x5_1 + (a1.size : Int))) : Int).toNat).toList != a1.toList) = true := bne_iff_ne.mpr c7
              have H' := Aside0.mk H
              clear H
              go_wp2
              go_roundg k1
              case measure => have := HK1.out; omega
              case rel => exact ⟨(wrap64 (x5_1 + 1)), (by first | rfl | (simp; done) | (simp [*]; done)), H', ⟨by have := HK1.out; omega⟩, by repeat (first | exact Drawn0.refl _ | apply Drawn0.step)⟩
          · rw [if_neg c5] at H
            exact absurd H (by simp)
        · rw [if_neg c4] at H
          exact absurd H (by simp)
      · rw [if_neg c3] at H
        have c3b0 : decide ((wrap64 (x5_1 + (a1.size : Int))) ≤ (a0.size : Int)) = false := decide_eq_false c3
        clear c3
        obtain rfl := Option.some.inj H
        go_wp2
        go_ret
        exact ⟨by first | rfl | (simp; done) | (simp [*]; done), by repeat (first | exact Drawn0.refl _ | apply Drawn0.step)⟩

end Go.Proofs.Ytcficphbjicneaa.PFnSeqIndentStyle

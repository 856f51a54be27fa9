-- printed by a program of this session: the print, turned for a few more operations
import Derived.Test.YtdomnigegpigiabPFnGvkBackx0
import Derived.Test.YtdomnigegpigiabPFnGvkBackx1
import Derived.Test.YtdomnigegpigiabPFnGvkBackx2
import Derived.Test.YtdomnigegpigiabPFnGvkBackx3
import Derived.Test.YtdomnigegpigiabPFnGvkBackx4
import Derived.Test.YtdomnigegpigiabPFnGvkBackx5
namespace Go.Proofs.Ytdomnigegpigiab.PFnGvkBack
open Go.RowKit Go.Proofs.YtdomnigegpigiabW.PrintWords Go.Proofs.YtdomnigegpigiabW.PrintLast Go.Proofs.YtdomnigegpigiabW.PrintMore
attribute [local go_sem] max2_int min2_int max_two min_two max_three min_three max_four min_four   -- for this text's walks alone
set_option linter.unusedVariables false
set_option linter.unusedSimpArgs false

attribute [local go_sem high] eqA39
/-! ### laws_FnGvkBack: function 6 -/
def laws_FnGvkBack.j0 : Nat → ByteArray → Bool → ByteArray → ByteArray → ByteArray → ByteArray → ByteArray → Option (Bool)
  | 0, _, _, _, _, _, _, _ => none
  | k + 1, x1, x12, x216000, x216001, x216002, x216003, x216004 => if x12 = true then (some true) else ((laws_kyId.f k x216000 x216001 x216002 x216003 x216004).bind fun bt217 => (if 0 ≤ (mn (x1.size : Int) 40) then (if (mn (x1.size : Int) 40) ≤ (x1.size : Int) then ((spec_KyGvkText.f bt217.1 bt217.2.1 bt217.2.2.1 (⟨#[]⟩ : ByteArray) (⟨#[]⟩ : ByteArray)).bind fun t222 => ((impl_GvkOf.f k t222).bind fun bt223 => (if (bt223.1.toList == bt217.1.toList && (bt223.2.1.toList == bt217.2.1.toList && (bt223.2.2.1.toList == bt217.2.2.1.toList && (bt223.2.2.2.1.toList == ([] : List UInt8) && (bt223.2.2.2.2.toList == ([] : List UInt8)))))) = true then ((impl_GvkOf.f k (x1.extract 0 ((mn (x1.size : Int) 40) : Int).toNat)).bind fun bt228 => ((spec_KyGvkOf.f k (x1.extract 0 ((mn (x1.size : Int) 40) : Int).toNat)).bind fun bt233 => (some (bt228.1.toList == bt233.1.toList && (bt228.2.1.toList == bt233.2.1.toList && (bt228.2.2.1.toList == bt233.2.2.1.toList && (bt228.2.2.2.1.toList == bt233.2.2.2.1.toList && (bt228.2.2.2.2.toList == bt233.2.2.2.2.toList)))))))) else (some false)))) else (none)) else (none)))
def laws_FnGvkBack.f (k : Nat) (a0_0 : ByteArray) (a0_1 : ByteArray) (a0_2 : ByteArray) (a0_3 : ByteArray) (a0_4 : ByteArray) (a1 : ByteArray) : Option (Bool) := (laws_zzFits12.f a0_0 a0_1 a0_2 a0_3 a0_4).bind fun t216 => (if t216 = true then (laws_FnGvkBack.j0 k a1 (decide ((a1.size : Int) > 2147483647)) a0_0 a0_1 a0_2 a0_3 a0_4) else (laws_FnGvkBack.j0 k a1 true a0_0 a0_1 a0_2 a0_3 a0_4))
theorem laws_FnGvkBack.mono_l : ∀ k, (∀ y0 y1 y2 y3 y4 y5 y6, LeO (laws_FnGvkBack.j0 k y0 y1 y2 y3 y4 y5 y6) (laws_FnGvkBack.j0 (k + 1) y0 y1 y2 y3 y4 y5 y6))
  | 0 => fun _ _ _ _ _ _ _ r h => by simp [laws_FnGvkBack.j0] at h
  | k + 1 => by
    have ih0 := laws_FnGvkBack.mono_l k
    · intro y0 y1 y2 y3 y4 y5 y6
      unfold laws_FnGvkBack.j0
      repeat' first
      | (with_reducible exact ih0 _ _ _ _ _ _ _)
      | (with_reducible exact impl_GvkOf.mono _ _)
      | (with_reducible exact laws_kyId.mono _ _ _ _ _ _)
      | (with_reducible exact spec_KyGvkOf.mono _ _)
      | (with_reducible exact LeO.refl _)
      | (with_reducible exact LeO.none _)
      | (with_reducible refine LeO.ite ?_ ?_)
      | (with_reducible refine LeO.bind ?_ (fun _ => ?_))
      | exact ih0 _ _ _ _ _ _ _
      | exact impl_GvkOf.mono _ _
      | exact laws_kyId.mono _ _ _ _ _ _
      | exact spec_KyGvkOf.mono _ _
      | exact LeO.none _
      | refine LeO.ite ?_ ?_
      | refine LeO.bind ?_ (fun _ => ?_)
theorem laws_FnGvkBack.mono : ∀ a0 a1 a2 a3 a4 a5 k, LeO (laws_FnGvkBack.f k a0 a1 a2 a3 a4 a5) (laws_FnGvkBack.f (k + 1) a0 a1 a2 a3 a4 a5) := by
  intro a0 a1 a2 a3 a4 a5 k
  have ih0 := laws_FnGvkBack.mono_l k
  unfold laws_FnGvkBack.f
  repeat' first
      | (with_reducible exact ih0 _ _ _ _ _ _ _)
      | (with_reducible exact impl_GvkOf.mono _ _)
      | (with_reducible exact laws_kyId.mono _ _ _ _ _ _)
      | (with_reducible exact spec_KyGvkOf.mono _ _)
      | (with_reducible exact LeO.refl _)
      | (with_reducible exact LeO.none _)
      | (with_reducible refine LeO.ite ?_ ?_)
      | (with_reducible refine LeO.bind ?_ (fun _ => ?_))
      | exact ih0 _ _ _ _ _ _ _
      | exact impl_GvkOf.mono _ _
      | exact laws_kyId.mono _ _ _ _ _ _
      | exact spec_KyGvkOf.mono _ _
      | exact LeO.none _
      | refine LeO.ite ?_ ?_
      | refine LeO.bind ?_ (fun _ => ?_)
def laws_FnGvkBack.T6 : Bool × List (List Nat × List Nat) := (true, [([], []), ([0], [0]), ([1, 1], [1]), ([], []), ([2, 3], [2, 3]), ([4, 2], [4]), ([5], [5]), ([6, 5, 5], [5, 6]), ([5], [5]), ([8, 7, 5], [5, 8]), ([7, 9, 5], [5, 7, 9]), ([5, 10], [5, 10]), ([11, 9, 0, 1, 2, 3, 4, 5, 6, 7, 8, 9, 10, 11], [11])])
def laws_FnGvkBack.B6 : List Nat := [0, 1, 3, 0, 15, 31, 63, 127, 63, 511, 1023, 2047, 4095]
theorem laws_FnGvkBack.tab6 : rtab .any (opsOf Try.f6 6) = laws_FnGvkBack.T6 := by kernel_rfl
theorem laws_FnGvkBack.bits6 : waitsOk laws_FnGvkBack.T6.2 laws_FnGvkBack.B6 = true := by kernel_rfl
set_option maxHeartbeats 8000000 in
set_option maxRecDepth 100000 in
theorem laws_FnGvkBack.calls (k : Nat) (a0_0 : ByteArray) (a0_1 : ByteArray) (a0_2 : ByteArray) (a0_3 : ByteArray) (a0_4 : ByteArray) (a1 : ByteArray) (r : Bool) (w : World) (h : laws_FnGvkBack.f k a0_0 a0_1 a0_2 a0_3 a0_4 a1 = some r) :
    Calls Try.prog 6 #[.agg #[.string a0_0, .string a0_1, .string a0_2, .string a0_3, .string a0_4], .string a1] w fun e w' => e = .returned (.bool r) ∧ Below w.heap.size w w' := by
  have hu39 := Try.underlying39
  have HB := Aside0.mk (Below.refl w.heap.size w)
  have H : ((laws_zzFits12.f a0_0 a0_1 a0_2 a0_3 a0_4).bind fun t216 => (if t216 = true then (laws_FnGvkBack.j0 k a1 (decide ((a1.size : Int) > 2147483647)) a0_0 a0_1 a0_2 a0_3 a0_4) else (laws_FnGvkBack.j0 k a1 true a0_0 a0_1 a0_2 a0_3 a0_4))) = some r := h
  clear h
  have HC3 := Aside0.mk H
  clear H
  go_enter Try.func6, Try.ntmps6
  go_upto_region 1 with (first | ((with_reducible refine gate_dst (N := 2) rfl ?_); (try (refine gate_guard (by rfl) ?_; dsimp only)); refine box_event ?hg (N := 2) ?hd (cs := #[.string a0_0, .string a0_1, .string a0_2, .string a0_3, .string a0_4]) (t := 39) ?hr ?_; (case hd => rfl); (case hg => rfl); (case hr => first | (go_simp; done) | (go_simp; rfl)); intro gb215 hg w4 hbox hb; have n0_ := Aside0.mk (below_step (by repeat (first | (with_reducible first | exact HB.out | apply below_alloc | apply pw_below_drewN | apply below_drew1) | exact HB.out)) hb); have n1_ := Aside0.mk (hbox); have n2_ := Aside0.mk ((by rw [hg]; exact (below_size (by repeat (first | (with_reducible first | exact HB.out | apply below_alloc | apply pw_below_drewN | apply below_drew1) | exact HB.out))) : w.heap.size ≤ gb215)); have n3_ := Aside0.mk ((by rw [hg]; exact (below_size (by repeat (first | (with_reducible first | exact HB.out | apply below_alloc | apply pw_below_drewN | apply below_drew1) | exact HB.out))) : w.heap.size ≤ gb215)); clear HB; have HB := n0_; have BK215 := n1_; have GW215 := n2_; have GE215 := n3_; clear n0_ n1_ n2_ n3_; clear hb hbox hg))
  (try simp only [Act.put, List.setIfInBounds_toArray, List.set_cons_zero, List.set_cons_succ])
  go_cut [12] (fun v12 wc => ∃ (kq : Nat) (x12_2 : Bool), v12 = .bool x12_2 ∧ Aside0 (laws_FnGvkBack.j0 kq a1 x12_2 a0_0 a0_1 a0_2 a0_3 a0_4 = some r) ∧ Aside0 (kq ≤ k) ∧ Aside0 (wc.heap[gb215]? = some (.cells #[.string a0_0, .string a0_1, .string a0_2, .string a0_3, .string a0_4] 39 (0, 0))) ∧ Aside0 (Below w.heap.size w wc))
  case first =>
    have H := HC3.out
    clear HC3
    replace H := Option.bind_eq_some_iff.mp H
    obtain ⟨t216, A50, H⟩ := H
    replace H : (if t216 = true then (laws_FnGvkBack.j0 k a1 (decide ((a1.size : Int) > 2147483647)) a0_0 a0_1 a0_2 a0_3 a0_4) else (laws_FnGvkBack.j0 k a1 true a0_0 a0_1 a0_2 a0_3 a0_4)) = some r := H
    have A5 := Aside0.mk A50
    clear A50
    by_cases c6 : t216 = true
    · subst c6
      have H1 : (laws_FnGvkBack.j0 k a1 (decide ((a1.size : Int) > 2147483647)) a0_0 a0_1 a0_2 a0_3 a0_4) = some r := by rw [if_pos rfl] at H; exact H
      clear H
      have H := H1
      clear H1
      have H' := Aside0.mk H
      clear H
      have hcz7_0 : w4.cell? ⟨gb215, 0, none⟩ = some (.string a0_0) := (blk_cell BK215.out 0).trans rfl
      have hcz7_1 : w4.cell? ⟨gb215, 1, none⟩ = some (.string a0_1) := (blk_cell BK215.out 1).trans rfl
      have hcz7_2 : w4.cell? ⟨gb215, 2, none⟩ = some (.string a0_2) := (blk_cell BK215.out 2).trans rfl
      have hcz7_3 : w4.cell? ⟨gb215, 3, none⟩ = some (.string a0_3) := (blk_cell BK215.out 3).trans rfl
      have hcz7_4 : w4.cell? ⟨gb215, 4, none⟩ = some (.string a0_4) := (blk_cell BK215.out 4).trans rfl
      have hfz7_0 := blk_frozen BK215.out 0
      have hfz7_1 := blk_frozen BK215.out 1
      have hfz7_2 := blk_frozen BK215.out 2
      have hfz7_3 := blk_frozen BK215.out 3
      have hfz7_4 := blk_frozen BK215.out 4
      go_wp2_with (first | ((with_reducible refine gate_callee (f := 17) rfl ?_); refine goesL_ (some 6) rfl rfl Try.func17 (by kernel_rfl) rfl #[.agg #[.string a0_0, .string a0_1, .string a0_2, .string a0_3, .string a0_4]] rfl (by (try simp only [List.map_toArray, List.map_cons, List.map_nil]); first | done | rfl | (simp only [List.length_drop, List.length_take]; rfl)) ?_; (with_reducible refine (laws_zzFits12.calls a0_0 a0_1 a0_2 a0_3 a0_4 true _ A5.out).mono ?_); rintro e w8 ⟨rfl, hb⟩; refine ⟨_, rfl, ?_⟩; have n0_ := Aside0.mk (blk_below (g := gb215) (o := .cells #[.string a0_0, .string a0_1, .string a0_2, .string a0_3, .string a0_4] 39 (0, 0)) (by (with_reducible repeat (first | refine blk_drewN ?_ _ | refine blk_drew ?_ | refine blk_alloc ?_ _)); exact BK215.out) hb); have n1_ := Aside0.mk (below_step (by repeat (first | (with_reducible first | exact HB.out | apply below_alloc | apply pw_below_drewN | apply below_drew1 | refine below_set ?_ GE215.out) | exact HB.out)) hb); clear BK215; clear HB; have BK215 := n0_; have HB := n1_; clear n0_ n1_; (try clear hb); (try clear hb2); (try clear hk); (try clear hi)))
      go_meet
      case rel => exact ⟨_, (decide ((a1.size : Int) > 2147483647)), (by first | rfl | (simp; done) | (simp [*]; done)), H', ⟨by first | omega | exact Nat.le_refl _⟩, ⟨by (with_reducible repeat (first | refine blk_drewN ?_ _ | refine blk_drew ?_ | refine blk_alloc ?_ _)); exact BK215.out⟩, ⟨by repeat (first | (with_reducible first | exact HB.out | apply below_alloc | apply pw_below_drewN | apply below_drew1 | refine below_set ?_ GE215.out) | exact HB.out)⟩⟩
    · replace c6 := Bool.eq_false_iff.mpr c6
      subst c6
      have H1 : (laws_FnGvkBack.j0 k a1 true a0_0 a0_1 a0_2 a0_3 a0_4) = some r := by rw [if_neg (show ¬ (false = true) by decide)] at H; exact H
      clear H
      have H := H1
      clear H1
      have H' := Aside0.mk H
      clear H
      have hcz9_0 : w4.cell? ⟨gb215, 0, none⟩ = some (.string a0_0) := (blk_cell BK215.out 0).trans rfl
      have hcz9_1 : w4.cell? ⟨gb215, 1, none⟩ = some (.string a0_1) := (blk_cell BK215.out 1).trans rfl
      have hcz9_2 : w4.cell? ⟨gb215, 2, none⟩ = some (.string a0_2) := (blk_cell BK215.out 2).trans rfl
      have hcz9_3 : w4.cell? ⟨gb215, 3, none⟩ = some (.string a0_3) := (blk_cell BK215.out 3).trans rfl
      have hcz9_4 : w4.cell? ⟨gb215, 4, none⟩ = some (.string a0_4) := (blk_cell BK215.out 4).trans rfl
      have hfz9_0 := blk_frozen BK215.out 0
      have hfz9_1 := blk_frozen BK215.out 1
      have hfz9_2 := blk_frozen BK215.out 2
      have hfz9_3 := blk_frozen BK215.out 3
      have hfz9_4 := blk_frozen BK215.out 4
      go_wp2_with (first | ((with_reducible refine gate_callee (f := 17) rfl ?_); refine goesL_ (some 6) rfl rfl Try.func17 (by kernel_rfl) rfl #[.agg #[.string a0_0, .string a0_1, .string a0_2, .string a0_3, .string a0_4]] rfl (by (try simp only [List.map_toArray, List.map_cons, List.map_nil]); first | done | rfl | (simp only [List.length_drop, List.length_take]; rfl)) ?_; (with_reducible refine (laws_zzFits12.calls a0_0 a0_1 a0_2 a0_3 a0_4 false _ A5.out).mono ?_); rintro e w10 ⟨rfl, hb⟩; refine ⟨_, rfl, ?_⟩; have n0_ := Aside0.mk (blk_below (g := gb215) (o := .cells #[.string a0_0, .string a0_1, .string a0_2, .string a0_3, .string a0_4] 39 (0, 0)) (by (with_reducible repeat (first | refine blk_drewN ?_ _ | refine blk_drew ?_ | refine blk_alloc ?_ _)); exact BK215.out) hb); have n1_ := Aside0.mk (below_step (by repeat (first | (with_reducible first | exact HB.out | apply below_alloc | apply pw_below_drewN | apply below_drew1 | refine below_set ?_ GE215.out) | exact HB.out)) hb); clear BK215; clear HB; have BK215 := n0_; have HB := n1_; clear n0_ n1_; (try clear hb); (try clear hb2); (try clear hk); (try clear hi)))
      go_meet
      case rel => exact ⟨_, (true), (by first | rfl | (simp; done) | (simp [*]; done)), H', ⟨by first | omega | exact Nat.le_refl _⟩, ⟨by (with_reducible repeat (first | refine blk_drewN ?_ _ | refine blk_drew ?_ | refine blk_alloc ?_ _)); exact BK215.out⟩, ⟨by repeat (first | (with_reducible first | exact HB.out | apply below_alloc | apply pw_below_drewN | apply below_drew1 | refine below_set ?_ GE215.out) | exact HB.out)⟩⟩
  case rest =>
    clear HC3
    try clear c1
    try clear p2
    try clear c6
    try clear hcz7_0
    try clear hcz7_1
    try clear hcz7_2
    try clear hcz7_3
    try clear hcz7_4
    try clear hcz9_0
    try clear hcz9_1
    try clear hcz9_2
    try clear hcz9_3
    try clear hcz9_4
    try clear hfz7_0
    try clear hfz7_1
    try clear hfz7_2
    try clear hfz7_3
    try clear hfz7_4
    try clear hfz9_0
    try clear hfz9_1
    try clear hfz9_2
    try clear hfz9_3
    try clear hfz9_4
    obtain ⟨kq, x12_2, rfl, HA, HJ2, BK215, HB⟩ := hcut
    cases kq with
    | zero => exact absurd HA.out (by simp [laws_FnGvkBack.j0])
    | succ kj2 =>
      have H := HA.out
      clear HA
      simp only [laws_FnGvkBack.j0] at H
      by_cases c11 : x12_2 = true
      · subst c11
        have H1 : (some true) = some r := by rw [if_pos rfl] at H; exact H
        clear H
        have H := H1
        clear H1
        obtain rfl := Option.some.inj H
        go_wp2
        go_ret
        exact ⟨by first | rfl | (simp [errW_none, errW_some] <;> rfl) | (simp [*, errW_none, errW_some] <;> rfl), by repeat (first | (with_reducible first | exact HB.out | apply below_alloc | apply pw_below_drewN | apply below_drew1 | refine below_set ?_ GE215.out) | exact HB.out)⟩
      · replace c11 := Bool.eq_false_iff.mpr c11
        subst c11
        have H1 : ((laws_kyId.f kj2 a0_0 a0_1 a0_2 a0_3 a0_4).bind fun bt217 => (if 0 ≤ (mn (a1.size : Int) 40) then (if (mn (a1.size : Int) 40) ≤ (a1.size : Int) then ((spec_KyGvkText.f bt217.1 bt217.2.1 bt217.2.2.1 (⟨#[]⟩ : ByteArray) (⟨#[]⟩ : ByteArray)).bind fun t222 => ((impl_GvkOf.f kj2 t222).bind fun bt223 => (if (bt223.1.toList == bt217.1.toList && (bt223.2.1.toList == bt217.2.1.toList && (bt223.2.2.1.toList == bt217.2.2.1.toList && (bt223.2.2.2.1.toList == ([] : List UInt8) && (bt223.2.2.2.2.toList == ([] : List UInt8)))))) = true then ((impl_GvkOf.f kj2 (a1.extract 0 ((mn (a1.size : Int) 40) : Int).toNat)).bind fun bt228 => ((spec_KyGvkOf.f kj2 (a1.extract 0 ((mn (a1.size : Int) 40) : Int).toNat)).bind fun bt233 => (some (bt228.1.toList == bt233.1.toList && (bt228.2.1.toList == bt233.2.1.toList && (bt228.2.2.1.toList == bt233.2.2.1.toList && (bt228.2.2.2.1.toList == bt233.2.2.2.1.toList && (bt228.2.2.2.2.toList == bt233.2.2.2.2.toList)))))))) else (some false)))) else (none)) else (none))) = some r := by rw [if_neg (show ¬ (false = true) by decide)] at H; exact H
        clear H
        have H := H1
        clear H1
        replace H := Option.bind_eq_some_iff.mp H
        obtain ⟨⟨t217, t218, t219, t220, t221⟩, A120, H⟩ := H
        replace H : (if 0 ≤ (mn (a1.size : Int) 40) then (if (mn (a1.size : Int) 40) ≤ (a1.size : Int) then ((spec_KyGvkText.f t217 t218 t219 (⟨#[]⟩ : ByteArray) (⟨#[]⟩ : ByteArray)).bind fun t222 => ((impl_GvkOf.f kj2 t222).bind fun bt223 => (if (bt223.1.toList == t217.toList && (bt223.2.1.toList == t218.toList && (bt223.2.2.1.toList == t219.toList && (bt223.2.2.2.1.toList == ([] : List UInt8) && (bt223.2.2.2.2.toList == ([] : List UInt8)))))) = true then ((impl_GvkOf.f kj2 (a1.extract 0 ((mn (a1.size : Int) 40) : Int).toNat)).bind fun bt228 => ((spec_KyGvkOf.f kj2 (a1.extract 0 ((mn (a1.size : Int) 40) : Int).toNat)).bind fun bt233 => (some (bt228.1.toList == bt233.1.toList && (bt228.2.1.toList == bt233.2.1.toList && (bt228.2.2.1.toList == bt233.2.2.1.toList && (bt228.2.2.2.1.toList == bt233.2.2.2.1.toList && (bt228.2.2.2.2.toList == bt233.2.2.2.2.toList)))))))) else (some false)))) else (none)) else (none)) = some r := H
        have A12 := Aside0.mk A120
        clear A120
        obtain ⟨ji13, hji13⟩ : ∃ j_ : Int, (mn (a1.size : Int) 40) = j_ := ⟨_, rfl⟩
        replace H : (if 0 ≤ (ji13) then (if (ji13) ≤ (a1.size : Int) then ((spec_KyGvkText.f t217 t218 t219 (⟨#[]⟩ : ByteArray) (⟨#[]⟩ : ByteArray)).bind fun t222 => ((impl_GvkOf.f kj2 t222).bind fun bt223 => (if (bt223.1.toList == t217.toList && (bt223.2.1.toList == t218.toList && (bt223.2.2.1.toList == t219.toList && (bt223.2.2.2.1.toList == ([] : List UInt8) && (bt223.2.2.2.2.toList == ([] : List UInt8)))))) = true then ((impl_GvkOf.f kj2 (a1.extract 0 ((ji13) : Int).toNat)).bind fun bt228 => ((spec_KyGvkOf.f kj2 (a1.extract 0 ((ji13) : Int).toNat)).bind fun bt233 => (some (bt228.1.toList == bt233.1.toList && (bt228.2.1.toList == bt233.2.1.toList && (bt228.2.2.1.toList == bt233.2.2.1.toList && (bt228.2.2.2.1.toList == bt233.2.2.2.1.toList && (bt228.2.2.2.2.toList == bt233.2.2.2.2.toList)))))))) else (some false)))) else (none)) else (none)) = some r := by first | (rw [hji13] at H; exact H) | (simp only [hji13] at H ⊢; exact H)
        (try rw [hji13] at A12)
        have hji13_ : (if 40 < (a1.size : Int) then 40 else (a1.size : Int)) = ji13 := hji13
        by_cases c14 : 0 ≤ (ji13)
        · rw [if_pos c14] at H
          have c14b0 := eq_true c14
          have c14b1 : decide (0 ≤ (ji13)) = true := decide_eq_true c14
          clear c14
          by_cases c15 : (ji13) ≤ (a1.size : Int)
          · rw [if_pos c15] at H
            have c15b0 := eq_true c15
            have c15b1 : decide ((ji13) ≤ (a1.size : Int)) = true := decide_eq_true c15
            clear c15
            replace H := Option.bind_eq_some_iff.mp H
            obtain ⟨t222, A160, H⟩ := H
            replace H : ((impl_GvkOf.f kj2 t222).bind fun bt223 => (if (bt223.1.toList == t217.toList && (bt223.2.1.toList == t218.toList && (bt223.2.2.1.toList == t219.toList && (bt223.2.2.2.1.toList == ([] : List UInt8) && (bt223.2.2.2.2.toList == ([] : List UInt8)))))) = true then ((impl_GvkOf.f kj2 (a1.extract 0 ((ji13) : Int).toNat)).bind fun bt228 => ((spec_KyGvkOf.f kj2 (a1.extract 0 ((ji13) : Int).toNat)).bind fun bt233 => (some (bt228.1.toList == bt233.1.toList && (bt228.2.1.toList == bt233.2.1.toList && (bt228.2.2.1.toList == bt233.2.2.1.toList && (bt228.2.2.2.1.toList == bt233.2.2.2.1.toList && (bt228.2.2.2.2.toList == bt233.2.2.2.2.toList)))))))) else (some false))) = some r := H
            have A16 := Aside0.mk A160
            clear A160
            replace H := Option.bind_eq_some_iff.mp H
            obtain ⟨⟨t223, t224, t225, t226, t227⟩, A170, H⟩ := H
            replace H : (if (t223.toList == t217.toList && (t224.toList == t218.toList && (t225.toList == t219.toList && (t226.toList == ([] : List UInt8) && (t227.toList == ([] : List UInt8)))))) = true then ((impl_GvkOf.f kj2 (a1.extract 0 ((ji13) : Int).toNat)).bind fun bt228 => ((spec_KyGvkOf.f kj2 (a1.extract 0 ((ji13) : Int).toNat)).bind fun bt233 => (some (bt228.1.toList == bt233.1.toList && (bt228.2.1.toList == bt233.2.1.toList && (bt228.2.2.1.toList == bt233.2.2.1.toList && (bt228.2.2.2.1.toList == bt233.2.2.2.1.toList && (bt228.2.2.2.2.toList == bt233.2.2.2.2.toList)))))))) else (some false)) = some r := H
            have A17 := Aside0.mk A170
            clear A170
            by_cases c18 : (t223.toList == t217.toList && (t224.toList == t218.toList && (t225.toList == t219.toList && (t226.toList == ([] : List UInt8) && (t227.toList == ([] : List UInt8)))))) = true
            · rw [if_pos c18] at H
              have c18b0 : (t223.toList == t217.toList && (t224.toList == t218.toList && (t225.toList == t219.toList && (t226.toList == ([] : List UInt8) && (t227.toList == ([] : List UInt8)))))) = true := c18
              (try (have c18b1 : (t223.toList == t217.toList && (t224.toList == t218.toList && (t225.toList == t219.toList && (t226.toList.isEmpty && (t227.toList.isEmpty))))) = true := by simpa using c18))
              (try (have c18b2 : decide (t223.toList = t217.toList && (t224.toList == t218.toList && (t225.toList == t219.toList && (t226.toList == ([] : List UInt8) && (t227.toList == ([] : List UInt8)))))) = true := by simpa using c18))
              (try (have c18b3 : (t223.toList == t217.toList && (t224.toList == t218.toList && (t225.toList == t219.toList && (t226.toList == ([] : List UInt8) && (t227.toList == ([] : List UInt8)))))) = true := by simpa using c18))
              clear c18
              replace H := Option.bind_eq_some_iff.mp H
              obtain ⟨⟨t228, t229, t230, t231, t232⟩, A190, H⟩ := H
              replace H : ((spec_KyGvkOf.f kj2 (a1.extract 0 ((ji13) : Int).toNat)).bind fun bt233 => (some (t228.toList == bt233.1.toList && (t229.toList == bt233.2.1.toList && (t230.toList == bt233.2.2.1.toList && (t231.toList == bt233.2.2.2.1.toList && (t232.toList == bt233.2.2.2.2.toList))))))) = some r := H
              have A19 := Aside0.mk A190
              clear A190
              replace H := Option.bind_eq_some_iff.mp H
              obtain ⟨⟨t233, t234, t235, t236, t237⟩, A200, H⟩ := H
              replace H : (some (t228.toList == t233.toList && (t229.toList == t234.toList && (t230.toList == t235.toList && (t231.toList == t236.toList && (t232.toList == t237.toList)))))) = some r := H
              have A20 := Aside0.mk A200
              clear A200
              obtain rfl := Option.some.inj H
              have hcz21_0 : wc.cell? ⟨gb215, 0, none⟩ = some (.string a0_0) := (blk_cell BK215.out 0).trans rfl
              have hcz21_1 : wc.cell? ⟨gb215, 1, none⟩ = some (.string a0_1) := (blk_cell BK215.out 1).trans rfl
              have hcz21_2 : wc.cell? ⟨gb215, 2, none⟩ = some (.string a0_2) := (blk_cell BK215.out 2).trans rfl
              have hcz21_3 : wc.cell? ⟨gb215, 3, none⟩ = some (.string a0_3) := (blk_cell BK215.out 3).trans rfl
              have hcz21_4 : wc.cell? ⟨gb215, 4, none⟩ = some (.string a0_4) := (blk_cell BK215.out 4).trans rfl
              have hfz21_0 := blk_frozen BK215.out 0
              have hfz21_1 := blk_frozen BK215.out 1
              have hfz21_2 := blk_frozen BK215.out 2
              have hfz21_3 := blk_frozen BK215.out 3
              have hfz21_4 := blk_frozen BK215.out 4
              try go_wp2_with (first | ((with_reducible refine gate_callee (f := 18) rfl ?_); refine goesL_ (some 14) rfl rfl Try.func18 (by kernel_rfl) rfl #[.agg #[.string a0_0, .string a0_1, .string a0_2, .string a0_3, .string a0_4]] rfl (by (try simp only [List.map_toArray, List.map_cons, List.map_nil]); first | done | rfl | (simp only [List.length_drop, List.length_take]; rfl)) ?_; (with_reducible refine (laws_kyId.calls kj2 a0_0 a0_1 a0_2 a0_3 a0_4 t217 t218 t219 t220 t221 _ A12.out).mono ?_); rintro e w22 ⟨rfl, hb⟩; refine ⟨_, rfl, ?_⟩; have n0_ := Aside0.mk (blk_below (g := gb215) (o := .cells #[.string a0_0, .string a0_1, .string a0_2, .string a0_3, .string a0_4] 39 (0, 0)) (by (with_reducible repeat (first | refine blk_drewN ?_ _ | refine blk_drew ?_ | refine blk_alloc ?_ _)); exact BK215.out) hb); have n1_ := Aside0.mk (below_step (by repeat (first | (with_reducible first | exact HB.out | apply below_alloc | apply pw_below_drewN | apply below_drew1 | refine below_set ?_ GE215.out) | exact HB.out)) hb); clear BK215; clear HB; have BK215 := n0_; have HB := n1_; clear n0_ n1_; (try clear hb); (try clear hb2); (try clear hk); (try clear hi); have hcz23_0 : w22.cell? ⟨gb215, 0, none⟩ = some (.string a0_0) := (blk_cell BK215.out 0).trans rfl; have hcz23_1 : w22.cell? ⟨gb215, 1, none⟩ = some (.string a0_1) := (blk_cell BK215.out 1).trans rfl; have hcz23_2 : w22.cell? ⟨gb215, 2, none⟩ = some (.string a0_2) := (blk_cell BK215.out 2).trans rfl; have hcz23_3 : w22.cell? ⟨gb215, 3, none⟩ = some (.string a0_3) := (blk_cell BK215.out 3).trans rfl; have hcz23_4 : w22.cell? ⟨gb215, 4, none⟩ = some (.string a0_4) := (blk_cell BK215.out 4).trans rfl; have hfz23_0 := blk_frozen BK215.out 0; have hfz23_1 := blk_frozen BK215.out 1; have hfz23_2 := blk_frozen BK215.out 2; have hfz23_3 := blk_frozen BK215.out 3; have hfz23_4 := blk_frozen BK215.out 4))
              have n0_ : Aside0 ((((((((w22.setCell ⟨gb215, 0, none⟩ (.string t217)).setCell ⟨gb215, 1, none⟩ (.string t218)).setCell ⟨gb215, 2, none⟩ (.string t219)).setCell ⟨gb215, 3, none⟩ (.string t220)).setCell ⟨gb215, 4, none⟩ (.string t221)).setCell ⟨gb215, 3, none⟩ (.string (⟨#[]⟩ : ByteArray))).setCell ⟨gb215, 4, none⟩ (.string (⟨#[]⟩ : ByteArray))).heap[gb215]? = some (.cells #[.string t217, .string t218, .string t219, .string (⟨#[]⟩ : ByteArray), .string (⟨#[]⟩ : ByteArray)] 39 (0, 0))) := ⟨by (with_reducible repeat (first | refine blk_drewN ?_ _ | refine blk_drew ?_ | refine blk_alloc ?_ _)); refine blk_put (cs := #[.string t217, .string t218, .string t219, .string (⟨#[]⟩ : ByteArray), .string t221]) ?_ 4 _ rfl; (with_reducible repeat (first | refine blk_drewN ?_ _ | refine blk_drew ?_ | refine blk_alloc ?_ _)); refine blk_put (cs := #[.string t217, .string t218, .string t219, .string t220, .string t221]) ?_ 3 _ rfl; (with_reducible repeat (first | refine blk_drewN ?_ _ | refine blk_drew ?_ | refine blk_alloc ?_ _)); refine blk_put (cs := #[.string t217, .string t218, .string t219, .string t220, .string a0_4]) ?_ 4 _ rfl; (with_reducible repeat (first | refine blk_drewN ?_ _ | refine blk_drew ?_ | refine blk_alloc ?_ _)); refine blk_put (cs := #[.string t217, .string t218, .string t219, .string a0_3, .string a0_4]) ?_ 3 _ rfl; (with_reducible repeat (first | refine blk_drewN ?_ _ | refine blk_drew ?_ | refine blk_alloc ?_ _)); refine blk_put (cs := #[.string t217, .string t218, .string a0_2, .string a0_3, .string a0_4]) ?_ 2 _ rfl; (with_reducible repeat (first | refine blk_drewN ?_ _ | refine blk_drew ?_ | refine blk_alloc ?_ _)); refine blk_put (cs := #[.string t217, .string a0_1, .string a0_2, .string a0_3, .string a0_4]) ?_ 1 _ rfl; (with_reducible repeat (first | refine blk_drewN ?_ _ | refine blk_drew ?_ | refine blk_alloc ?_ _)); refine blk_put (cs := #[.string a0_0, .string a0_1, .string a0_2, .string a0_3, .string a0_4]) ?_ 0 _ rfl; (with_reducible repeat (first | refine blk_drewN ?_ _ | refine blk_drew ?_ | refine blk_alloc ?_ _)); exact BK215.out⟩
              have n1_ : Aside0 (Below w.heap.size w (((((((w22.setCell ⟨gb215, 0, none⟩ (.string t217)).setCell ⟨gb215, 1, none⟩ (.string t218)).setCell ⟨gb215, 2, none⟩ (.string t219)).setCell ⟨gb215, 3, none⟩ (.string t220)).setCell ⟨gb215, 4, none⟩ (.string t221)).setCell ⟨gb215, 3, none⟩ (.string (⟨#[]⟩ : ByteArray))).setCell ⟨gb215, 4, none⟩ (.string (⟨#[]⟩ : ByteArray)))) := ⟨by repeat (first | (with_reducible first | exact HB.out | apply below_alloc | apply pw_below_drewN | apply below_drew1 | refine below_set ?_ GE215.out) | exact HB.out)⟩
              (try clear BK215)
              (try clear HB)
              generalize (((((((w22.setCell ⟨gb215, 0, none⟩ (.string t217)).setCell ⟨gb215, 1, none⟩ (.string t218)).setCell ⟨gb215, 2, none⟩ (.string t219)).setCell ⟨gb215, 3, none⟩ (.string t220)).setCell ⟨gb215, 4, none⟩ (.string t221)).setCell ⟨gb215, 3, none⟩ (.string (⟨#[]⟩ : ByteArray))).setCell ⟨gb215, 4, none⟩ (.string (⟨#[]⟩ : ByteArray))) = w24 at n0_ n1_ ⊢
              have BK215 := n0_
              have HB := n1_
              clear n0_ n1_
              have n0_ := Aside0.mk (blk_drew BK215.out)
              have n1_ := Aside0.mk (below_drew1 HB.out)
              clear BK215
              clear HB
              have BK215 := n0_
              have HB := n1_
              clear n0_ n1_
              refine start_ (n := 13) (S := fun w' => w'.cell? ⟨gb215, 0, none⟩ = some (.string t217) ∧ w'.cell? ⟨gb215, 1, none⟩ = some (.string t218) ∧ w'.cell? ⟨gb215, 2, none⟩ = some (.string t219) ∧ w'.cell? ⟨gb215, 3, none⟩ = some (.string (⟨#[]⟩ : ByteArray)) ∧ w'.cell? ⟨gb215, 4, none⟩ = some (.string (⟨#[]⟩ : ByteArray))) (ds := []) #[false, false, false, false, false, false, false, false, false, false, false, false, false] (by kernel_rfl) rfl rfl ⟨(blk_cell BK215.out 0).trans rfl, (blk_cell BK215.out 1).trans rfl, (blk_cell BK215.out 2).trans rfl, (blk_cell BK215.out 3).trans rfl, (blk_cell BK215.out 4).trans rfl⟩ (fun hHeld => ?_); refine with_tabW laws_FnGvkBack.tab6 laws_FnGvkBack.bits6 (fun HT_ HW_ => ?_)
              generalize w24.drew = w25 at BK215 HB hHeld ⊢
              refine take_ (i := 0) (N := some 22) (v := ?_) (a' := ?_) #[true, false, false, false, false, false, false, false, false, false, false, false, false] rfl rfl (take_ofW HT_.out HW_.out (by kernel_rfl)) (fun _ _ _ h => h) (Or.inl ⟨by rfl, ?_⟩) hHeld ?_ ?_
              rotate_left
              · rintro w' ⟨s0, s1, s2, s3, s4⟩
                go_simp
                with_reducible rfl
              rotate_left
              · simp only [Act.put, List.setIfInBounds_toArray, List.set_cons_zero, List.set_cons_succ, i64_w, i32_w]
                rfl
              refine take_ (i := 3) (N := some 25) (v := ?_) (a' := ?_) #[true, false, false, true, false, false, false, false, false, false, false, false, false] rfl rfl (take_ofW HT_.out HW_.out (by kernel_rfl)) (fun _ _ _ h => h) (Or.inl ⟨by rfl, ?_⟩) hHeld ?_ ?_
              rotate_left
              · rintro w' ⟨s0, s1, s2, s3, s4⟩
                go_simp
                with_reducible rfl
              rotate_left
              · simp only [Act.put, List.setIfInBounds_toArray, List.set_cons_zero, List.set_cons_succ, i64_w, i32_w]
                rfl
              refine one_ (i := 1) (N := some 23) #[true, true, false, true, false, false, false, false, false, false, false, false, false] rfl rfl (one_of HT_.out (by kernel_rfl)) (by decide) (fun K hK => ?_)
              refine goes_ Try.func20 (by kernel_rfl) rfl #[.agg #[.string t217, .string t218, .string t219, .string (⟨#[]⟩ : ByteArray), .string (⟨#[]⟩ : ByteArray)]] (by rfl) rfl rfl (by (try simp only [List.map_toArray, List.map_cons, List.map_nil]); first | done | rfl | (simp only [List.length_drop, List.length_take]; rfl)) ?_
              with_reducible refine (spec_KyGvkText.calls t217 t218 t219 (⟨#[]⟩ : ByteArray) (⟨#[]⟩ : ByteArray) t222 _ A16.out).mono ?_
              rintro e w26 ⟨rfl, hb⟩
              refine ⟨_, rfl, ?_⟩
              have n0_ := Aside0.mk (blk_below (g := gb215) (o := .cells #[.string t217, .string t218, .string t219, .string (⟨#[]⟩ : ByteArray), .string (⟨#[]⟩ : ByteArray)] 39 (0, 0)) (by (with_reducible repeat (first | refine blk_drewN ?_ _ | refine blk_drew ?_ | refine blk_alloc ?_ _)); exact BK215.out) hb)
              have n1_ := Aside0.mk (below_step (by repeat (first | (with_reducible first | exact HB.out | apply below_alloc | apply pw_below_drewN | apply below_drew1 | refine below_set ?_ GE215.out) | exact HB.out)) hb)
              clear BK215
              clear HB
              have BK215 := n0_
              have HB := n1_
              clear n0_ n1_
              (try clear hb)
              (try clear hb2)
              (try clear hk)
              (try clear hi)
              refine hK.out _ _ ⟨(blk_cell BK215.out 0).trans rfl, (blk_cell BK215.out 1).trans rfl, (blk_cell BK215.out 2).trans rfl, (blk_cell BK215.out 3).trans rfl, (blk_cell BK215.out 4).trans rfl⟩ (fun hHeld => ?_)
              clear hK K
              refine norm_ (a' := ?_) ?_ ?_
              rotate_left
              · show Act.put _ (some 23) _ = _
                simp only [Act.put, List.setIfInBounds_toArray, List.set_cons_zero, List.set_cons_succ, i64_w, i32_w]
                rfl
              refine one_ (i := 2) (N := some 24) #[true, true, true, true, false, false, false, false, false, false, false, false, false] rfl rfl (one_of HT_.out (by kernel_rfl)) (by decide) (fun K hK => ?_)
              refine goes_ Try.func19 (by kernel_rfl) rfl #[.string t222] (by rfl) rfl rfl (by (try simp only [List.map_toArray, List.map_cons, List.map_nil]); first | done | rfl | (simp only [List.length_drop, List.length_take]; rfl)) ?_
              with_reducible refine (impl_GvkOf.calls kj2 t222 t223 t224 t225 t226 t227 _ A17.out).mono ?_
              rintro e w27 ⟨rfl, hb⟩
              refine ⟨_, rfl, ?_⟩
              have n0_ := Aside0.mk (blk_below (g := gb215) (o := .cells #[.string t217, .string t218, .string t219, .string (⟨#[]⟩ : ByteArray), .string (⟨#[]⟩ : ByteArray)] 39 (0, 0)) (by (with_reducible repeat (first | refine blk_drewN ?_ _ | refine blk_drew ?_ | refine blk_alloc ?_ _)); exact BK215.out) hb)
              have n1_ := Aside0.mk (below_step (by repeat (first | (with_reducible first | exact HB.out | apply below_alloc | apply pw_below_drewN | apply below_drew1 | refine below_set ?_ GE215.out) | exact HB.out)) hb)
              clear BK215
              clear HB
              have BK215 := n0_
              have HB := n1_
              clear n0_ n1_
              (try clear hb)
              (try clear hb2)
              (try clear hk)
              (try clear hi)
              refine hK.out _ _ ⟨(blk_cell BK215.out 0).trans rfl, (blk_cell BK215.out 1).trans rfl, (blk_cell BK215.out 2).trans rfl, (blk_cell BK215.out 3).trans rfl, (blk_cell BK215.out 4).trans rfl⟩ (fun hHeld => ?_)
              clear hK K
              refine norm_ (a' := ?_) ?_ ?_
              rotate_left
              · show Act.put _ (some 24) _ = _
                simp only [Act.put, List.setIfInBounds_toArray, List.set_cons_zero, List.set_cons_succ, i64_w, i32_w]
                rfl
              refine pure_ (i := 4) (N := some 26) (v := ?_) (a' := ?_) #[true, true, true, true, true, false, false, false, false, false, false, false, false] rfl rfl (any_of HT_.out (by kernel_rfl)) (fun _ _ _ h => h) (Or.inl ⟨by rfl, ?_⟩) ?_ ?_
              rotate_left
              · intro w'
                go_simp
                with_reducible rfl
              rotate_left
              · simp only [Act.put, List.setIfInBounds_toArray, List.set_cons_zero, List.set_cons_succ, i64_w, i32_w]
                rfl
              refine pure_ (i := 5) (N := some 27) (v := ?_) (a' := ?_) #[true, true, true, true, true, true, false, false, false, false, false, false, false] rfl rfl (any_of HT_.out (by kernel_rfl)) (fun _ _ _ h => h) (Or.inl ⟨by rfl, ?_⟩) ?_ ?_
              rotate_left
              · intro w'
                go_simp
                with_reducible rfl
              rotate_left
              · simp only [Act.put, List.setIfInBounds_toArray, List.set_cons_zero, List.set_cons_succ, i64_w, i32_w]
                rfl
              refine pure_ (i := 6) (N := some 28) (v := ?_) (a' := ?_) #[true, true, true, true, true, true, true, false, false, false, false, false, false] rfl rfl (any_of HT_.out (by kernel_rfl)) (fun _ _ _ h => h) (Or.inl ⟨by rfl, ?_⟩) ?_ ?_
              rotate_left
              · intro w'
                go_simp
                with_reducible rfl
              rotate_left
              · simp only [Act.put, List.setIfInBounds_toArray, List.set_cons_zero, List.set_cons_succ, i64_w, i32_w]
                rfl
              refine pure_ (i := 8) (N := some 30) (v := ?_) (a' := ?_) #[true, true, true, true, true, true, true, false, true, false, false, false, false] rfl rfl (any_of HT_.out (by kernel_rfl)) (fun _ _ _ h => h) (Or.inl ⟨by rfl, ?_⟩) ?_ ?_
              rotate_left
              · intro w'
                go_simp
                with_reducible rfl
              rotate_left
              · simp only [Act.put, List.setIfInBounds_toArray, List.set_cons_zero, List.set_cons_succ, i64_w, i32_w]
                rfl
              refine one_ (i := 7) (N := some 29) #[true, true, true, true, true, true, true, true, true, false, false, false, false] rfl rfl (one_of HT_.out (by kernel_rfl)) (by decide) (fun K hK => ?_)
              refine goes_ Try.func19 (by kernel_rfl) rfl #[.string (a1.extract 0 ((ji13) : Int).toNat)] (by rfl) rfl rfl (by (try simp only [List.map_toArray, List.map_cons, List.map_nil]); first | done | (simp only [hji13]; rfl) | rfl | (simp only [List.length_drop, List.length_take]; rfl)) ?_
              with_reducible refine (impl_GvkOf.calls kj2 (a1.extract 0 ((ji13) : Int).toNat) t228 t229 t230 t231 t232 _ A19.out).mono ?_
              rintro e w28 ⟨rfl, hb⟩
              refine ⟨_, rfl, ?_⟩
              have n0_ := Aside0.mk (blk_below (g := gb215) (o := .cells #[.string t217, .string t218, .string t219, .string (⟨#[]⟩ : ByteArray), .string (⟨#[]⟩ : ByteArray)] 39 (0, 0)) (by (with_reducible repeat (first | refine blk_drewN ?_ _ | refine blk_drew ?_ | refine blk_alloc ?_ _)); exact BK215.out) hb)
              have n1_ := Aside0.mk (below_step (by repeat (first | (with_reducible first | exact HB.out | apply below_alloc | apply pw_below_drewN | apply below_drew1 | refine below_set ?_ GE215.out) | exact HB.out)) hb)
              clear BK215
              clear HB
              have BK215 := n0_
              have HB := n1_
              clear n0_ n1_
              (try clear hb)
              (try clear hb2)
              (try clear hk)
              (try clear hi)
              refine hK.out _ _ ⟨(blk_cell BK215.out 0).trans rfl, (blk_cell BK215.out 1).trans rfl, (blk_cell BK215.out 2).trans rfl, (blk_cell BK215.out 3).trans rfl, (blk_cell BK215.out 4).trans rfl⟩ (fun hHeld => ?_)
              clear hK K
              refine norm_ (a' := ?_) ?_ ?_
              rotate_left
              · show Act.put _ (some 29) _ = _
                simp only [Act.put, List.setIfInBounds_toArray, List.set_cons_zero, List.set_cons_succ, i64_w, i32_w]
                rfl
              refine one_ (i := 9) (N := some 31) #[true, true, true, true, true, true, true, true, true, true, false, false, false] rfl rfl (one_of HT_.out (by kernel_rfl)) (by decide) (fun K hK => ?_)
              refine goes_ Try.func21 (by kernel_rfl) rfl #[.string (a1.extract 0 ((ji13) : Int).toNat)] (by rfl) rfl rfl (by (try simp only [List.map_toArray, List.map_cons, List.map_nil]); first | done | (simp only [hji13]; rfl) | rfl | (simp only [List.length_drop, List.length_take]; rfl)) ?_
              with_reducible refine (spec_KyGvkOf.calls kj2 (a1.extract 0 ((ji13) : Int).toNat) t233 t234 t235 t236 t237 _ A20.out).mono ?_
              rintro e w29 ⟨rfl, hb⟩
              refine ⟨_, rfl, ?_⟩
              have n0_ := Aside0.mk (blk_below (g := gb215) (o := .cells #[.string t217, .string t218, .string t219, .string (⟨#[]⟩ : ByteArray), .string (⟨#[]⟩ : ByteArray)] 39 (0, 0)) (by (with_reducible repeat (first | refine blk_drewN ?_ _ | refine blk_drew ?_ | refine blk_alloc ?_ _)); exact BK215.out) hb)
              have n1_ := Aside0.mk (below_step (by repeat (first | (with_reducible first | exact HB.out | apply below_alloc | apply pw_below_drewN | apply below_drew1 | refine below_set ?_ GE215.out) | exact HB.out)) hb)
              clear BK215
              clear HB
              have BK215 := n0_
              have HB := n1_
              clear n0_ n1_
              (try clear hb)
              (try clear hb2)
              (try clear hk)
              (try clear hi)
              refine hK.out _ _ ⟨(blk_cell BK215.out 0).trans rfl, (blk_cell BK215.out 1).trans rfl, (blk_cell BK215.out 2).trans rfl, (blk_cell BK215.out 3).trans rfl, (blk_cell BK215.out 4).trans rfl⟩ (fun hHeld => ?_)
              clear hK K
              refine norm_ (a' := ?_) ?_ ?_
              rotate_left
              · show Act.put _ (some 31) _ = _
                simp only [Act.put, List.setIfInBounds_toArray, List.set_cons_zero, List.set_cons_succ, i64_w, i32_w]
                rfl
              refine pure_ (i := 10) (N := some 32) (v := ?_) (a' := ?_) #[true, true, true, true, true, true, true, true, true, true, true, false, false] rfl rfl (any_of HT_.out (by kernel_rfl)) (fun _ _ _ h => h) (Or.inl ⟨by rfl, ?_⟩) ?_ ?_
              rotate_left
              · intro w'
                go_simp
                with_reducible rfl
              rotate_left
              · simp only [Act.put, List.setIfInBounds_toArray, List.set_cons_zero, List.set_cons_succ, i64_w, i32_w]
                rfl
              refine pure_ (i := 11) (N := some 33) (v := ?_) (a' := ?_) #[true, true, true, true, true, true, true, true, true, true, true, true, false] rfl rfl (any_of HT_.out (by kernel_rfl)) (fun _ _ _ h => h) (Or.inl ⟨by rfl, ?_⟩) ?_ ?_
              rotate_left
              · intro w'
                go_simp
                with_reducible rfl
              rotate_left
              · simp only [Act.put, List.setIfInBounds_toArray, List.set_cons_zero, List.set_cons_succ, i64_w, i32_w]
                rfl
              refine pure_ (i := 12) (N := some 4) (v := ?_) (a' := ?_) #[true, true, true, true, true, true, true, true, true, true, true, true, true] rfl rfl (any_of HT_.out (by kernel_rfl)) (fun _ _ _ h => h) (Or.inl ⟨by rfl, ?_⟩) ?_ ?_
              rotate_left
              · intro w'
                go_simp
                with_reducible rfl
              rotate_left
              · simp only [Act.put, List.setIfInBounds_toArray, List.set_cons_zero, List.set_cons_succ, i64_w, i32_w]
                rfl
              refine done_ (done_of HT_.out (by kernel_rfl)) ?_
              try go_wp2
              go_ret
              exact ⟨by first | rfl | (simp [errW_none, errW_some] <;> rfl) | (simp only [← hji13]; first | rfl | (simp [errW_none, errW_some] <;> rfl)) | (simp [*, errW_none, errW_some] <;> rfl), by repeat (first | (with_reducible first | exact HB.out | apply below_alloc | apply pw_below_drewN | apply below_drew1 | refine below_set ?_ GE215.out) | exact HB.out)⟩
            · rw [if_neg c18] at H
              have c18b0 : (t223.toList == t217.toList && (t224.toList == t218.toList && (t225.toList == t219.toList && (t226.toList == ([] : List UInt8) && (t227.toList == ([] : List UInt8)))))) = false := by simpa using c18
              (try (have c18b1 : (t223.toList == t217.toList && (t224.toList == t218.toList && (t225.toList == t219.toList && (t226.toList.isEmpty && (t227.toList.isEmpty))))) = false := by simpa using c18))
              (try (have c18b2 : decide (t223.toList = t217.toList && (t224.toList == t218.toList && (t225.toList == t219.toList && (t226.toList == ([] : List UInt8) && (t227.toList == ([] : List UInt8)))))) = false := by simpa using c18))
              (try (have c18b3 : (t223.toList == t217.toList && (t224.toList == t218.toList && (t225.toList == t219.toList && (t226.toList == ([] : List UInt8) && (t227.toList == ([] : List UInt8)))))) = false := by simpa using c18))
              (try (have c18b4 : ¬ (t223.toList = t217.toList && (t224.toList == t218.toList && (t225.toList == t219.toList && (t226.toList == ([] : List UInt8) && (t227.toList == ([] : List UInt8)))))) := by simpa using c18))
              clear c18
              obtain rfl := Option.some.inj H
              have hcz30_0 : wc.cell? ⟨gb215, 0, none⟩ = some (.string a0_0) := (blk_cell BK215.out 0).trans rfl
              have hcz30_1 : wc.cell? ⟨gb215, 1, none⟩ = some (.string a0_1) := (blk_cell BK215.out 1).trans rfl
              have hcz30_2 : wc.cell? ⟨gb215, 2, none⟩ = some (.string a0_2) := (blk_cell BK215.out 2).trans rfl
              have hcz30_3 : wc.cell? ⟨gb215, 3, none⟩ = some (.string a0_3) := (blk_cell BK215.out 3).trans rfl
              have hcz30_4 : wc.cell? ⟨gb215, 4, none⟩ = some (.string a0_4) := (blk_cell BK215.out 4).trans rfl
              have hfz30_0 := blk_frozen BK215.out 0
              have hfz30_1 := blk_frozen BK215.out 1
              have hfz30_2 := blk_frozen BK215.out 2
              have hfz30_3 := blk_frozen BK215.out 3
              have hfz30_4 := blk_frozen BK215.out 4
              try go_wp2_with (first | ((with_reducible refine gate_callee (f := 18) rfl ?_); refine goesL_ (some 14) rfl rfl Try.func18 (by kernel_rfl) rfl #[.agg #[.string a0_0, .string a0_1, .string a0_2, .string a0_3, .string a0_4]] rfl (by (try simp only [List.map_toArray, List.map_cons, List.map_nil]); first | done | rfl | (simp only [List.length_drop, List.length_take]; rfl)) ?_; (with_reducible refine (laws_kyId.calls kj2 a0_0 a0_1 a0_2 a0_3 a0_4 t217 t218 t219 t220 t221 _ A12.out).mono ?_); rintro e w31 ⟨rfl, hb⟩; refine ⟨_, rfl, ?_⟩; have n0_ := Aside0.mk (blk_below (g := gb215) (o := .cells #[.string a0_0, .string a0_1, .string a0_2, .string a0_3, .string a0_4] 39 (0, 0)) (by (with_reducible repeat (first | refine blk_drewN ?_ _ | refine blk_drew ?_ | refine blk_alloc ?_ _)); exact BK215.out) hb); have n1_ := Aside0.mk (below_step (by repeat (first | (with_reducible first | exact HB.out | apply below_alloc | apply pw_below_drewN | apply below_drew1 | refine below_set ?_ GE215.out) | exact HB.out)) hb); clear BK215; clear HB; have BK215 := n0_; have HB := n1_; clear n0_ n1_; (try clear hb); (try clear hb2); (try clear hk); (try clear hi); have hcz32_0 : w31.cell? ⟨gb215, 0, none⟩ = some (.string a0_0) := (blk_cell BK215.out 0).trans rfl; have hcz32_1 : w31.cell? ⟨gb215, 1, none⟩ = some (.string a0_1) := (blk_cell BK215.out 1).trans rfl; have hcz32_2 : w31.cell? ⟨gb215, 2, none⟩ = some (.string a0_2) := (blk_cell BK215.out 2).trans rfl; have hcz32_3 : w31.cell? ⟨gb215, 3, none⟩ = some (.string a0_3) := (blk_cell BK215.out 3).trans rfl; have hcz32_4 : w31.cell? ⟨gb215, 4, none⟩ = some (.string a0_4) := (blk_cell BK215.out 4).trans rfl; have hfz32_0 := blk_frozen BK215.out 0; have hfz32_1 := blk_frozen BK215.out 1; have hfz32_2 := blk_frozen BK215.out 2; have hfz32_3 := blk_frozen BK215.out 3; have hfz32_4 := blk_frozen BK215.out 4))
              have n0_ : Aside0 ((((((((w31.setCell ⟨gb215, 0, none⟩ (.string t217)).setCell ⟨gb215, 1, none⟩ (.string t218)).setCell ⟨gb215, 2, none⟩ (.string t219)).setCell ⟨gb215, 3, none⟩ (.string t220)).setCell ⟨gb215, 4, none⟩ (.string t221)).setCell ⟨gb215, 3, none⟩ (.string (⟨#[]⟩ : ByteArray))).setCell ⟨gb215, 4, none⟩ (.string (⟨#[]⟩ : ByteArray))).heap[gb215]? = some (.cells #[.string t217, .string t218, .string t219, .string (⟨#[]⟩ : ByteArray), .string (⟨#[]⟩ : ByteArray)] 39 (0, 0))) := ⟨by (with_reducible repeat (first | refine blk_drewN ?_ _ | refine blk_drew ?_ | refine blk_alloc ?_ _)); refine blk_put (cs := #[.string t217, .string t218, .string t219, .string (⟨#[]⟩ : ByteArray), .string t221]) ?_ 4 _ rfl; (with_reducible repeat (first | refine blk_drewN ?_ _ | refine blk_drew ?_ | refine blk_alloc ?_ _)); refine blk_put (cs := #[.string t217, .string t218, .string t219, .string t220, .string t221]) ?_ 3 _ rfl; (with_reducible repeat (first | refine blk_drewN ?_ _ | refine blk_drew ?_ | refine blk_alloc ?_ _)); refine blk_put (cs := #[.string t217, .string t218, .string t219, .string t220, .string a0_4]) ?_ 4 _ rfl; (with_reducible repeat (first | refine blk_drewN ?_ _ | refine blk_drew ?_ | refine blk_alloc ?_ _)); refine blk_put (cs := #[.string t217, .string t218, .string t219, .string a0_3, .string a0_4]) ?_ 3 _ rfl; (with_reducible repeat (first | refine blk_drewN ?_ _ | refine blk_drew ?_ | refine blk_alloc ?_ _)); refine blk_put (cs := #[.string t217, .string t218, .string a0_2, .string a0_3, .string a0_4]) ?_ 2 _ rfl; (with_reducible repeat (first | refine blk_drewN ?_ _ | refine blk_drew ?_ | refine blk_alloc ?_ _)); refine blk_put (cs := #[.string t217, .string a0_1, .string a0_2, .string a0_3, .string a0_4]) ?_ 1 _ rfl; (with_reducible repeat (first | refine blk_drewN ?_ _ | refine blk_drew ?_ | refine blk_alloc ?_ _)); refine blk_put (cs := #[.string a0_0, .string a0_1, .string a0_2, .string a0_3, .string a0_4]) ?_ 0 _ rfl; (with_reducible repeat (first | refine blk_drewN ?_ _ | refine blk_drew ?_ | refine blk_alloc ?_ _)); exact BK215.out⟩
              have n1_ : Aside0 (Below w.heap.size w (((((((w31.setCell ⟨gb215, 0, none⟩ (.string t217)).setCell ⟨gb215, 1, none⟩ (.string t218)).setCell ⟨gb215, 2, none⟩ (.string t219)).setCell ⟨gb215, 3, none⟩ (.string t220)).setCell ⟨gb215, 4, none⟩ (.string t221)).setCell ⟨gb215, 3, none⟩ (.string (⟨#[]⟩ : ByteArray))).setCell ⟨gb215, 4, none⟩ (.string (⟨#[]⟩ : ByteArray)))) := ⟨by repeat (first | (with_reducible first | exact HB.out | apply below_alloc | apply pw_below_drewN | apply below_drew1 | refine below_set ?_ GE215.out) | exact HB.out)⟩
              (try clear BK215)
              (try clear HB)
              generalize (((((((w31.setCell ⟨gb215, 0, none⟩ (.string t217)).setCell ⟨gb215, 1, none⟩ (.string t218)).setCell ⟨gb215, 2, none⟩ (.string t219)).setCell ⟨gb215, 3, none⟩ (.string t220)).setCell ⟨gb215, 4, none⟩ (.string t221)).setCell ⟨gb215, 3, none⟩ (.string (⟨#[]⟩ : ByteArray))).setCell ⟨gb215, 4, none⟩ (.string (⟨#[]⟩ : ByteArray))) = w33 at n0_ n1_ ⊢
              have BK215 := n0_
              have HB := n1_
              clear n0_ n1_
              have n0_ := Aside0.mk (blk_drew BK215.out)
              have n1_ := Aside0.mk (below_drew1 HB.out)
              clear BK215
              clear HB
              have BK215 := n0_
              have HB := n1_
              clear n0_ n1_
              refine start_ (n := 13) (S := fun w' => w'.cell? ⟨gb215, 0, none⟩ = some (.string t217) ∧ w'.cell? ⟨gb215, 1, none⟩ = some (.string t218) ∧ w'.cell? ⟨gb215, 2, none⟩ = some (.string t219) ∧ w'.cell? ⟨gb215, 3, none⟩ = some (.string (⟨#[]⟩ : ByteArray)) ∧ w'.cell? ⟨gb215, 4, none⟩ = some (.string (⟨#[]⟩ : ByteArray))) (ds := []) #[false, false, false, false, false, false, false, false, false, false, false, false, false] (by kernel_rfl) rfl rfl ⟨(blk_cell BK215.out 0).trans rfl, (blk_cell BK215.out 1).trans rfl, (blk_cell BK215.out 2).trans rfl, (blk_cell BK215.out 3).trans rfl, (blk_cell BK215.out 4).trans rfl⟩ (fun hHeld => ?_); refine with_tabW laws_FnGvkBack.tab6 laws_FnGvkBack.bits6 (fun HT_ HW_ => ?_)
              generalize w33.drew = w34 at BK215 HB hHeld ⊢
              refine take_ (i := 0) (N := some 22) (v := ?_) (a' := ?_) #[true, false, false, false, false, false, false, false, false, false, false, false, false] rfl rfl (take_ofW HT_.out HW_.out (by kernel_rfl)) (fun _ _ _ h => h) (Or.inl ⟨by rfl, ?_⟩) hHeld ?_ ?_
              rotate_left
              · rintro w' ⟨s0, s1, s2, s3, s4⟩
                go_simp
                with_reducible rfl
              rotate_left
              · simp only [Act.put, List.setIfInBounds_toArray, List.set_cons_zero, List.set_cons_succ, i64_w, i32_w]
                rfl
              refine take_ (i := 3) (N := some 25) (v := ?_) (a' := ?_) #[true, false, false, true, false, false, false, false, false, false, false, false, false] rfl rfl (take_ofW HT_.out HW_.out (by kernel_rfl)) (fun _ _ _ h => h) (Or.inl ⟨by rfl, ?_⟩) hHeld ?_ ?_
              rotate_left
              · rintro w' ⟨s0, s1, s2, s3, s4⟩
                go_simp
                with_reducible rfl
              rotate_left
              · simp only [Act.put, List.setIfInBounds_toArray, List.set_cons_zero, List.set_cons_succ, i64_w, i32_w]
                rfl
              refine one_ (i := 1) (N := some 23) #[true, true, false, true, false, false, false, false, false, false, false, false, false] rfl rfl (one_of HT_.out (by kernel_rfl)) (by decide) (fun K hK => ?_)
              refine goes_ Try.func20 (by kernel_rfl) rfl #[.agg #[.string t217, .string t218, .string t219, .string (⟨#[]⟩ : ByteArray), .string (⟨#[]⟩ : ByteArray)]] (by rfl) rfl rfl (by (try simp only [List.map_toArray, List.map_cons, List.map_nil]); first | done | rfl | (simp only [List.length_drop, List.length_take]; rfl)) ?_
              with_reducible refine (spec_KyGvkText.calls t217 t218 t219 (⟨#[]⟩ : ByteArray) (⟨#[]⟩ : ByteArray) t222 _ A16.out).mono ?_
              rintro e w35 ⟨rfl, hb⟩
              refine ⟨_, rfl, ?_⟩
              have n0_ := Aside0.mk (blk_below (g := gb215) (o := .cells #[.string t217, .string t218, .string t219, .string (⟨#[]⟩ : ByteArray), .string (⟨#[]⟩ : ByteArray)] 39 (0, 0)) (by (with_reducible repeat (first | refine blk_drewN ?_ _ | refine blk_drew ?_ | refine blk_alloc ?_ _)); exact BK215.out) hb)
              have n1_ := Aside0.mk (below_step (by repeat (first | (with_reducible first | exact HB.out | apply below_alloc | apply pw_below_drewN | apply below_drew1 | refine below_set ?_ GE215.out) | exact HB.out)) hb)
              clear BK215
              clear HB
              have BK215 := n0_
              have HB := n1_
              clear n0_ n1_
              (try clear hb)
              (try clear hb2)
              (try clear hk)
              (try clear hi)
              refine hK.out _ _ ⟨(blk_cell BK215.out 0).trans rfl, (blk_cell BK215.out 1).trans rfl, (blk_cell BK215.out 2).trans rfl, (blk_cell BK215.out 3).trans rfl, (blk_cell BK215.out 4).trans rfl⟩ (fun hHeld => ?_)
              clear hK K
              refine norm_ (a' := ?_) ?_ ?_
              rotate_left
              · show Act.put _ (some 23) _ = _
                simp only [Act.put, List.setIfInBounds_toArray, List.set_cons_zero, List.set_cons_succ, i64_w, i32_w]
                rfl
              refine one_ (i := 2) (N := some 24) #[true, true, true, true, false, false, false, false, false, false, false, false, false] rfl rfl (one_of HT_.out (by kernel_rfl)) (by decide) (fun K hK => ?_)
              refine goes_ Try.func19 (by kernel_rfl) rfl #[.string t222] (by rfl) rfl rfl (by (try simp only [List.map_toArray, List.map_cons, List.map_nil]); first | done | rfl | (simp only [List.length_drop, List.length_take]; rfl)) ?_
              with_reducible refine (impl_GvkOf.calls kj2 t222 t223 t224 t225 t226 t227 _ A17.out).mono ?_
              rintro e w36 ⟨rfl, hb⟩
              refine ⟨_, rfl, ?_⟩
              have n0_ := Aside0.mk (blk_below (g := gb215) (o := .cells #[.string t217, .string t218, .string t219, .string (⟨#[]⟩ : ByteArray), .string (⟨#[]⟩ : ByteArray)] 39 (0, 0)) (by (with_reducible repeat (first | refine blk_drewN ?_ _ | refine blk_drew ?_ | refine blk_alloc ?_ _)); exact BK215.out) hb)
              have n1_ := Aside0.mk (below_step (by repeat (first | (with_reducible first | exact HB.out | apply below_alloc | apply pw_below_drewN | apply below_drew1 | refine below_set ?_ GE215.out) | exact HB.out)) hb)
              clear BK215
              clear HB
              have BK215 := n0_
              have HB := n1_
              clear n0_ n1_
              (try clear hb)
              (try clear hb2)
              (try clear hk)
              (try clear hi)
              refine hK.out _ _ ⟨(blk_cell BK215.out 0).trans rfl, (blk_cell BK215.out 1).trans rfl, (blk_cell BK215.out 2).trans rfl, (blk_cell BK215.out 3).trans rfl, (blk_cell BK215.out 4).trans rfl⟩ (fun hHeld => ?_)
              clear hK K
              refine norm_ (a' := ?_) ?_ ?_
              rotate_left
              · show Act.put _ (some 24) _ = _
                simp only [Act.put, List.setIfInBounds_toArray, List.set_cons_zero, List.set_cons_succ, i64_w, i32_w]
                rfl
              refine pure_ (i := 4) (N := some 26) (v := ?_) (a' := ?_) #[true, true, true, true, true, false, false, false, false, false, false, false, false] rfl rfl (any_of HT_.out (by kernel_rfl)) (fun _ _ _ h => h) (Or.inl ⟨by rfl, ?_⟩) ?_ ?_
              rotate_left
              · intro w'
                go_simp
                with_reducible rfl
              rotate_left
              · simp only [Act.put, List.setIfInBounds_toArray, List.set_cons_zero, List.set_cons_succ, i64_w, i32_w]
                rfl
              refine pure_ (i := 5) (N := some 27) (v := ?_) (a' := ?_) #[true, true, true, true, true, true, false, false, false, false, false, false, false] rfl rfl (any_of HT_.out (by kernel_rfl)) (fun _ _ _ h => h) (Or.inl ⟨by rfl, ?_⟩) ?_ ?_
              rotate_left
              · intro w'
                go_simp
                with_reducible rfl
              rotate_left
              · simp only [Act.put, List.setIfInBounds_toArray, List.set_cons_zero, List.set_cons_succ, i64_w, i32_w]
                rfl
              refine pure_ (i := 6) (N := some 28) (v := undef) (a' := ?_) #[true, true, true, true, true, true, true, false, false, false, false, false, false] rfl rfl (any_of HT_.out (by kernel_rfl)) (fun _ _ _ h => h) (Or.inr ⟨by rfl, rfl⟩) ?_ ?_
              rotate_left
              · simp only [Act.put, List.setIfInBounds_toArray, List.set_cons_zero, List.set_cons_succ, i64_w, i32_w]
                rfl
              refine pure_ (i := 7) (N := some 29) (v := undef) (a' := ?_) #[true, true, true, true, true, true, true, true, false, false, false, false, false] rfl rfl (any_of HT_.out (by kernel_rfl)) (fun _ _ _ h => h) (Or.inr ⟨by rfl, rfl⟩) ?_ ?_
              rotate_left
              · simp only [Act.put, List.setIfInBounds_toArray, List.set_cons_zero, List.set_cons_succ, i64_w, i32_w]
                rfl
              refine pure_ (i := 8) (N := some 30) (v := undef) (a' := ?_) #[true, true, true, true, true, true, true, true, true, false, false, false, false] rfl rfl (any_of HT_.out (by kernel_rfl)) (fun _ _ _ h => h) (Or.inr ⟨by rfl, rfl⟩) ?_ ?_
              rotate_left
              · simp only [Act.put, List.setIfInBounds_toArray, List.set_cons_zero, List.set_cons_succ, i64_w, i32_w]
                rfl
              refine pure_ (i := 9) (N := some 31) (v := undef) (a' := ?_) #[true, true, true, true, true, true, true, true, true, true, false, false, false] rfl rfl (any_of HT_.out (by kernel_rfl)) (fun _ _ _ h => h) (Or.inr ⟨by rfl, rfl⟩) ?_ ?_
              rotate_left
              · simp only [Act.put, List.setIfInBounds_toArray, List.set_cons_zero, List.set_cons_succ, i64_w, i32_w]
                rfl
              refine pure_ (i := 10) (N := some 32) (v := undef) (a' := ?_) #[true, true, true, true, true, true, true, true, true, true, true, false, false] rfl rfl (any_of HT_.out (by kernel_rfl)) (fun _ _ _ h => h) (Or.inr ⟨by rfl, rfl⟩) ?_ ?_
              rotate_left
              · simp only [Act.put, List.setIfInBounds_toArray, List.set_cons_zero, List.set_cons_succ, i64_w, i32_w]
                rfl
              refine pure_ (i := 11) (N := some 33) (v := ?_) (a' := ?_) #[true, true, true, true, true, true, true, true, true, true, true, true, false] rfl rfl (any_of HT_.out (by kernel_rfl)) (fun _ _ _ h => h) (Or.inl ⟨by rfl, ?_⟩) ?_ ?_
              rotate_left
              · intro w'
                go_simp
                with_reducible rfl
              rotate_left
              · simp only [Act.put, List.setIfInBounds_toArray, List.set_cons_zero, List.set_cons_succ, i64_w, i32_w]
                rfl
              refine pure_ (i := 12) (N := some 4) (v := ?_) (a' := ?_) #[true, true, true, true, true, true, true, true, true, true, true, true, true] rfl rfl (any_of HT_.out (by kernel_rfl)) (fun _ _ _ h => h) (Or.inl ⟨by rfl, ?_⟩) ?_ ?_
              rotate_left
              · intro w'
                go_simp
                with_reducible rfl
              rotate_left
              · simp only [Act.put, List.setIfInBounds_toArray, List.set_cons_zero, List.set_cons_succ, i64_w, i32_w]
                rfl
              refine done_ (done_of HT_.out (by kernel_rfl)) ?_
              try go_wp2
              go_ret
              exact ⟨by first | rfl | (simp [errW_none, errW_some] <;> rfl) | (simp only [← hji13]; first | rfl | (simp [errW_none, errW_some] <;> rfl)) | (simp [*, errW_none, errW_some] <;> rfl), by repeat (first | (with_reducible first | exact HB.out | apply below_alloc | apply pw_below_drewN | apply below_drew1 | refine below_set ?_ GE215.out) | exact HB.out)⟩
          · rw [if_neg c15] at H
            exact absurd H (by simp)
        · rw [if_neg c14] at H
          exact absurd H (by simp)

end Go.Proofs.Ytdomnigegpigiab.PFnGvkBack

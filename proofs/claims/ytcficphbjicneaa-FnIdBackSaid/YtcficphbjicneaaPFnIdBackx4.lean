-- printed by a program of this session: the print, turned for a few more operations
import Derived.Test.YtcficphbjicneaaPFnIdBackx0
import Derived.Test.YtcficphbjicneaaPFnIdBackx1
import Derived.Test.YtcficphbjicneaaPFnIdBackx2
import Derived.Test.YtcficphbjicneaaPFnIdBackx3
import Derived.Test.YtcficphbjicneaaHIdOf
namespace Go.Proofs.Ytcficphbjicneaa.PFnIdBack
open Go.RowKit Go.Proofs.YtcficphbjicneaaW.PrintWords Go.Proofs.YtcficphbjicneaaW.PrintLast Go.Proofs.YtcficphbjicneaaW.PrintMore
attribute [local go_sem] max2_int min2_int max_two min_two max_three min_three max_four min_four   -- for this text's walks alone
set_option linter.unusedVariables false
set_option linter.unusedSimpArgs false

attribute [local go_sem high] eqA27
-- function 12 (impl_IdOf): ours, in YtcficphbjicneaaHIdOf

/-! ### spec_kyOr: function 26 -/
def spec_kyOr.f (a0 : ByteArray) (a1 : ByteArray) : Option (ByteArray) := if a0.toList = ([] : List UInt8) then (some a1) else (some a0)
set_option maxHeartbeats 8000000 in
set_option maxRecDepth 100000 in
theorem spec_kyOr.calls (a0 : ByteArray) (a1 : ByteArray) (r : ByteArray) (w : World) (h : spec_kyOr.f a0 a1 = some r) :
    Calls Try.prog 26 #[.string a0, .string a1] w fun e w' => e = .returned (.string r) ∧ Drawn0 w w' := by
  have H : (if a0.toList = ([] : List UInt8) then (some a1) else (some a0)) = some r := h
  clear h
  by_cases c3 : a0.toList = ([] : List UInt8)
  · rw [if_pos c3] at H
    have c3b0 : (a0.toList == ([] : List UInt8)) = true := beq_iff_eq.mpr c3
    have c3b1 : (a0.toList != ([] : List UInt8)) = false := bne_eq_false_iff_eq.mpr c3
    (try (have c3b2 : a0.toList.isEmpty = true := by simpa using c3))
    (try (have c3b3 : (!a0.toList.isEmpty) = false := by simpa using c3))
    clear c3
    obtain rfl := Option.some.inj H
    go_enter Try.func26, Try.ntmps26
    go_wp2
    go_ret
    exact ⟨by first | rfl | (simp; done) | (simp [*]; done), by repeat (first | exact Drawn0.refl _ | apply Drawn0.step)⟩
  · rw [if_neg c3] at H
    have c3b0 : (a0.toList == ([] : List UInt8)) = false := beq_eq_false_iff_ne.mpr c3
    have c3b1 : (a0.toList != ([] : List UInt8)) = true := bne_iff_ne.mpr c3
    (try (have c3b2 : a0.toList.isEmpty = false := by simpa using c3))
    (try (have c3b3 : (!a0.toList.isEmpty) = true := by simpa using c3))
    obtain rfl := Option.some.inj H
    go_enter Try.func26, Try.ntmps26
    go_wp2
    go_ret
    exact ⟨by first | rfl | (simp; done) | (simp [*]; done), by repeat (first | exact Drawn0.refl _ | apply Drawn0.step)⟩

/-! ### spec_KyGvkText: function 25 -/
def spec_KyGvkText.f (a0_0 : ByteArray) (a0_1 : ByteArray) (a0_2 : ByteArray) (a0_3 : ByteArray) (a0_4 : ByteArray) : Option (ByteArray) := (spec_kyOr.f a0_2 (⟨#[91, 110, 111, 75, 105, 110, 100, 93]⟩ : ByteArray)).bind fun t156 => (if t156.size + 1 ≤ 9223372036854775807 then ((spec_kyOr.f a0_1 (⟨#[91, 110, 111, 86, 101, 114, 93]⟩ : ByteArray)).bind fun t157 => (if (t156 ++ (⟨#[46]⟩ : ByteArray)).size + t157.size ≤ 9223372036854775807 then (if ((t156 ++ (⟨#[46]⟩ : ByteArray)) ++ t157).size + 1 ≤ 9223372036854775807 then ((spec_kyOr.f a0_0 (⟨#[91, 110, 111, 71, 114, 112, 93]⟩ : ByteArray)).bind fun t158 => (if (((t156 ++ (⟨#[46]⟩ : ByteArray)) ++ t157) ++ (⟨#[46]⟩ : ByteArray)).size + t158.size ≤ 9223372036854775807 then (some ((((t156 ++ (⟨#[46]⟩ : ByteArray)) ++ t157) ++ (⟨#[46]⟩ : ByteArray)) ++ t158)) else (none))) else (none)) else (none))) else (none))
set_option maxHeartbeats 8000000 in
set_option maxRecDepth 100000 in
theorem spec_KyGvkText.calls (a0_0 : ByteArray) (a0_1 : ByteArray) (a0_2 : ByteArray) (a0_3 : ByteArray) (a0_4 : ByteArray) (r : ByteArray) (w : World) (h : spec_KyGvkText.f a0_0 a0_1 a0_2 a0_3 a0_4 = some r) :
    Calls Try.prog 25 #[.agg #[.string a0_0, .string a0_1, .string a0_2, .string a0_3, .string a0_4]] w fun e w' => e = .returned (.string r) ∧ Below w.heap.size w w' := by
  have hu27 := Try.underlying27
  have HB := Aside0.mk (Below.refl w.heap.size w)
  have H : ((spec_kyOr.f a0_2 (⟨#[91, 110, 111, 75, 105, 110, 100, 93]⟩ : ByteArray)).bind fun t156 => (if t156.size + 1 ≤ 9223372036854775807 then ((spec_kyOr.f a0_1 (⟨#[91, 110, 111, 86, 101, 114, 93]⟩ : ByteArray)).bind fun t157 => (if (t156 ++ (⟨#[46]⟩ : ByteArray)).size + t157.size ≤ 9223372036854775807 then (if ((t156 ++ (⟨#[46]⟩ : ByteArray)) ++ t157).size + 1 ≤ 9223372036854775807 then ((spec_kyOr.f a0_0 (⟨#[91, 110, 111, 71, 114, 112, 93]⟩ : ByteArray)).bind fun t158 => (if (((t156 ++ (⟨#[46]⟩ : ByteArray)) ++ t157) ++ (⟨#[46]⟩ : ByteArray)).size + t158.size ≤ 9223372036854775807 then (some ((((t156 ++ (⟨#[46]⟩ : ByteArray)) ++ t157) ++ (⟨#[46]⟩ : ByteArray)) ++ t158)) else (none))) else (none)) else (none))) else (none))) = some r := h
  clear h
  replace H := Option.bind_eq_some_iff.mp H
  obtain ⟨t156, A20, H⟩ := H
  replace H : (if t156.size + 1 ≤ 9223372036854775807 then ((spec_kyOr.f a0_1 (⟨#[91, 110, 111, 86, 101, 114, 93]⟩ : ByteArray)).bind fun t157 => (if (t156 ++ (⟨#[46]⟩ : ByteArray)).size + t157.size ≤ 9223372036854775807 then (if ((t156 ++ (⟨#[46]⟩ : ByteArray)) ++ t157).size + 1 ≤ 9223372036854775807 then ((spec_kyOr.f a0_0 (⟨#[91, 110, 111, 71, 114, 112, 93]⟩ : ByteArray)).bind fun t158 => (if (((t156 ++ (⟨#[46]⟩ : ByteArray)) ++ t157) ++ (⟨#[46]⟩ : ByteArray)).size + t158.size ≤ 9223372036854775807 then (some ((((t156 ++ (⟨#[46]⟩ : ByteArray)) ++ t157) ++ (⟨#[46]⟩ : ByteArray)) ++ t158)) else (none))) else (none)) else (none))) else (none)) = some r := H
  have A2 := Aside0.mk A20
  clear A20
  by_cases c3 : t156.size + 1 ≤ 9223372036854775807
  · rw [if_pos c3] at H
    have c3b0 := eq_true c3
    have c3b1 : decide (t156.size + 1 ≤ 9223372036854775807) = true := decide_eq_true c3
    try have c3b2 : (9223372036854775807 < t156.size + 1) = False := eq_false (Nat.not_lt.2 c3)
    replace H := Option.bind_eq_some_iff.mp H
    obtain ⟨t157, A40, H⟩ := H
    replace H : (if (t156 ++ (⟨#[46]⟩ : ByteArray)).size + t157.size ≤ 9223372036854775807 then (if ((t156 ++ (⟨#[46]⟩ : ByteArray)) ++ t157).size + 1 ≤ 9223372036854775807 then ((spec_kyOr.f a0_0 (⟨#[91, 110, 111, 71, 114, 112, 93]⟩ : ByteArray)).bind fun t158 => (if (((t156 ++ (⟨#[46]⟩ : ByteArray)) ++ t157) ++ (⟨#[46]⟩ : ByteArray)).size + t158.size ≤ 9223372036854775807 then (some ((((t156 ++ (⟨#[46]⟩ : ByteArray)) ++ t157) ++ (⟨#[46]⟩ : ByteArray)) ++ t158)) else (none))) else (none)) else (none)) = some r := H
    have A4 := Aside0.mk A40
    clear A40
    by_cases c5 : (t156 ++ (⟨#[46]⟩ : ByteArray)).size + t157.size ≤ 9223372036854775807
    · rw [if_pos c5] at H
      have c5b0 := eq_true c5
      have c5b1 : decide ((t156 ++ (⟨#[46]⟩ : ByteArray)).size + t157.size ≤ 9223372036854775807) = true := decide_eq_true c5
      try have c5b2 : (9223372036854775807 < (t156 ++ (⟨#[46]⟩ : ByteArray)).size + t157.size) = False := eq_false (Nat.not_lt.2 c5)
      try (have c5b3 := c5b2; rw [ByteArray.size_append] at c5b3)
      try (have c5b4 : (9223372036854775807 < t156.size + 1 + t157.size) = False := by have h_ := c5b2; simp only [ByteArray.size_append] at h_; exact h_)
      by_cases c6 : ((t156 ++ (⟨#[46]⟩ : ByteArray)) ++ t157).size + 1 ≤ 9223372036854775807
      · rw [if_pos c6] at H
        have c6b0 := eq_true c6
        have c6b1 : decide (((t156 ++ (⟨#[46]⟩ : ByteArray)) ++ t157).size + 1 ≤ 9223372036854775807) = true := decide_eq_true c6
        try have c6b2 : (9223372036854775807 < ((t156 ++ (⟨#[46]⟩ : ByteArray)) ++ t157).size + 1) = False := eq_false (Nat.not_lt.2 c6)
        try (have c6b3 := c6b2; rw [ByteArray.size_append] at c6b3)
        try (have c6b4 : (9223372036854775807 < t156.size + 1 + t157.size + 1) = False := by have h_ := c6b2; simp only [ByteArray.size_append] at h_; exact h_)
        replace H := Option.bind_eq_some_iff.mp H
        obtain ⟨t158, A70, H⟩ := H
        replace H : (if (((t156 ++ (⟨#[46]⟩ : ByteArray)) ++ t157) ++ (⟨#[46]⟩ : ByteArray)).size + t158.size ≤ 9223372036854775807 then (some ((((t156 ++ (⟨#[46]⟩ : ByteArray)) ++ t157) ++ (⟨#[46]⟩ : ByteArray)) ++ t158)) else (none)) = some r := H
        have A7 := Aside0.mk A70
        clear A70
        by_cases c8 : (((t156 ++ (⟨#[46]⟩ : ByteArray)) ++ t157) ++ (⟨#[46]⟩ : ByteArray)).size + t158.size ≤ 9223372036854775807
        · rw [if_pos c8] at H
          have c8b0 := eq_true c8
          have c8b1 : decide ((((t156 ++ (⟨#[46]⟩ : ByteArray)) ++ t157) ++ (⟨#[46]⟩ : ByteArray)).size + t158.size ≤ 9223372036854775807) = true := decide_eq_true c8
          try have c8b2 : (9223372036854775807 < (((t156 ++ (⟨#[46]⟩ : ByteArray)) ++ t157) ++ (⟨#[46]⟩ : ByteArray)).size + t158.size) = False := eq_false (Nat.not_lt.2 c8)
          try (have c8b3 := c8b2; rw [ByteArray.size_append] at c8b3)
          try (have c8b4 : (9223372036854775807 < t156.size + 1 + t157.size + 1 + t158.size) = False := by have h_ := c8b2; simp only [ByteArray.size_append] at h_; exact h_)
          obtain rfl := Option.some.inj H
          go_enter Try.func25, Try.ntmps25
          go_wp2_with (first | ((with_reducible refine gate_dst (N := 1) rfl ?_); refine box_event ?hg (N := 1) ?hd (cs := #[.string a0_0, .string a0_1, .string a0_2, .string a0_3, .string a0_4]) (t := 27) ?hr ?_; (case hd => rfl); (case hg => rfl); (case hr => first | (go_simp; done) | (go_simp; rfl)); intro gb155 hg w9 hbox hb; have n0_ := Aside0.mk (below_step (by repeat (first | (with_reducible first | exact HB.out | apply below_alloc | apply pw_below_drewN | apply below_drew1) | exact HB.out)) hb); have n1_ := Aside0.mk (hbox); have n2_ := Aside0.mk ((by rw [hg]; exact (below_size (by repeat (first | (with_reducible first | exact HB.out | apply below_alloc | apply pw_below_drewN | apply below_drew1) | exact HB.out))) : w.heap.size ≤ gb155)); have n3_ := Aside0.mk ((by rw [hg]; exact (below_size (by repeat (first | (with_reducible first | exact HB.out | apply below_alloc | apply pw_below_drewN | apply below_drew1) | exact HB.out))) : w.heap.size ≤ gb155)); clear HB; have HB := n0_; have BK155 := n1_; have GW155 := n2_; have GE155 := n3_; clear n0_ n1_ n2_ n3_; clear hb hbox hg; have hcz10_0 : w9.cell? ⟨gb155, 0, none⟩ = some (.string a0_0) := (blk_cell BK155.out 0).trans rfl; have hcz10_1 : w9.cell? ⟨gb155, 1, none⟩ = some (.string a0_1) := (blk_cell BK155.out 1).trans rfl; have hcz10_2 : w9.cell? ⟨gb155, 2, none⟩ = some (.string a0_2) := (blk_cell BK155.out 2).trans rfl; have hcz10_3 : w9.cell? ⟨gb155, 3, none⟩ = some (.string a0_3) := (blk_cell BK155.out 3).trans rfl; have hcz10_4 : w9.cell? ⟨gb155, 4, none⟩ = some (.string a0_4) := (blk_cell BK155.out 4).trans rfl; have hfz10_0 := blk_frozen BK155.out 0; have hfz10_1 := blk_frozen BK155.out 1; have hfz10_2 := blk_frozen BK155.out 2; have hfz10_3 := blk_frozen BK155.out 3; have hfz10_4 := blk_frozen BK155.out 4) | (go_at_call 26; (with_reducible refine (spec_kyOr.calls a0_2 (⟨#[91, 110, 111, 75, 105, 110, 100, 93]⟩ : ByteArray) t156 _ A2.out).mono ?_); rintro e w' ⟨rfl, ⟨nd, rfl⟩⟩; (try first | exact ⟨rfl, _, World.drewN_drewN _ _ _⟩ | exact ⟨rfl, _, Eq.trans (World.drewN_drewN _ _ _) (congrArg (World.drewN _) (Nat.add_assoc _ _ _))⟩)) | (go_at_call 26; (with_reducible refine (spec_kyOr.calls a0_1 (⟨#[91, 110, 111, 86, 101, 114, 93]⟩ : ByteArray) t157 _ A4.out).mono ?_); rintro e w' ⟨rfl, ⟨nd, rfl⟩⟩; (try first | exact ⟨rfl, _, World.drewN_drewN _ _ _⟩ | exact ⟨rfl, _, Eq.trans (World.drewN_drewN _ _ _) (congrArg (World.drewN _) (Nat.add_assoc _ _ _))⟩)) | (go_at_call 26; (with_reducible refine (spec_kyOr.calls a0_0 (⟨#[91, 110, 111, 71, 114, 112, 93]⟩ : ByteArray) t158 _ A7.out).mono ?_); rintro e w' ⟨rfl, ⟨nd, rfl⟩⟩; (try first | exact ⟨rfl, _, World.drewN_drewN _ _ _⟩ | exact ⟨rfl, _, Eq.trans (World.drewN_drewN _ _ _) (congrArg (World.drewN _) (Nat.add_assoc _ _ _))⟩)))
          repeat (go_quiet (first | ((with_reducible refine gate_dst (N := 1) rfl ?_); refine box_event ?hg (N := 1) ?hd (cs := #[.string a0_0, .string a0_1, .string a0_2, .string a0_3, .string a0_4]) (t := 27) ?hr ?_; (case hd => rfl); (case hg => rfl); (case hr => first | (go_simp; done) | (go_simp; rfl)); intro gb155 hg w9 hbox hb; have n0_ := Aside0.mk (below_step (by repeat (first | (with_reducible first | exact HB.out | apply below_alloc | apply pw_below_drewN | apply below_drew1) | exact HB.out)) hb); have n1_ := Aside0.mk (hbox); have n2_ := Aside0.mk ((by rw [hg]; exact (below_size (by repeat (first | (with_reducible first | exact HB.out | apply below_alloc | apply pw_below_drewN | apply below_drew1) | exact HB.out))) : w.heap.size ≤ gb155)); have n3_ := Aside0.mk ((by rw [hg]; exact (below_size (by repeat (first | (with_reducible first | exact HB.out | apply below_alloc | apply pw_below_drewN | apply below_drew1) | exact HB.out))) : w.heap.size ≤ gb155)); clear HB; have HB := n0_; have BK155 := n1_; have GW155 := n2_; have GE155 := n3_; clear n0_ n1_ n2_ n3_; clear hb hbox hg; have hcz10_0 : w9.cell? ⟨gb155, 0, none⟩ = some (.string a0_0) := (blk_cell BK155.out 0).trans rfl; have hcz10_1 : w9.cell? ⟨gb155, 1, none⟩ = some (.string a0_1) := (blk_cell BK155.out 1).trans rfl; have hcz10_2 : w9.cell? ⟨gb155, 2, none⟩ = some (.string a0_2) := (blk_cell BK155.out 2).trans rfl; have hcz10_3 : w9.cell? ⟨gb155, 3, none⟩ = some (.string a0_3) := (blk_cell BK155.out 3).trans rfl; have hcz10_4 : w9.cell? ⟨gb155, 4, none⟩ = some (.string a0_4) := (blk_cell BK155.out 4).trans rfl; have hfz10_0 := blk_frozen BK155.out 0; have hfz10_1 := blk_frozen BK155.out 1; have hfz10_2 := blk_frozen BK155.out 2; have hfz10_3 := blk_frozen BK155.out 3; have hfz10_4 := blk_frozen BK155.out 4) | (go_at_call 26; (with_reducible refine (spec_kyOr.calls a0_2 (⟨#[91, 110, 111, 75, 105, 110, 100, 93]⟩ : ByteArray) t156 _ A2.out).mono ?_); rintro e w' ⟨rfl, ⟨nd, rfl⟩⟩; (try first | exact ⟨rfl, _, World.drewN_drewN _ _ _⟩ | exact ⟨rfl, _, Eq.trans (World.drewN_drewN _ _ _) (congrArg (World.drewN _) (Nat.add_assoc _ _ _))⟩)) | (go_at_call 26; (with_reducible refine (spec_kyOr.calls a0_1 (⟨#[91, 110, 111, 86, 101, 114, 93]⟩ : ByteArray) t157 _ A4.out).mono ?_); rintro e w' ⟨rfl, ⟨nd, rfl⟩⟩; (try first | exact ⟨rfl, _, World.drewN_drewN _ _ _⟩ | exact ⟨rfl, _, Eq.trans (World.drewN_drewN _ _ _) (congrArg (World.drewN _) (Nat.add_assoc _ _ _))⟩)) | (go_at_call 26; (with_reducible refine (spec_kyOr.calls a0_0 (⟨#[91, 110, 111, 71, 114, 112, 93]⟩ : ByteArray) t158 _ A7.out).mono ?_); rintro e w' ⟨rfl, ⟨nd, rfl⟩⟩; (try first | exact ⟨rfl, _, World.drewN_drewN _ _ _⟩ | exact ⟨rfl, _, Eq.trans (World.drewN_drewN _ _ _) (congrArg (World.drewN _) (Nat.add_assoc _ _ _))⟩))); try go_wp2_with (first | ((with_reducible refine gate_dst (N := 1) rfl ?_); refine box_event ?hg (N := 1) ?hd (cs := #[.string a0_0, .string a0_1, .string a0_2, .string a0_3, .string a0_4]) (t := 27) ?hr ?_; (case hd => rfl); (case hg => rfl); (case hr => first | (go_simp; done) | (go_simp; rfl)); intro gb155 hg w9 hbox hb; have n0_ := Aside0.mk (below_step (by repeat (first | (with_reducible first | exact HB.out | apply below_alloc | apply pw_below_drewN | apply below_drew1) | exact HB.out)) hb); have n1_ := Aside0.mk (hbox); have n2_ := Aside0.mk ((by rw [hg]; exact (below_size (by repeat (first | (with_reducible first | exact HB.out | apply below_alloc | apply pw_below_drewN | apply below_drew1) | exact HB.out))) : w.heap.size ≤ gb155)); have n3_ := Aside0.mk ((by rw [hg]; exact (below_size (by repeat (first | (with_reducible first | exact HB.out | apply below_alloc | apply pw_below_drewN | apply below_drew1) | exact HB.out))) : w.heap.size ≤ gb155)); clear HB; have HB := n0_; have BK155 := n1_; have GW155 := n2_; have GE155 := n3_; clear n0_ n1_ n2_ n3_; clear hb hbox hg; have hcz10_0 : w9.cell? ⟨gb155, 0, none⟩ = some (.string a0_0) := (blk_cell BK155.out 0).trans rfl; have hcz10_1 : w9.cell? ⟨gb155, 1, none⟩ = some (.string a0_1) := (blk_cell BK155.out 1).trans rfl; have hcz10_2 : w9.cell? ⟨gb155, 2, none⟩ = some (.string a0_2) := (blk_cell BK155.out 2).trans rfl; have hcz10_3 : w9.cell? ⟨gb155, 3, none⟩ = some (.string a0_3) := (blk_cell BK155.out 3).trans rfl; have hcz10_4 : w9.cell? ⟨gb155, 4, none⟩ = some (.string a0_4) := (blk_cell BK155.out 4).trans rfl; have hfz10_0 := blk_frozen BK155.out 0; have hfz10_1 := blk_frozen BK155.out 1; have hfz10_2 := blk_frozen BK155.out 2; have hfz10_3 := blk_frozen BK155.out 3; have hfz10_4 := blk_frozen BK155.out 4) | (go_at_call 26; (with_reducible refine (spec_kyOr.calls a0_2 (⟨#[91, 110, 111, 75, 105, 110, 100, 93]⟩ : ByteArray) t156 _ A2.out).mono ?_); rintro e w' ⟨rfl, ⟨nd, rfl⟩⟩; (try first | exact ⟨rfl, _, World.drewN_drewN _ _ _⟩ | exact ⟨rfl, _, Eq.trans (World.drewN_drewN _ _ _) (congrArg (World.drewN _) (Nat.add_assoc _ _ _))⟩)) | (go_at_call 26; (with_reducible refine (spec_kyOr.calls a0_1 (⟨#[91, 110, 111, 86, 101, 114, 93]⟩ : ByteArray) t157 _ A4.out).mono ?_); rintro e w' ⟨rfl, ⟨nd, rfl⟩⟩; (try first | exact ⟨rfl, _, World.drewN_drewN _ _ _⟩ | exact ⟨rfl, _, Eq.trans (World.drewN_drewN _ _ _) (congrArg (World.drewN _) (Nat.add_assoc _ _ _))⟩)) | (go_at_call 26; (with_reducible refine (spec_kyOr.calls a0_0 (⟨#[91, 110, 111, 71, 114, 112, 93]⟩ : ByteArray) t158 _ A7.out).mono ?_); rintro e w' ⟨rfl, ⟨nd, rfl⟩⟩; (try first | exact ⟨rfl, _, World.drewN_drewN _ _ _⟩ | exact ⟨rfl, _, Eq.trans (World.drewN_drewN _ _ _) (congrArg (World.drewN _) (Nat.add_assoc _ _ _))⟩))))
          go_ret
          exact ⟨by first | rfl | (simp [errW_none, errW_some] <;> rfl) | (simp [*, errW_none, errW_some] <;> rfl), by repeat (first | (with_reducible first | exact HB.out | apply below_alloc | apply pw_below_drewN | apply below_drew1 | refine below_set ?_ GE155.out) | exact HB.out)⟩
        · rw [if_neg c8] at H
          exact absurd H (by simp)
      · rw [if_neg c6] at H
        exact absurd H (by simp)
    · rw [if_neg c5] at H
      exact absurd H (by simp)
  · rw [if_neg c3] at H
    exact absurd H (by simp)

/-! ### spec_KyIdText: function 13 -/
def spec_KyIdText.f (a0_0 : ByteArray) (a0_1 : ByteArray) (a0_2 : ByteArray) (a0_3 : ByteArray) (a0_4 : ByteArray) : Option (ByteArray) := (spec_KyGvkText.f a0_0 a0_1 a0_2 a0_3 a0_4).bind fun t160 => (if t160.size + 1 ≤ 9223372036854775807 then ((spec_kyOr.f a0_3 (⟨#[91, 110, 111, 78, 97, 109, 101, 93]⟩ : ByteArray)).bind fun t161 => (if (t160 ++ (⟨#[47]⟩ : ByteArray)).size + t161.size ≤ 9223372036854775807 then (if ((t160 ++ (⟨#[47]⟩ : ByteArray)) ++ t161).size + 1 ≤ 9223372036854775807 then ((spec_kyOr.f a0_4 (⟨#[91, 110, 111, 78, 115, 93]⟩ : ByteArray)).bind fun t162 => (if (((t160 ++ (⟨#[47]⟩ : ByteArray)) ++ t161) ++ (⟨#[46]⟩ : ByteArray)).size + t162.size ≤ 9223372036854775807 then (some ((((t160 ++ (⟨#[47]⟩ : ByteArray)) ++ t161) ++ (⟨#[46]⟩ : ByteArray)) ++ t162)) else (none))) else (none)) else (none))) else (none))
def spec_KyIdText.T1 : Bool × List (List Nat × List Nat) := (true, [([], []), ([0], [0]), ([1], [1]), ([], []), ([3], [3]), ([4, 1], [4]), ([2, 5], [2, 5]), ([6], [6]), ([], []), ([8], [8]), ([9, 5], [9]), ([7, 10], [7, 10]), ([11, 10, 0, 1, 2, 3, 4, 5, 6, 7, 8, 9, 10, 11], [11])])
def spec_KyIdText.B1 : List Nat := [0, 1, 3, 0, 8, 27, 63, 127, 0, 256, 827, 2047, 4095]
theorem spec_KyIdText.tab1 : rtab .any (opsOf Try.f13 1) = spec_KyIdText.T1 := by kernel_rfl
theorem spec_KyIdText.bits1 : waitsOk spec_KyIdText.T1.2 spec_KyIdText.B1 = true := by kernel_rfl
set_option maxHeartbeats 8000000 in
set_option maxRecDepth 100000 in
theorem spec_KyIdText.calls (a0_0 : ByteArray) (a0_1 : ByteArray) (a0_2 : ByteArray) (a0_3 : ByteArray) (a0_4 : ByteArray) (r : ByteArray) (w : World) (h : spec_KyIdText.f a0_0 a0_1 a0_2 a0_3 a0_4 = some r) :
    Calls Try.prog 13 #[.agg #[.string a0_0, .string a0_1, .string a0_2, .string a0_3, .string a0_4]] w fun e w' => e = .returned (.string r) ∧ Below w.heap.size w w' := by
  have hu27 := Try.underlying27
  have HB := Aside0.mk (Below.refl w.heap.size w)
  have H : ((spec_KyGvkText.f a0_0 a0_1 a0_2 a0_3 a0_4).bind fun t160 => (if t160.size + 1 ≤ 9223372036854775807 then ((spec_kyOr.f a0_3 (⟨#[91, 110, 111, 78, 97, 109, 101, 93]⟩ : ByteArray)).bind fun t161 => (if (t160 ++ (⟨#[47]⟩ : ByteArray)).size + t161.size ≤ 9223372036854775807 then (if ((t160 ++ (⟨#[47]⟩ : ByteArray)) ++ t161).size + 1 ≤ 9223372036854775807 then ((spec_kyOr.f a0_4 (⟨#[91, 110, 111, 78, 115, 93]⟩ : ByteArray)).bind fun t162 => (if (((t160 ++ (⟨#[47]⟩ : ByteArray)) ++ t161) ++ (⟨#[46]⟩ : ByteArray)).size + t162.size ≤ 9223372036854775807 then (some ((((t160 ++ (⟨#[47]⟩ : ByteArray)) ++ t161) ++ (⟨#[46]⟩ : ByteArray)) ++ t162)) else (none))) else (none)) else (none))) else (none))) = some r := h
  clear h
  replace H := Option.bind_eq_some_iff.mp H
  obtain ⟨t160, A20, H⟩ := H
  replace H : (if t160.size + 1 ≤ 9223372036854775807 then ((spec_kyOr.f a0_3 (⟨#[91, 110, 111, 78, 97, 109, 101, 93]⟩ : ByteArray)).bind fun t161 => (if (t160 ++ (⟨#[47]⟩ : ByteArray)).size + t161.size ≤ 9223372036854775807 then (if ((t160 ++ (⟨#[47]⟩ : ByteArray)) ++ t161).size + 1 ≤ 9223372036854775807 then ((spec_kyOr.f a0_4 (⟨#[91, 110, 111, 78, 115, 93]⟩ : ByteArray)).bind fun t162 => (if (((t160 ++ (⟨#[47]⟩ : ByteArray)) ++ t161) ++ (⟨#[46]⟩ : ByteArray)).size + t162.size ≤ 9223372036854775807 then (some ((((t160 ++ (⟨#[47]⟩ : ByteArray)) ++ t161) ++ (⟨#[46]⟩ : ByteArray)) ++ t162)) else (none))) else (none)) else (none))) else (none)) = some r := H
  have A2 := Aside0.mk A20
  clear A20
  by_cases c3 : t160.size + 1 ≤ 9223372036854775807
  · rw [if_pos c3] at H
    have c3b0 := eq_true c3
    have c3b1 : decide (t160.size + 1 ≤ 9223372036854775807) = true := decide_eq_true c3
    try have c3b2 : (9223372036854775807 < t160.size + 1) = False := eq_false (Nat.not_lt.2 c3)
    replace H := Option.bind_eq_some_iff.mp H
    obtain ⟨t161, A40, H⟩ := H
    replace H : (if (t160 ++ (⟨#[47]⟩ : ByteArray)).size + t161.size ≤ 9223372036854775807 then (if ((t160 ++ (⟨#[47]⟩ : ByteArray)) ++ t161).size + 1 ≤ 9223372036854775807 then ((spec_kyOr.f a0_4 (⟨#[91, 110, 111, 78, 115, 93]⟩ : ByteArray)).bind fun t162 => (if (((t160 ++ (⟨#[47]⟩ : ByteArray)) ++ t161) ++ (⟨#[46]⟩ : ByteArray)).size + t162.size ≤ 9223372036854775807 then (some ((((t160 ++ (⟨#[47]⟩ : ByteArray)) ++ t161) ++ (⟨#[46]⟩ : ByteArray)) ++ t162)) else (none))) else (none)) else (none)) = some r := H
    have A4 := Aside0.mk A40
    clear A40
    by_cases c5 : (t160 ++ (⟨#[47]⟩ : ByteArray)).size + t161.size ≤ 9223372036854775807
    · rw [if_pos c5] at H
      have c5b0 := eq_true c5
      have c5b1 : decide ((t160 ++ (⟨#[47]⟩ : ByteArray)).size + t161.size ≤ 9223372036854775807) = true := decide_eq_true c5
      try have c5b2 : (9223372036854775807 < (t160 ++ (⟨#[47]⟩ : ByteArray)).size + t161.size) = False := eq_false (Nat.not_lt.2 c5)
      try (have c5b3 := c5b2; rw [ByteArray.size_append] at c5b3)
      try (have c5b4 : (9223372036854775807 < t160.size + 1 + t161.size) = False := by have h_ := c5b2; simp only [ByteArray.size_append] at h_; exact h_)
      by_cases c6 : ((t160 ++ (⟨#[47]⟩ : ByteArray)) ++ t161).size + 1 ≤ 9223372036854775807
      · rw [if_pos c6] at H
        have c6b0 := eq_true c6
        have c6b1 : decide (((t160 ++ (⟨#[47]⟩ : ByteArray)) ++ t161).size + 1 ≤ 9223372036854775807) = true := decide_eq_true c6
        try have c6b2 : (9223372036854775807 < ((t160 ++ (⟨#[47]⟩ : ByteArray)) ++ t161).size + 1) = False := eq_false (Nat.not_lt.2 c6)
        try (have c6b3 := c6b2; rw [ByteArray.size_append] at c6b3)
        try (have c6b4 : (9223372036854775807 < t160.size + 1 + t161.size + 1) = False := by have h_ := c6b2; simp only [ByteArray.size_append] at h_; exact h_)
        replace H := Option.bind_eq_some_iff.mp H
        obtain ⟨t162, A70, H⟩ := H
        replace H : (if (((t160 ++ (⟨#[47]⟩ : ByteArray)) ++ t161) ++ (⟨#[46]⟩ : ByteArray)).size + t162.size ≤ 9223372036854775807 then (some ((((t160 ++ (⟨#[47]⟩ : ByteArray)) ++ t161) ++ (⟨#[46]⟩ : ByteArray)) ++ t162)) else (none)) = some r := H
        have A7 := Aside0.mk A70
        clear A70
        by_cases c8 : (((t160 ++ (⟨#[47]⟩ : ByteArray)) ++ t161) ++ (⟨#[46]⟩ : ByteArray)).size + t162.size ≤ 9223372036854775807
        · rw [if_pos c8] at H
          have c8b0 := eq_true c8
          have c8b1 : decide ((((t160 ++ (⟨#[47]⟩ : ByteArray)) ++ t161) ++ (⟨#[46]⟩ : ByteArray)).size + t162.size ≤ 9223372036854775807) = true := decide_eq_true c8
          try have c8b2 : (9223372036854775807 < (((t160 ++ (⟨#[47]⟩ : ByteArray)) ++ t161) ++ (⟨#[46]⟩ : ByteArray)).size + t162.size) = False := eq_false (Nat.not_lt.2 c8)
          try (have c8b3 := c8b2; rw [ByteArray.size_append] at c8b3)
          try (have c8b4 : (9223372036854775807 < t160.size + 1 + t161.size + 1 + t162.size) = False := by have h_ := c8b2; simp only [ByteArray.size_append] at h_; exact h_)
          obtain rfl := Option.some.inj H
          go_enter Try.func13, Try.ntmps13
          try go_wp2_with (first | ((with_reducible refine gate_dst (N := 1) rfl ?_); refine box_event ?hg (N := 1) ?hd (cs := #[.string a0_0, .string a0_1, .string a0_2, .string a0_3, .string a0_4]) (t := 27) ?hr ?_; (case hd => rfl); (case hg => rfl); (case hr => first | (go_simp; done) | (go_simp; rfl)); intro gb159 hg w9 hbox hb; have n0_ := Aside0.mk (below_step (by repeat (first | (with_reducible first | exact HB.out | apply below_alloc | apply pw_below_drewN | apply below_drew1) | exact HB.out)) hb); have n1_ := Aside0.mk (hbox); have n2_ := Aside0.mk ((by rw [hg]; exact (below_size (by repeat (first | (with_reducible first | exact HB.out | apply below_alloc | apply pw_below_drewN | apply below_drew1) | exact HB.out))) : w.heap.size ≤ gb159)); have n3_ := Aside0.mk ((by rw [hg]; exact (below_size (by repeat (first | (with_reducible first | exact HB.out | apply below_alloc | apply pw_below_drewN | apply below_drew1) | exact HB.out))) : w.heap.size ≤ gb159)); clear HB; have HB := n0_; have BK159 := n1_; have GW159 := n2_; have GE159 := n3_; clear n0_ n1_ n2_ n3_; clear hb hbox hg))
          have n0_ := Aside0.mk (blk_drew BK159.out)
          have n1_ := Aside0.mk (below_drew1 HB.out)
          clear BK159
          clear HB
          have BK159 := n0_
          have HB := n1_
          clear n0_ n1_
          refine start_ (n := 13) (S := fun w' => w'.cell? ⟨gb159, 0, none⟩ = some (.string a0_0) ∧ w'.cell? ⟨gb159, 1, none⟩ = some (.string a0_1) ∧ w'.cell? ⟨gb159, 2, none⟩ = some (.string a0_2) ∧ w'.cell? ⟨gb159, 3, none⟩ = some (.string a0_3) ∧ w'.cell? ⟨gb159, 4, none⟩ = some (.string a0_4)) (ds := []) #[false, false, false, false, false, false, false, false, false, false, false, false, false] (by kernel_rfl) rfl rfl ⟨(blk_cell BK159.out 0).trans rfl, (blk_cell BK159.out 1).trans rfl, (blk_cell BK159.out 2).trans rfl, (blk_cell BK159.out 3).trans rfl, (blk_cell BK159.out 4).trans rfl⟩ (fun hHeld => ?_); refine with_tabW spec_KyIdText.tab1 spec_KyIdText.bits1 (fun HT_ HW_ => ?_)
          generalize w9.drew = w10 at BK159 HB hHeld ⊢
          refine pure_ (i := 3) (N := some 6) (v := ?_) (a' := ?_) #[false, false, false, true, false, false, false, false, false, false, false, false, false] rfl rfl (any_of HT_.out (by kernel_rfl)) (fun _ _ _ h => h) (Or.inl ⟨by rfl, ?_⟩) ?_ ?_
          rotate_left
          · intro w'
            go_simp
            with_reducible rfl
          rotate_left
          · simp only [Act.put, List.setIfInBounds_toArray, List.set_cons_zero, List.set_cons_succ, i64_w, i32_w]
            rfl
          refine pure_ (i := 8) (N := some 11) (v := ?_) (a' := ?_) #[false, false, false, true, false, false, false, false, true, false, false, false, false] rfl rfl (any_of HT_.out (by kernel_rfl)) (fun _ _ _ h => h) (Or.inl ⟨by rfl, ?_⟩) ?_ ?_
          rotate_left
          · intro w'
            go_simp
            with_reducible rfl
          rotate_left
          · simp only [Act.put, List.setIfInBounds_toArray, List.set_cons_zero, List.set_cons_succ, i64_w, i32_w]
            rfl
          refine take_ (i := 0) (N := some 3) (v := ?_) (a' := ?_) #[true, false, false, true, false, false, false, false, true, false, false, false, false] rfl rfl (take_ofW HT_.out HW_.out (by kernel_rfl)) (fun _ _ _ h => h) (Or.inl ⟨by rfl, ?_⟩) hHeld ?_ ?_
          rotate_left
          · rintro w' ⟨s0, s1, s2, s3, s4⟩
            go_simp
            with_reducible rfl
          rotate_left
          · simp only [Act.put, List.setIfInBounds_toArray, List.set_cons_zero, List.set_cons_succ, i64_w, i32_w]
            rfl
          refine take_ (i := 4) (N := some 7) (v := ?_) (a' := ?_) #[true, false, false, true, true, false, false, false, true, false, false, false, false] rfl rfl (take_ofW HT_.out HW_.out (by kernel_rfl)) (fun _ _ _ h => h) (Or.inl ⟨by rfl, ?_⟩) hHeld ?_ ?_
          rotate_left
          · rintro w' ⟨s0, s1, s2, s3, s4⟩
            go_simp
            with_reducible rfl
          rotate_left
          · simp only [Act.put, List.setIfInBounds_toArray, List.set_cons_zero, List.set_cons_succ, i64_w, i32_w]
            rfl
          refine take_ (i := 9) (N := some 12) (v := ?_) (a' := ?_) #[true, false, false, true, true, false, false, false, true, true, false, false, false] rfl rfl (take_ofW HT_.out HW_.out (by kernel_rfl)) (fun _ _ _ h => h) (Or.inl ⟨by rfl, ?_⟩) hHeld ?_ ?_
          rotate_left
          · rintro w' ⟨s0, s1, s2, s3, s4⟩
            go_simp
            with_reducible rfl
          rotate_left
          · simp only [Act.put, List.setIfInBounds_toArray, List.set_cons_zero, List.set_cons_succ, i64_w, i32_w]
            rfl
          refine one_ (i := 1) (N := some 4) #[true, true, false, true, true, false, false, false, true, true, false, false, false] rfl rfl (one_of HT_.out (by kernel_rfl)) (by decide) (fun K hK => ?_)
          refine goes_ Try.func25 (by kernel_rfl) rfl #[.agg #[.string a0_0, .string a0_1, .string a0_2, .string a0_3, .string a0_4]] (by rfl) rfl rfl (by (try simp only [List.map_toArray, List.map_cons, List.map_nil]); first | done | rfl | (simp only [List.length_drop, List.length_take]; rfl)) ?_
          with_reducible refine (spec_KyGvkText.calls a0_0 a0_1 a0_2 a0_3 a0_4 t160 _ A2.out).mono ?_
          rintro e w11 ⟨rfl, hb⟩
          refine ⟨_, rfl, ?_⟩
          have n0_ := Aside0.mk (blk_below (g := gb159) (o := .cells #[.string a0_0, .string a0_1, .string a0_2, .string a0_3, .string a0_4] 27 (0, 0)) (by (with_reducible repeat (first | refine blk_drewN ?_ _ | refine blk_drew ?_ | refine blk_alloc ?_ _)); exact BK159.out) hb)
          have n1_ := Aside0.mk (below_step (by repeat (first | (with_reducible first | exact HB.out | apply below_alloc | apply pw_below_drewN | apply below_drew1 | refine below_set ?_ GE159.out) | exact HB.out)) hb)
          clear BK159
          clear HB
          have BK159 := n0_
          have HB := n1_
          clear n0_ n1_
          (try clear hb)
          (try clear hb2)
          (try clear hk)
          (try clear hi)
          refine hK.out _ _ ⟨(blk_cell BK159.out 0).trans rfl, (blk_cell BK159.out 1).trans rfl, (blk_cell BK159.out 2).trans rfl, (blk_cell BK159.out 3).trans rfl, (blk_cell BK159.out 4).trans rfl⟩ (fun hHeld => ?_)
          clear hK K
          refine norm_ (a' := ?_) ?_ ?_
          rotate_left
          · show Act.put _ (some 4) _ = _
            simp only [Act.put, List.setIfInBounds_toArray, List.set_cons_zero, List.set_cons_succ, i64_w, i32_w]
            rfl
          refine pure_ (i := 2) (N := some 5) (v := ?_) (a' := ?_) #[true, true, true, true, true, false, false, false, true, true, false, false, false] rfl rfl (any_of HT_.out (by kernel_rfl)) (fun _ _ _ h => h) (Or.inl ⟨by rfl, ?_⟩) ?_ ?_
          rotate_left
          · intro w'
            go_simp
            with_reducible rfl
          rotate_left
          · simp only [Act.put, List.setIfInBounds_toArray, List.set_cons_zero, List.set_cons_succ, i64_w, i32_w]
            rfl
          refine one_ (i := 5) (N := some 8) #[true, true, true, true, true, true, false, false, true, true, false, false, false] rfl rfl (one_of HT_.out (by kernel_rfl)) (by decide) (fun K hK => ?_)
          refine goes_ Try.func26 (by kernel_rfl) rfl #[.string a0_3, .string (⟨#[91, 110, 111, 78, 97, 109, 101, 93]⟩ : ByteArray)] (by rfl) rfl rfl (by (try simp only [List.map_toArray, List.map_cons, List.map_nil]); first | done | rfl | (simp only [List.length_drop, List.length_take]; rfl)) ?_
          with_reducible refine (spec_kyOr.calls a0_3 (⟨#[91, 110, 111, 78, 97, 109, 101, 93]⟩ : ByteArray) t161 _ A4.out).mono ?_
          rintro e w' ⟨rfl, ⟨nd, rfl⟩⟩
          refine ⟨_, rfl, ?_⟩
          refine hK.out _ _ ⟨(blk_cell BK159.out 0).trans rfl, (blk_cell BK159.out 1).trans rfl, (blk_cell BK159.out 2).trans rfl, (blk_cell BK159.out 3).trans rfl, (blk_cell BK159.out 4).trans rfl⟩ (fun hHeld => ?_)
          clear hK K
          refine norm_ (a' := ?_) ?_ ?_
          rotate_left
          · show Act.put _ (some 8) _ = _
            simp only [Act.put, List.setIfInBounds_toArray, List.set_cons_zero, List.set_cons_succ, i64_w, i32_w]
            rfl
          refine pure_ (i := 6) (N := some 9) (v := ?_) (a' := ?_) #[true, true, true, true, true, true, true, false, true, true, false, false, false] rfl rfl (any_of HT_.out (by kernel_rfl)) (fun _ _ _ h => h) (Or.inl ⟨by rfl, ?_⟩) ?_ ?_
          rotate_left
          · intro w'
            go_simp
            with_reducible rfl
          rotate_left
          · simp only [Act.put, List.setIfInBounds_toArray, List.set_cons_zero, List.set_cons_succ, i64_w, i32_w]
            rfl
          refine pure_ (i := 7) (N := some 10) (v := ?_) (a' := ?_) #[true, true, true, true, true, true, true, true, true, true, false, false, false] rfl rfl (any_of HT_.out (by kernel_rfl)) (fun _ _ _ h => h) (Or.inl ⟨by rfl, ?_⟩) ?_ ?_
          rotate_left
          · intro w'
            go_simp
            with_reducible rfl
          rotate_left
          · simp only [Act.put, List.setIfInBounds_toArray, List.set_cons_zero, List.set_cons_succ, i64_w, i32_w]
            rfl
          refine one_ (i := 10) (N := some 13) #[true, true, true, true, true, true, true, true, true, true, true, false, false] rfl rfl (one_of HT_.out (by kernel_rfl)) (by decide) (fun K hK => ?_)
          refine goes_ Try.func26 (by kernel_rfl) rfl #[.string a0_4, .string (⟨#[91, 110, 111, 78, 115, 93]⟩ : ByteArray)] (by rfl) rfl rfl (by (try simp only [List.map_toArray, List.map_cons, List.map_nil]); first | done | rfl | (simp only [List.length_drop, List.length_take]; rfl)) ?_
          with_reducible refine (spec_kyOr.calls a0_4 (⟨#[91, 110, 111, 78, 115, 93]⟩ : ByteArray) t162 _ A7.out).mono ?_
          rintro e w' ⟨rfl, ⟨nd, rfl⟩⟩
          refine ⟨_, rfl, ?_⟩
          refine hK.out _ _ ⟨(blk_cell BK159.out 0).trans rfl, (blk_cell BK159.out 1).trans rfl, (blk_cell BK159.out 2).trans rfl, (blk_cell BK159.out 3).trans rfl, (blk_cell BK159.out 4).trans rfl⟩ (fun hHeld => ?_)
          clear hK K
          refine norm_ (a' := ?_) ?_ ?_
          rotate_left
          · show Act.put _ (some 13) _ = _
            simp only [Act.put, List.setIfInBounds_toArray, List.set_cons_zero, List.set_cons_succ, i64_w, i32_w]
            rfl
          refine pure_ (i := 11) (N := some 14) (v := ?_) (a' := ?_) #[true, true, true, true, true, true, true, true, true, true, true, true, false] rfl rfl (any_of HT_.out (by kernel_rfl)) (fun _ _ _ h => h) (Or.inl ⟨by rfl, ?_⟩) ?_ ?_
          rotate_left
          · intro w'
            go_simp
            with_reducible rfl
          rotate_left
          · simp only [Act.put, List.setIfInBounds_toArray, List.set_cons_zero, List.set_cons_succ, i64_w, i32_w]
            rfl
          refine pure_ (i := 12) (N := some 2) (v := ?_) (a' := ?_) #[true, true, true, true, true, true, true, true, true, true, true, true, true] rfl rfl (any_of HT_.out (by kernel_rfl)) (fun _ _ _ h => h) (Or.inl ⟨by rfl, ?_⟩) ?_ ?_
          rotate_left
          · intro w'
            go_simp
            with_reducible rfl
          rotate_left
          · simp only [Act.put, List.setIfInBounds_toArray, List.set_cons_zero, List.set_cons_succ, i64_w, i32_w]
            rfl
          refine done_ (done_of HT_.out (by kernel_rfl)) ?_
          try go_wp2
          go_ret
          exact ⟨by first | rfl | (simp [errW_none, errW_some] <;> rfl) | (simp [*, errW_none, errW_some] <;> rfl), by repeat (first | (with_reducible first | exact HB.out | apply below_alloc | apply pw_below_drewN | apply below_drew1 | refine below_set ?_ GE159.out) | exact HB.out)⟩
        · rw [if_neg c8] at H
          exact absurd H (by simp)
      · rw [if_neg c6] at H
        exact absurd H (by simp)
    · rw [if_neg c5] at H
      exact absurd H (by simp)
  · rw [if_neg c3] at H
    exact absurd H (by simp)

/-! ### laws_FnIdBack: function 4 -/
def laws_FnIdBack.f (k : Nat) (a0_0 : ByteArray) (a0_1 : ByteArray) (a0_2 : ByteArray) (a0_3 : ByteArray) (a0_4 : ByteArray) : Option (Bool) := (laws_zzFits12.f a0_0 a0_1 a0_2 a0_3 a0_4).bind fun t164 => (if t164 = true then ((laws_kyId.f k a0_0 a0_1 a0_2 a0_3 a0_4).bind fun bt165 => ((spec_KyIdText.f bt165.1 bt165.2.1 bt165.2.2.1 bt165.2.2.2.1 bt165.2.2.2.2).bind fun t170 => ((impl_IdOf.f k t170).bind fun bt171 => (if bt171.2.2.2.2.2 = 0 then (some (bt171.1.toList == bt165.1.toList && (bt171.2.1.toList == bt165.2.1.toList && (bt171.2.2.1.toList == bt165.2.2.1.toList && (bt171.2.2.2.1.toList == bt165.2.2.2.1.toList && (bt171.2.2.2.2.1.toList == bt165.2.2.2.2.toList)))))) else (some false))))) else (some true))
theorem laws_FnIdBack.mono : ∀ a0 a1 a2 a3 a4 k, LeO (laws_FnIdBack.f k a0 a1 a2 a3 a4) (laws_FnIdBack.f (k + 1) a0 a1 a2 a3 a4) := by
  intro a0 a1 a2 a3 a4 k
  unfold laws_FnIdBack.f
  repeat' first
      | (with_reducible exact impl_IdOf.mono _ _)
      | (with_reducible exact laws_kyId.mono _ _ _ _ _ _)
      | (with_reducible exact LeO.refl _)
      | (with_reducible exact LeO.none _)
      | (with_reducible refine LeO.ite ?_ ?_)
      | (with_reducible refine LeO.bind ?_ (fun _ => ?_))
      | exact impl_IdOf.mono _ _
      | exact laws_kyId.mono _ _ _ _ _ _
      | exact LeO.none _
      | refine LeO.ite ?_ ?_
      | refine LeO.bind ?_ (fun _ => ?_)
set_option maxHeartbeats 8000000 in
set_option maxRecDepth 100000 in
theorem laws_FnIdBack.calls (k : Nat) (a0_0 : ByteArray) (a0_1 : ByteArray) (a0_2 : ByteArray) (a0_3 : ByteArray) (a0_4 : ByteArray) (r : Bool) (w : World) (h : laws_FnIdBack.f k a0_0 a0_1 a0_2 a0_3 a0_4 = some r) :
    Calls Try.prog 4 #[.agg #[.string a0_0, .string a0_1, .string a0_2, .string a0_3, .string a0_4]] w fun e w' => e = .returned (.bool r) ∧ Below w.heap.size w w' := by
  have hu27 := Try.underlying27
  have HB := Aside0.mk (Below.refl w.heap.size w)
  have H : ((laws_zzFits12.f a0_0 a0_1 a0_2 a0_3 a0_4).bind fun t164 => (if t164 = true then ((laws_kyId.f k a0_0 a0_1 a0_2 a0_3 a0_4).bind fun bt165 => ((spec_KyIdText.f bt165.1 bt165.2.1 bt165.2.2.1 bt165.2.2.2.1 bt165.2.2.2.2).bind fun t170 => ((impl_IdOf.f k t170).bind fun bt171 => (if bt171.2.2.2.2.2 = 0 then (some (bt171.1.toList == bt165.1.toList && (bt171.2.1.toList == bt165.2.1.toList && (bt171.2.2.1.toList == bt165.2.2.1.toList && (bt171.2.2.2.1.toList == bt165.2.2.2.1.toList && (bt171.2.2.2.2.1.toList == bt165.2.2.2.2.toList)))))) else (some false))))) else (some true))) = some r := h
  clear h
  replace H := Option.bind_eq_some_iff.mp H
  obtain ⟨t164, A20, H⟩ := H
  replace H : (if t164 = true then ((laws_kyId.f k a0_0 a0_1 a0_2 a0_3 a0_4).bind fun bt165 => ((spec_KyIdText.f bt165.1 bt165.2.1 bt165.2.2.1 bt165.2.2.2.1 bt165.2.2.2.2).bind fun t170 => ((impl_IdOf.f k t170).bind fun bt171 => (if bt171.2.2.2.2.2 = 0 then (some (bt171.1.toList == bt165.1.toList && (bt171.2.1.toList == bt165.2.1.toList && (bt171.2.2.1.toList == bt165.2.2.1.toList && (bt171.2.2.2.1.toList == bt165.2.2.2.1.toList && (bt171.2.2.2.2.1.toList == bt165.2.2.2.2.toList)))))) else (some false))))) else (some true)) = some r := H
  have A2 := Aside0.mk A20
  clear A20
  by_cases c3 : t164 = true
  · subst c3
    have H1 : ((laws_kyId.f k a0_0 a0_1 a0_2 a0_3 a0_4).bind fun bt165 => ((spec_KyIdText.f bt165.1 bt165.2.1 bt165.2.2.1 bt165.2.2.2.1 bt165.2.2.2.2).bind fun t170 => ((impl_IdOf.f k t170).bind fun bt171 => (if bt171.2.2.2.2.2 = 0 then (some (bt171.1.toList == bt165.1.toList && (bt171.2.1.toList == bt165.2.1.toList && (bt171.2.2.1.toList == bt165.2.2.1.toList && (bt171.2.2.2.1.toList == bt165.2.2.2.1.toList && (bt171.2.2.2.2.1.toList == bt165.2.2.2.2.toList)))))) else (some false))))) = some r := by rw [if_pos rfl] at H; exact H
    clear H
    have H := H1
    clear H1
    replace H := Option.bind_eq_some_iff.mp H
    obtain ⟨⟨t165, t166, t167, t168, t169⟩, A40, H⟩ := H
    replace H : ((spec_KyIdText.f t165 t166 t167 t168 t169).bind fun t170 => ((impl_IdOf.f k t170).bind fun bt171 => (if bt171.2.2.2.2.2 = 0 then (some (bt171.1.toList == t165.toList && (bt171.2.1.toList == t166.toList && (bt171.2.2.1.toList == t167.toList && (bt171.2.2.2.1.toList == t168.toList && (bt171.2.2.2.2.1.toList == t169.toList)))))) else (some false)))) = some r := H
    have A4 := Aside0.mk A40
    clear A40
    replace H := Option.bind_eq_some_iff.mp H
    obtain ⟨t170, A50, H⟩ := H
    replace H : ((impl_IdOf.f k t170).bind fun bt171 => (if bt171.2.2.2.2.2 = 0 then (some (bt171.1.toList == t165.toList && (bt171.2.1.toList == t166.toList && (bt171.2.2.1.toList == t167.toList && (bt171.2.2.2.1.toList == t168.toList && (bt171.2.2.2.2.1.toList == t169.toList)))))) else (some false))) = some r := H
    have A5 := Aside0.mk A50
    clear A50
    replace H := Option.bind_eq_some_iff.mp H
    obtain ⟨⟨t171, t172, t173, t174, t175, t176⟩, A60, H⟩ := H
    replace H : (if t176 = 0 then (some (t171.toList == t165.toList && (t172.toList == t166.toList && (t173.toList == t167.toList && (t174.toList == t168.toList && (t175.toList == t169.toList)))))) else (some false)) = some r := H
    have A6 := Aside0.mk A60
    clear A60
    by_cases c7 : t176 = 0
    · rw [if_pos c7] at H
      have c7b0 : (t176 == 0) = true := beq_iff_eq.mpr c7
      have c7b1 : (t176 != 0) = false := bne_eq_false_iff_eq.mpr c7
      clear c7
      obtain rfl := Option.some.inj H
      go_enter Try.func4, Try.ntmps4
      go_wp2_with (first | ((with_reducible refine gate_dst (N := 1) rfl ?_); refine box_event ?hg (N := 1) ?hd (cs := #[.string a0_0, .string a0_1, .string a0_2, .string a0_3, .string a0_4]) (t := 27) ?hr ?_; (case hd => rfl); (case hg => rfl); (case hr => first | (go_simp; done) | (go_simp; rfl)); intro gb163 hg w8 hbox hb; have n0_ := Aside0.mk (below_step (by repeat (first | (with_reducible first | exact HB.out | apply below_alloc | apply pw_below_drewN | apply below_drew1) | exact HB.out)) hb); have n1_ := Aside0.mk (hbox); have n2_ := Aside0.mk ((by rw [hg]; exact (below_size (by repeat (first | (with_reducible first | exact HB.out | apply below_alloc | apply pw_below_drewN | apply below_drew1) | exact HB.out))) : w.heap.size ≤ gb163)); have n3_ := Aside0.mk ((by rw [hg]; exact (below_size (by repeat (first | (with_reducible first | exact HB.out | apply below_alloc | apply pw_below_drewN | apply below_drew1) | exact HB.out))) : w.heap.size ≤ gb163)); clear HB; have HB := n0_; have BK163 := n1_; have GW163 := n2_; have GE163 := n3_; clear n0_ n1_ n2_ n3_; clear hb hbox hg; have hcz9_0 : w8.cell? ⟨gb163, 0, none⟩ = some (.string a0_0) := (blk_cell BK163.out 0).trans rfl; have hcz9_1 : w8.cell? ⟨gb163, 1, none⟩ = some (.string a0_1) := (blk_cell BK163.out 1).trans rfl; have hcz9_2 : w8.cell? ⟨gb163, 2, none⟩ = some (.string a0_2) := (blk_cell BK163.out 2).trans rfl; have hcz9_3 : w8.cell? ⟨gb163, 3, none⟩ = some (.string a0_3) := (blk_cell BK163.out 3).trans rfl; have hcz9_4 : w8.cell? ⟨gb163, 4, none⟩ = some (.string a0_4) := (blk_cell BK163.out 4).trans rfl; have hfz9_0 := blk_frozen BK163.out 0; have hfz9_1 := blk_frozen BK163.out 1; have hfz9_2 := blk_frozen BK163.out 2; have hfz9_3 := blk_frozen BK163.out 3; have hfz9_4 := blk_frozen BK163.out 4) | ((with_reducible refine gate_callee (f := 10) rfl ?_); refine goesL_ (some 6) rfl rfl Try.func10 (by kernel_rfl) rfl #[.agg #[.string a0_0, .string a0_1, .string a0_2, .string a0_3, .string a0_4]] rfl (by (try simp only [List.map_toArray, List.map_cons, List.map_nil]); first | done | rfl | (simp only [List.length_drop, List.length_take]; rfl)) ?_; (with_reducible refine (laws_zzFits12.calls a0_0 a0_1 a0_2 a0_3 a0_4 true _ A2.out).mono ?_); rintro e w10 ⟨rfl, hb⟩; refine ⟨_, rfl, ?_⟩; have n0_ := Aside0.mk (blk_below (g := gb163) (o := .cells #[.string a0_0, .string a0_1, .string a0_2, .string a0_3, .string a0_4] 27 (0, 0)) (by (with_reducible repeat (first | refine blk_drewN ?_ _ | refine blk_drew ?_ | refine blk_alloc ?_ _)); exact BK163.out) hb); have n1_ := Aside0.mk (below_step (by repeat (first | (with_reducible first | exact HB.out | apply below_alloc | apply pw_below_drewN | apply below_drew1 | refine below_set ?_ GE163.out) | exact HB.out)) hb); clear BK163; clear HB; have BK163 := n0_; have HB := n1_; clear n0_ n1_; (try clear hb); (try clear hb2); (try clear hk); (try clear hi); have hcz11_0 : w10.cell? ⟨gb163, 0, none⟩ = some (.string a0_0) := (blk_cell BK163.out 0).trans rfl; have hcz11_1 : w10.cell? ⟨gb163, 1, none⟩ = some (.string a0_1) := (blk_cell BK163.out 1).trans rfl; have hcz11_2 : w10.cell? ⟨gb163, 2, none⟩ = some (.string a0_2) := (blk_cell BK163.out 2).trans rfl; have hcz11_3 : w10.cell? ⟨gb163, 3, none⟩ = some (.string a0_3) := (blk_cell BK163.out 3).trans rfl; have hcz11_4 : w10.cell? ⟨gb163, 4, none⟩ = some (.string a0_4) := (blk_cell BK163.out 4).trans rfl; have hfz11_0 := blk_frozen BK163.out 0; have hfz11_1 := blk_frozen BK163.out 1; have hfz11_2 := blk_frozen BK163.out 2; have hfz11_3 := blk_frozen BK163.out 3; have hfz11_4 := blk_frozen BK163.out 4) | ((with_reducible refine gate_callee (f := 11) rfl ?_); refine goesL_ (some 9) rfl rfl Try.func11 (by kernel_rfl) rfl #[.agg #[.string a0_0, .string a0_1, .string a0_2, .string a0_3, .string a0_4]] rfl (by (try simp only [List.map_toArray, List.map_cons, List.map_nil]); first | done | rfl | (simp only [List.length_drop, List.length_take]; rfl)) ?_; (with_reducible refine (laws_kyId.calls k a0_0 a0_1 a0_2 a0_3 a0_4 t165 t166 t167 t168 t169 _ A4.out).mono ?_); rintro e w12 ⟨rfl, hb⟩; refine ⟨_, rfl, ?_⟩; have n0_ := Aside0.mk (blk_below (g := gb163) (o := .cells #[.string a0_0, .string a0_1, .string a0_2, .string a0_3, .string a0_4] 27 (0, 0)) (by (with_reducible repeat (first | refine blk_drewN ?_ _ | refine blk_drew ?_ | refine blk_alloc ?_ _)); exact BK163.out) hb); have n1_ := Aside0.mk (below_step (by repeat (first | (with_reducible first | exact HB.out | apply below_alloc | apply pw_below_drewN | apply below_drew1 | refine below_set ?_ GE163.out) | exact HB.out)) hb); clear BK163; clear HB; have BK163 := n0_; have HB := n1_; clear n0_ n1_; (try clear hb); (try clear hb2); (try clear hk); (try clear hi); have hcz13_0 : w12.cell? ⟨gb163, 0, none⟩ = some (.string a0_0) := (blk_cell BK163.out 0).trans rfl; have hcz13_1 : w12.cell? ⟨gb163, 1, none⟩ = some (.string a0_1) := (blk_cell BK163.out 1).trans rfl; have hcz13_2 : w12.cell? ⟨gb163, 2, none⟩ = some (.string a0_2) := (blk_cell BK163.out 2).trans rfl; have hcz13_3 : w12.cell? ⟨gb163, 3, none⟩ = some (.string a0_3) := (blk_cell BK163.out 3).trans rfl; have hcz13_4 : w12.cell? ⟨gb163, 4, none⟩ = some (.string a0_4) := (blk_cell BK163.out 4).trans rfl; have hfz13_0 := blk_frozen BK163.out 0; have hfz13_1 := blk_frozen BK163.out 1; have hfz13_2 := blk_frozen BK163.out 2; have hfz13_3 := blk_frozen BK163.out 3; have hfz13_4 := blk_frozen BK163.out 4) | ((with_reducible refine gate_callee (f := 13) rfl ?_); refine goesL_ (some 12) rfl rfl Try.func13 (by kernel_rfl) rfl #[.agg #[.string t165, .string t166, .string t167, .string t168, .string t169]] rfl (by (try simp only [List.map_toArray, List.map_cons, List.map_nil]); first | done | rfl | (simp only [List.length_drop, List.length_take]; rfl)) ?_; (with_reducible refine (spec_KyIdText.calls t165 t166 t167 t168 t169 t170 _ A5.out).mono ?_); rintro e w14 ⟨rfl, hb⟩; refine ⟨_, rfl, ?_⟩; have n0_ := Aside0.mk (blk_below (g := gb163) (o := .cells #[.string t165, .string t166, .string t167, .string t168, .string t169] 27 (0, 0)) (by (with_reducible repeat (first | refine blk_drewN ?_ _ | refine blk_drew ?_ | refine blk_alloc ?_ _)); refine blk_put (cs := #[.string t165, .string t166, .string t167, .string t168, .string a0_4]) ?_ 4 _ rfl; (with_reducible repeat (first | refine blk_drewN ?_ _ | refine blk_drew ?_ | refine blk_alloc ?_ _)); refine blk_put (cs := #[.string t165, .string t166, .string t167, .string a0_3, .string a0_4]) ?_ 3 _ rfl; (with_reducible repeat (first | refine blk_drewN ?_ _ | refine blk_drew ?_ | refine blk_alloc ?_ _)); refine blk_put (cs := #[.string t165, .string t166, .string a0_2, .string a0_3, .string a0_4]) ?_ 2 _ rfl; (with_reducible repeat (first | refine blk_drewN ?_ _ | refine blk_drew ?_ | refine blk_alloc ?_ _)); refine blk_put (cs := #[.string t165, .string a0_1, .string a0_2, .string a0_3, .string a0_4]) ?_ 1 _ rfl; (with_reducible repeat (first | refine blk_drewN ?_ _ | refine blk_drew ?_ | refine blk_alloc ?_ _)); refine blk_put (cs := #[.string a0_0, .string a0_1, .string a0_2, .string a0_3, .string a0_4]) ?_ 0 _ rfl; (with_reducible repeat (first | refine blk_drewN ?_ _ | refine blk_drew ?_ | refine blk_alloc ?_ _)); exact BK163.out) hb); have n1_ := Aside0.mk (below_step (by repeat (first | (with_reducible first | exact HB.out | apply below_alloc | apply pw_below_drewN | apply below_drew1 | refine below_set ?_ GE163.out) | exact HB.out)) hb); clear BK163; clear HB; have BK163 := n0_; have HB := n1_; clear n0_ n1_; (try clear hb); (try clear hb2); (try clear hk); (try clear hi)) | ((with_reducible refine gate_callee (f := 12) rfl ?_); refine goesL_ (some 13) rfl rfl Try.func12 (by kernel_rfl) rfl #[.string t170] rfl (by (try simp only [List.map_toArray, List.map_cons, List.map_nil]); first | done | rfl | (simp only [List.length_drop, List.length_take]; rfl)) ?_; (with_reducible refine (impl_IdOf.calls k t170 t171 t172 t173 t174 t175 t176 _ A6.out).mono ?_); rintro e w15 ⟨rfl, hb⟩; refine ⟨_, rfl, ?_⟩; have n0_ := Aside0.mk (blk_below (g := gb163) (o := .cells #[.string t165, .string t166, .string t167, .string t168, .string t169] 27 (0, 0)) (by (with_reducible repeat (first | refine blk_drewN ?_ _ | refine blk_drew ?_ | refine blk_alloc ?_ _)); exact BK163.out) hb); have n1_ := Aside0.mk (below_step (by repeat (first | (with_reducible first | exact HB.out | apply below_alloc | apply pw_below_drewN | apply below_drew1 | refine below_set ?_ GE163.out) | exact HB.out)) hb); clear BK163; clear HB; have BK163 := n0_; have HB := n1_; clear n0_ n1_; (try clear hb); (try clear hb2); (try clear hk); (try clear hi)) | ((with_reducible refine gate_dst (N := 3) rfl ?_); refine box_event ?hg (N := 3) ?hd (cs := #[.string (⟨#[]⟩ : ByteArray), .string (⟨#[]⟩ : ByteArray), .string (⟨#[]⟩ : ByteArray), .string (⟨#[]⟩ : ByteArray), .string (⟨#[]⟩ : ByteArray)]) (t := 27) ?hr ?_; (case hd => rfl); (case hg => rfl); (case hr => first | (go_simp; done) | (go_simp; rfl)); intro gb177 hg w16 hbox hb; have n0_ := Aside0.mk (blk_below (g := gb163) (o := .cells #[.string t165, .string t166, .string t167, .string t168, .string t169] 27 (0, 0)) (by (with_reducible repeat (first | refine blk_drewN ?_ _ | refine blk_drew ?_ | refine blk_alloc ?_ _)); exact BK163.out) hb); have n1_ := Aside0.mk (below_step (by repeat (first | (with_reducible first | exact HB.out | apply below_alloc | apply pw_below_drewN | apply below_drew1 | refine below_set ?_ GE163.out) | exact HB.out)) hb); have n2_ := Aside0.mk (hbox); have n3_ := Aside0.mk ((by rw [hg]; exact (below_size (by repeat (first | (with_reducible first | exact HB.out | apply below_alloc | apply pw_below_drewN | apply below_drew1 | refine below_set ?_ GE163.out) | exact HB.out))) : w.heap.size ≤ gb177)); have n4_ := Aside0.mk ((by rw [hg]; exact (below_size (by repeat (first | (with_reducible first | exact HB.out | apply below_alloc | apply pw_below_drewN | apply below_drew1 | refine below_set ?_ GE163.out) | exact HB.out))) : w.heap.size ≤ gb177)); have n5_ := Aside0.mk ((by rw [hg]; exact Nat.ne_of_lt (blk_lt (g := gb163) (o := .cells #[.string t165, .string t166, .string t167, .string t168, .string t169] 27 (0, 0)) (by (with_reducible repeat (first | refine blk_drewN ?_ _ | refine blk_drew ?_ | refine blk_alloc ?_ _)); exact BK163.out)) : gb163 ≠ gb177)); have n6_ := Aside0.mk ((by rw [hg]; exact Nat.ne_of_gt (blk_lt (g := gb163) (o := .cells #[.string t165, .string t166, .string t167, .string t168, .string t169] 27 (0, 0)) (by (with_reducible repeat (first | refine blk_drewN ?_ _ | refine blk_drew ?_ | refine blk_alloc ?_ _)); exact BK163.out)) : gb177 ≠ gb163)); clear BK163; clear HB; have BK163 := n0_; have HB := n1_; have BK177 := n2_; have GW177 := n3_; have GE177 := n4_; have NB163_177 := n5_; have NB177_163 := n6_; clear n0_ n1_ n2_ n3_ n4_ n5_ n6_; clear hb hbox hg; have hnb17 := NB177_163.out; have hnc17 := NB163_177.out; have hcz18_0 : w16.cell? ⟨gb177, 0, none⟩ = some (.string (⟨#[]⟩ : ByteArray)) := (blk_cell BK177.out 0).trans rfl; have hcz18_1 : w16.cell? ⟨gb177, 1, none⟩ = some (.string (⟨#[]⟩ : ByteArray)) := (blk_cell BK177.out 1).trans rfl; have hcz18_2 : w16.cell? ⟨gb177, 2, none⟩ = some (.string (⟨#[]⟩ : ByteArray)) := (blk_cell BK177.out 2).trans rfl; have hcz18_3 : w16.cell? ⟨gb177, 3, none⟩ = some (.string (⟨#[]⟩ : ByteArray)) := (blk_cell BK177.out 3).trans rfl; have hcz18_4 : w16.cell? ⟨gb177, 4, none⟩ = some (.string (⟨#[]⟩ : ByteArray)) := (blk_cell BK177.out 4).trans rfl; have hfz18_0 := blk_frozen BK177.out 0; have hfz18_1 := blk_frozen BK177.out 1; have hfz18_2 := blk_frozen BK177.out 2; have hfz18_3 := blk_frozen BK177.out 3; have hfz18_4 := blk_frozen BK177.out 4; have hcz19_0 : w16.cell? ⟨gb163, 0, none⟩ = some (.string t165) := (blk_cell BK163.out 0).trans rfl; have hcz19_1 : w16.cell? ⟨gb163, 1, none⟩ = some (.string t166) := (blk_cell BK163.out 1).trans rfl; have hcz19_2 : w16.cell? ⟨gb163, 2, none⟩ = some (.string t167) := (blk_cell BK163.out 2).trans rfl; have hcz19_3 : w16.cell? ⟨gb163, 3, none⟩ = some (.string t168) := (blk_cell BK163.out 3).trans rfl; have hcz19_4 : w16.cell? ⟨gb163, 4, none⟩ = some (.string t169) := (blk_cell BK163.out 4).trans rfl; have hfz19_0 := blk_frozen BK163.out 0; have hfz19_1 := blk_frozen BK163.out 1; have hfz19_2 := blk_frozen BK163.out 2; have hfz19_3 := blk_frozen BK163.out 3; have hfz19_4 := blk_frozen BK163.out 4))
      go_ret
      exact ⟨by first | rfl | (simp [errW_none, errW_some] <;> rfl) | (simp [*, errW_none, errW_some] <;> rfl), by repeat (first | (with_reducible first | exact HB.out | apply below_alloc | apply pw_below_drewN | apply below_drew1 | refine below_set ?_ GE163.out | refine below_set ?_ GE177.out) | exact HB.out)⟩
    · rw [if_neg c7] at H
      have c7b0 : (t176 == 0) = false := beq_eq_false_iff_ne.mpr c7
      have c7b1 : (t176 != 0) = true := bne_iff_ne.mpr c7
      obtain rfl := Option.some.inj H
      go_enter Try.func4, Try.ntmps4
      go_wp2_with (first | ((with_reducible refine gate_dst (N := 1) rfl ?_); refine box_event ?hg (N := 1) ?hd (cs := #[.string a0_0, .string a0_1, .string a0_2, .string a0_3, .string a0_4]) (t := 27) ?hr ?_; (case hd => rfl); (case hg => rfl); (case hr => first | (go_simp; done) | (go_simp; rfl)); intro gb163 hg w20 hbox hb; have n0_ := Aside0.mk (below_step (by repeat (first | (with_reducible first | exact HB.out | apply below_alloc | apply pw_below_drewN | apply below_drew1) | exact HB.out)) hb); have n1_ := Aside0.mk (hbox); have n2_ := Aside0.mk ((by rw [hg]; exact (below_size (by repeat (first | (with_reducible first | exact HB.out | apply below_alloc | apply pw_below_drewN | apply below_drew1) | exact HB.out))) : w.heap.size ≤ gb163)); have n3_ := Aside0.mk ((by rw [hg]; exact (below_size (by repeat (first | (with_reducible first | exact HB.out | apply below_alloc | apply pw_below_drewN | apply below_drew1) | exact HB.out))) : w.heap.size ≤ gb163)); clear HB; have HB := n0_; have BK163 := n1_; have GW163 := n2_; have GE163 := n3_; clear n0_ n1_ n2_ n3_; clear hb hbox hg; have hcz21_0 : w20.cell? ⟨gb163, 0, none⟩ = some (.string a0_0) := (blk_cell BK163.out 0).trans rfl; have hcz21_1 : w20.cell? ⟨gb163, 1, none⟩ = some (.string a0_1) := (blk_cell BK163.out 1).trans rfl; have hcz21_2 : w20.cell? ⟨gb163, 2, none⟩ = some (.string a0_2) := (blk_cell BK163.out 2).trans rfl; have hcz21_3 : w20.cell? ⟨gb163, 3, none⟩ = some (.string a0_3) := (blk_cell BK163.out 3).trans rfl; have hcz21_4 : w20.cell? ⟨gb163, 4, none⟩ = some (.string a0_4) := (blk_cell BK163.out 4).trans rfl; have hfz21_0 := blk_frozen BK163.out 0; have hfz21_1 := blk_frozen BK163.out 1; have hfz21_2 := blk_frozen BK163.out 2; have hfz21_3 := blk_frozen BK163.out 3; have hfz21_4 := blk_frozen BK163.out 4) | ((with_reducible refine gate_callee (f := 10) rfl ?_); refine goesL_ (some 6) rfl rfl Try.func10 (by kernel_rfl) rfl #[.agg #[.string a0_0, .string a0_1, .string a0_2, .string a0_3, .string a0_4]] rfl (by (try simp only [List.map_toArray, List.map_cons, List.map_nil]); first | done | rfl | (simp only [List.length_drop, List.length_take]; rfl)) ?_; (with_reducible refine (laws_zzFits12.calls a0_0 a0_1 a0_2 a0_3 a0_4 true _ A2.out).mono ?_); rintro e w22 ⟨rfl, hb⟩; refine ⟨_, rfl, ?_⟩; have n0_ := Aside0.mk (blk_below (g := gb163) (o := .cells #[.string a0_0, .string a0_1, .string a0_2, .string a0_3, .string a0_4] 27 (0, 0)) (by (with_reducible repeat (first | refine blk_drewN ?_ _ | refine blk_drew ?_ | refine blk_alloc ?_ _)); exact BK163.out) hb); have n1_ := Aside0.mk (below_step (by repeat (first | (with_reducible first | exact HB.out | apply below_alloc | apply pw_below_drewN | apply below_drew1 | refine below_set ?_ GE163.out) | exact HB.out)) hb); clear BK163; clear HB; have BK163 := n0_; have HB := n1_; clear n0_ n1_; (try clear hb); (try clear hb2); (try clear hk); (try clear hi); have hcz23_0 : w22.cell? ⟨gb163, 0, none⟩ = some (.string a0_0) := (blk_cell BK163.out 0).trans rfl; have hcz23_1 : w22.cell? ⟨gb163, 1, none⟩ = some (.string a0_1) := (blk_cell BK163.out 1).trans rfl; have hcz23_2 : w22.cell? ⟨gb163, 2, none⟩ = some (.string a0_2) := (blk_cell BK163.out 2).trans rfl; have hcz23_3 : w22.cell? ⟨gb163, 3, none⟩ = some (.string a0_3) := (blk_cell BK163.out 3).trans rfl; have hcz23_4 : w22.cell? ⟨gb163, 4, none⟩ = some (.string a0_4) := (blk_cell BK163.out 4).trans rfl; have hfz23_0 := blk_frozen BK163.out 0; have hfz23_1 := blk_frozen BK163.out 1; have hfz23_2 := blk_frozen BK163.out 2; have hfz23_3 := blk_frozen BK163.out 3; have hfz23_4 := blk_frozen BK163.out 4) | ((with_reducible refine gate_callee (f := 11) rfl ?_); refine goesL_ (some 9) rfl rfl Try.func11 (by kernel_rfl) rfl #[.agg #[.string a0_0, .string a0_1, .string a0_2, .string a0_3, .string a0_4]] rfl (by (try simp only [List.map_toArray, List.map_cons, List.map_nil]); first | done | rfl | (simp only [List.length_drop, List.length_take]; rfl)) ?_; (with_reducible refine (laws_kyId.calls k a0_0 a0_1 a0_2 a0_3 a0_4 t165 t166 t167 t168 t169 _ A4.out).mono ?_); rintro e w24 ⟨rfl, hb⟩; refine ⟨_, rfl, ?_⟩; have n0_ := Aside0.mk (blk_below (g := gb163) (o := .cells #[.string a0_0, .string a0_1, .string a0_2, .string a0_3, .string a0_4] 27 (0, 0)) (by (with_reducible repeat (first | refine blk_drewN ?_ _ | refine blk_drew ?_ | refine blk_alloc ?_ _)); exact BK163.out) hb); have n1_ := Aside0.mk (below_step (by repeat (first | (with_reducible first | exact HB.out | apply below_alloc | apply pw_below_drewN | apply below_drew1 | refine below_set ?_ GE163.out) | exact HB.out)) hb); clear BK163; clear HB; have BK163 := n0_; have HB := n1_; clear n0_ n1_; (try clear hb); (try clear hb2); (try clear hk); (try clear hi); have hcz25_0 : w24.cell? ⟨gb163, 0, none⟩ = some (.string a0_0) := (blk_cell BK163.out 0).trans rfl; have hcz25_1 : w24.cell? ⟨gb163, 1, none⟩ = some (.string a0_1) := (blk_cell BK163.out 1).trans rfl; have hcz25_2 : w24.cell? ⟨gb163, 2, none⟩ = some (.string a0_2) := (blk_cell BK163.out 2).trans rfl; have hcz25_3 : w24.cell? ⟨gb163, 3, none⟩ = some (.string a0_3) := (blk_cell BK163.out 3).trans rfl; have hcz25_4 : w24.cell? ⟨gb163, 4, none⟩ = some (.string a0_4) := (blk_cell BK163.out 4).trans rfl; have hfz25_0 := blk_frozen BK163.out 0; have hfz25_1 := blk_frozen BK163.out 1; have hfz25_2 := blk_frozen BK163.out 2; have hfz25_3 := blk_frozen BK163.out 3; have hfz25_4 := blk_frozen BK163.out 4) | ((with_reducible refine gate_callee (f := 13) rfl ?_); refine goesL_ (some 12) rfl rfl Try.func13 (by kernel_rfl) rfl #[.agg #[.string t165, .string t166, .string t167, .string t168, .string t169]] rfl (by (try simp only [List.map_toArray, List.map_cons, List.map_nil]); first | done | rfl | (simp only [List.length_drop, List.length_take]; rfl)) ?_; (with_reducible refine (spec_KyIdText.calls t165 t166 t167 t168 t169 t170 _ A5.out).mono ?_); rintro e w26 ⟨rfl, hb⟩; refine ⟨_, rfl, ?_⟩; have n0_ := Aside0.mk (blk_below (g := gb163) (o := .cells #[.string t165, .string t166, .string t167, .string t168, .string t169] 27 (0, 0)) (by (with_reducible repeat (first | refine blk_drewN ?_ _ | refine blk_drew ?_ | refine blk_alloc ?_ _)); refine blk_put (cs := #[.string t165, .string t166, .string t167, .string t168, .string a0_4]) ?_ 4 _ rfl; (with_reducible repeat (first | refine blk_drewN ?_ _ | refine blk_drew ?_ | refine blk_alloc ?_ _)); refine blk_put (cs := #[.string t165, .string t166, .string t167, .string a0_3, .string a0_4]) ?_ 3 _ rfl; (with_reducible repeat (first | refine blk_drewN ?_ _ | refine blk_drew ?_ | refine blk_alloc ?_ _)); refine blk_put (cs := #[.string t165, .string t166, .string a0_2, .string a0_3, .string a0_4]) ?_ 2 _ rfl; (with_reducible repeat (first | refine blk_drewN ?_ _ | refine blk_drew ?_ | refine blk_alloc ?_ _)); refine blk_put (cs := #[.string t165, .string a0_1, .string a0_2, .string a0_3, .string a0_4]) ?_ 1 _ rfl; (with_reducible repeat (first | refine blk_drewN ?_ _ | refine blk_drew ?_ | refine blk_alloc ?_ _)); refine blk_put (cs := #[.string a0_0, .string a0_1, .string a0_2, .string a0_3, .string a0_4]) ?_ 0 _ rfl; (with_reducible repeat (first | refine blk_drewN ?_ _ | refine blk_drew ?_ | refine blk_alloc ?_ _)); exact BK163.out) hb); have n1_ := Aside0.mk (below_step (by repeat (first | (with_reducible first | exact HB.out | apply below_alloc | apply pw_below_drewN | apply below_drew1 | refine below_set ?_ GE163.out) | exact HB.out)) hb); clear BK163; clear HB; have BK163 := n0_; have HB := n1_; clear n0_ n1_; (try clear hb); (try clear hb2); (try clear hk); (try clear hi)) | ((with_reducible refine gate_callee (f := 12) rfl ?_); refine goesL_ (some 13) rfl rfl Try.func12 (by kernel_rfl) rfl #[.string t170] rfl (by (try simp only [List.map_toArray, List.map_cons, List.map_nil]); first | done | rfl | (simp only [List.length_drop, List.length_take]; rfl)) ?_; (with_reducible refine (impl_IdOf.calls k t170 t171 t172 t173 t174 t175 t176 _ A6.out).mono ?_); rintro e w27 ⟨rfl, hb⟩; refine ⟨_, rfl, ?_⟩; have n0_ := Aside0.mk (blk_below (g := gb163) (o := .cells #[.string t165, .string t166, .string t167, .string t168, .string t169] 27 (0, 0)) (by (with_reducible repeat (first | refine blk_drewN ?_ _ | refine blk_drew ?_ | refine blk_alloc ?_ _)); exact BK163.out) hb); have n1_ := Aside0.mk (below_step (by repeat (first | (with_reducible first | exact HB.out | apply below_alloc | apply pw_below_drewN | apply below_drew1 | refine below_set ?_ GE163.out) | exact HB.out)) hb); clear BK163; clear HB; have BK163 := n0_; have HB := n1_; clear n0_ n1_; (try clear hb); (try clear hb2); (try clear hk); (try clear hi)) | ((with_reducible refine gate_dst (N := 3) rfl ?_); refine box_event ?hg (N := 3) ?hd (cs := #[.string (⟨#[]⟩ : ByteArray), .string (⟨#[]⟩ : ByteArray), .string (⟨#[]⟩ : ByteArray), .string (⟨#[]⟩ : ByteArray), .string (⟨#[]⟩ : ByteArray)]) (t := 27) ?hr ?_; (case hd => rfl); (case hg => rfl); (case hr => first | (go_simp; done) | (go_simp; rfl)); intro gb177 hg w28 hbox hb; have n0_ := Aside0.mk (blk_below (g := gb163) (o := .cells #[.string t165, .string t166, .string t167, .string t168, .string t169] 27 (0, 0)) (by (with_reducible repeat (first | refine blk_drewN ?_ _ | refine blk_drew ?_ | refine blk_alloc ?_ _)); exact BK163.out) hb); have n1_ := Aside0.mk (below_step (by repeat (first | (with_reducible first | exact HB.out | apply below_alloc | apply pw_below_drewN | apply below_drew1 | refine below_set ?_ GE163.out) | exact HB.out)) hb); have n2_ := Aside0.mk (hbox); have n3_ := Aside0.mk ((by rw [hg]; exact (below_size (by repeat (first | (with_reducible first | exact HB.out | apply below_alloc | apply pw_below_drewN | apply below_drew1 | refine below_set ?_ GE163.out) | exact HB.out))) : w.heap.size ≤ gb177)); have n4_ := Aside0.mk ((by rw [hg]; exact (below_size (by repeat (first | (with_reducible first | exact HB.out | apply below_alloc | apply pw_below_drewN | apply below_drew1 | refine below_set ?_ GE163.out) | exact HB.out))) : w.heap.size ≤ gb177)); have n5_ := Aside0.mk ((by rw [hg]; exact Nat.ne_of_lt (blk_lt (g := gb163) (o := .cells #[.string t165, .string t166, .string t167, .string t168, .string t169] 27 (0, 0)) (by (with_reducible repeat (first | refine blk_drewN ?_ _ | refine blk_drew ?_ | refine blk_alloc ?_ _)); exact BK163.out)) : gb163 ≠ gb177)); have n6_ := Aside0.mk ((by rw [hg]; exact Nat.ne_of_gt (blk_lt (g := gb163) (o := .cells #[.string t165, .string t166, .string t167, .string t168, .string t169] 27 (0, 0)) (by (with_reducible repeat (first | refine blk_drewN ?_ _ | refine blk_drew ?_ | refine blk_alloc ?_ _)); exact BK163.out)) : gb177 ≠ gb163)); clear BK163; clear HB; have BK163 := n0_; have HB := n1_; have BK177 := n2_; have GW177 := n3_; have GE177 := n4_; have NB163_177 := n5_; have NB177_163 := n6_; clear n0_ n1_ n2_ n3_ n4_ n5_ n6_; clear hb hbox hg; have hnb29 := NB177_163.out; have hnc29 := NB163_177.out; have hcz30_0 : w28.cell? ⟨gb177, 0, none⟩ = some (.string (⟨#[]⟩ : ByteArray)) := (blk_cell BK177.out 0).trans rfl; have hcz30_1 : w28.cell? ⟨gb177, 1, none⟩ = some (.string (⟨#[]⟩ : ByteArray)) := (blk_cell BK177.out 1).trans rfl; have hcz30_2 : w28.cell? ⟨gb177, 2, none⟩ = some (.string (⟨#[]⟩ : ByteArray)) := (blk_cell BK177.out 2).trans rfl; have hcz30_3 : w28.cell? ⟨gb177, 3, none⟩ = some (.string (⟨#[]⟩ : ByteArray)) := (blk_cell BK177.out 3).trans rfl; have hcz30_4 : w28.cell? ⟨gb177, 4, none⟩ = some (.string (⟨#[]⟩ : ByteArray)) := (blk_cell BK177.out 4).trans rfl; have hfz30_0 := blk_frozen BK177.out 0; have hfz30_1 := blk_frozen BK177.out 1; have hfz30_2 := blk_frozen BK177.out 2; have hfz30_3 := blk_frozen BK177.out 3; have hfz30_4 := blk_frozen BK177.out 4))
      go_ret
      exact ⟨by first | rfl | (simp [errW_none, errW_some] <;> rfl) | (simp [*, errW_none, errW_some] <;> rfl), by repeat (first | (with_reducible first | exact HB.out | apply below_alloc | apply pw_below_drewN | apply below_drew1 | refine below_set ?_ GE163.out | refine below_set ?_ GE177.out) | exact HB.out)⟩
  · replace c3 := Bool.eq_false_iff.mpr c3
    subst c3
    have H1 : (some true) = some r := by rw [if_neg (show ¬ (false = true) by decide)] at H; exact H
    clear H
    have H := H1
    clear H1
    obtain rfl := Option.some.inj H
    go_enter Try.func4, Try.ntmps4
    go_wp2_with (first | ((with_reducible refine gate_dst (N := 1) rfl ?_); refine box_event ?hg (N := 1) ?hd (cs := #[.string a0_0, .string a0_1, .string a0_2, .string a0_3, .string a0_4]) (t := 27) ?hr ?_; (case hd => rfl); (case hg => rfl); (case hr => first | (go_simp; done) | (go_simp; rfl)); intro gb163 hg w31 hbox hb; have n0_ := Aside0.mk (below_step (by repeat (first | (with_reducible first | exact HB.out | apply below_alloc | apply pw_below_drewN | apply below_drew1) | exact HB.out)) hb); have n1_ := Aside0.mk (hbox); have n2_ := Aside0.mk ((by rw [hg]; exact (below_size (by repeat (first | (with_reducible first | exact HB.out | apply below_alloc | apply pw_below_drewN | apply below_drew1) | exact HB.out))) : w.heap.size ≤ gb163)); have n3_ := Aside0.mk ((by rw [hg]; exact (below_size (by repeat (first | (with_reducible first | exact HB.out | apply below_alloc | apply pw_below_drewN | apply below_drew1) | exact HB.out))) : w.heap.size ≤ gb163)); clear HB; have HB := n0_; have BK163 := n1_; have GW163 := n2_; have GE163 := n3_; clear n0_ n1_ n2_ n3_; clear hb hbox hg; have hcz32_0 : w31.cell? ⟨gb163, 0, none⟩ = some (.string a0_0) := (blk_cell BK163.out 0).trans rfl; have hcz32_1 : w31.cell? ⟨gb163, 1, none⟩ = some (.string a0_1) := (blk_cell BK163.out 1).trans rfl; have hcz32_2 : w31.cell? ⟨gb163, 2, none⟩ = some (.string a0_2) := (blk_cell BK163.out 2).trans rfl; have hcz32_3 : w31.cell? ⟨gb163, 3, none⟩ = some (.string a0_3) := (blk_cell BK163.out 3).trans rfl; have hcz32_4 : w31.cell? ⟨gb163, 4, none⟩ = some (.string a0_4) := (blk_cell BK163.out 4).trans rfl; have hfz32_0 := blk_frozen BK163.out 0; have hfz32_1 := blk_frozen BK163.out 1; have hfz32_2 := blk_frozen BK163.out 2; have hfz32_3 := blk_frozen BK163.out 3; have hfz32_4 := blk_frozen BK163.out 4) | ((with_reducible refine gate_callee (f := 10) rfl ?_); refine goesL_ (some 6) rfl rfl Try.func10 (by kernel_rfl) rfl #[.agg #[.string a0_0, .string a0_1, .string a0_2, .string a0_3, .string a0_4]] rfl (by (try simp only [List.map_toArray, List.map_cons, List.map_nil]); first | done | rfl | (simp only [List.length_drop, List.length_take]; rfl)) ?_; (with_reducible refine (laws_zzFits12.calls a0_0 a0_1 a0_2 a0_3 a0_4 false _ A2.out).mono ?_); rintro e w33 ⟨rfl, hb⟩; refine ⟨_, rfl, ?_⟩; have n0_ := Aside0.mk (blk_below (g := gb163) (o := .cells #[.string a0_0, .string a0_1, .string a0_2, .string a0_3, .string a0_4] 27 (0, 0)) (by (with_reducible repeat (first | refine blk_drewN ?_ _ | refine blk_drew ?_ | refine blk_alloc ?_ _)); exact BK163.out) hb); have n1_ := Aside0.mk (below_step (by repeat (first | (with_reducible first | exact HB.out | apply below_alloc | apply pw_below_drewN | apply below_drew1 | refine below_set ?_ GE163.out) | exact HB.out)) hb); clear BK163; clear HB; have BK163 := n0_; have HB := n1_; clear n0_ n1_; (try clear hb); (try clear hb2); (try clear hk); (try clear hi)))
    go_ret
    exact ⟨by first | rfl | (simp [errW_none, errW_some] <;> rfl) | (simp [*, errW_none, errW_some] <;> rfl), by repeat (first | (with_reducible first | exact HB.out | apply below_alloc | apply pw_below_drewN | apply below_drew1 | refine below_set ?_ GE163.out) | exact HB.out)⟩

end Go.Proofs.Ytcficphbjicneaa.PFnIdBack

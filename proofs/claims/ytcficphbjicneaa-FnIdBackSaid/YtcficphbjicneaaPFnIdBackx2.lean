-- printed by a program of this session: the print, turned for a few more operations
import Derived.Test.YtcficphbjicneaaPFnIdBackx0
namespace Go.Proofs.Ytcficphbjicneaa.PFnIdBack
open Go.RowKit Go.Proofs.YtcficphbjicneaaW.PrintWords Go.Proofs.YtcficphbjicneaaW.PrintLast Go.Proofs.YtcficphbjicneaaW.PrintMore
attribute [local go_sem] max2_int min2_int max_two min_two max_three min_three max_four min_four   -- for this text's walks alone
set_option linter.unusedVariables false
set_option linter.unusedSimpArgs false

/-! ### laws_zzFits12: function 10 -/
def laws_zzFits12.f (a0_0 : ByteArray) (a0_1 : ByteArray) (a0_2 : ByteArray) (a0_3 : ByteArray) (a0_4 : ByteArray) : Option (Bool) := if (a0_0.size : Int) > 2147483647 then (some false) else (if (a0_1.size : Int) > 2147483647 then (some false) else (if (a0_2.size : Int) > 2147483647 then (some false) else (if (a0_3.size : Int) > 2147483647 then (some false) else (if (a0_4.size : Int) > 2147483647 then (some false) else (some true)))))
set_option maxHeartbeats 8000000 in
set_option maxRecDepth 100000 in
theorem laws_zzFits12.calls (a0_0 : ByteArray) (a0_1 : ByteArray) (a0_2 : ByteArray) (a0_3 : ByteArray) (a0_4 : ByteArray) (r : Bool) (w : World) (h : laws_zzFits12.f a0_0 a0_1 a0_2 a0_3 a0_4 = some r) :
    Calls Try.prog 10 #[.agg #[.string a0_0, .string a0_1, .string a0_2, .string a0_3, .string a0_4]] w fun e w' => e = .returned (.bool r) ∧ Below w.heap.size w w' := by
  have hu27 := Try.underlying27
  have HB := Aside0.mk (Below.refl w.heap.size w)
  have H : (if (a0_0.size : Int) > 2147483647 then (some false) else (if (a0_1.size : Int) > 2147483647 then (some false) else (if (a0_2.size : Int) > 2147483647 then (some false) else (if (a0_3.size : Int) > 2147483647 then (some false) else (if (a0_4.size : Int) > 2147483647 then (some false) else (some true)))))) = some r := h
  clear h
  by_cases c2 : (a0_0.size : Int) > 2147483647
  · rw [if_pos c2] at H
    have c2b0 : decide (2147483647 < (a0_0.size : Int)) = true := decide_eq_true c2
    have c2b1 : decide (2147483647 < a0_0.size) = true := decide_eq_true (by omega)
    clear c2
    obtain rfl := Option.some.inj H
    go_enter Try.func10, Try.ntmps10
    go_wp2_with (first | ((with_reducible refine gate_dst (N := 1) rfl ?_); refine box_event ?hg (N := 1) ?hd (cs := #[.string a0_0, .string a0_1, .string a0_2, .string a0_3, .string a0_4]) (t := 27) ?hr ?_; (case hd => rfl); (case hg => rfl); (case hr => first | (go_simp; done) | (go_simp; rfl)); intro gb101 hg w3 hbox hb; have n0_ := Aside0.mk (below_step (by repeat (first | (with_reducible first | exact HB.out | apply below_alloc | apply pw_below_drewN | apply below_drew1) | exact HB.out)) hb); have n1_ := Aside0.mk (hbox); have n2_ := Aside0.mk ((by rw [hg]; exact (below_size (by repeat (first | (with_reducible first | exact HB.out | apply below_alloc | apply pw_below_drewN | apply below_drew1) | exact HB.out))) : w.heap.size ≤ gb101)); have n3_ := Aside0.mk ((by rw [hg]; exact (below_size (by repeat (first | (with_reducible first | exact HB.out | apply below_alloc | apply pw_below_drewN | apply below_drew1) | exact HB.out))) : w.heap.size ≤ gb101)); clear HB; have HB := n0_; have BK101 := n1_; have GW101 := n2_; have GE101 := n3_; clear n0_ n1_ n2_ n3_; clear hb hbox hg; have hcz4_0 : w3.cell? ⟨gb101, 0, none⟩ = some (.string a0_0) := (blk_cell BK101.out 0).trans rfl; have hcz4_1 : w3.cell? ⟨gb101, 1, none⟩ = some (.string a0_1) := (blk_cell BK101.out 1).trans rfl; have hcz4_2 : w3.cell? ⟨gb101, 2, none⟩ = some (.string a0_2) := (blk_cell BK101.out 2).trans rfl; have hcz4_3 : w3.cell? ⟨gb101, 3, none⟩ = some (.string a0_3) := (blk_cell BK101.out 3).trans rfl; have hcz4_4 : w3.cell? ⟨gb101, 4, none⟩ = some (.string a0_4) := (blk_cell BK101.out 4).trans rfl; have hfz4_0 := blk_frozen BK101.out 0; have hfz4_1 := blk_frozen BK101.out 1; have hfz4_2 := blk_frozen BK101.out 2; have hfz4_3 := blk_frozen BK101.out 3; have hfz4_4 := blk_frozen BK101.out 4))
    go_ret
    exact ⟨by first | rfl | (simp [errW_none, errW_some] <;> rfl) | (simp [*, errW_none, errW_some] <;> rfl), by repeat (first | (with_reducible first | exact HB.out | apply below_alloc | apply pw_below_drewN | apply below_drew1 | refine below_set ?_ GE101.out) | exact HB.out)⟩
  · rw [if_neg c2] at H
    have c2b0 : decide (2147483647 < (a0_0.size : Int)) = false := decide_eq_false c2
    have c2b1 : decide (2147483647 < a0_0.size) = false := decide_eq_false (by omega)
    clear c2
    by_cases c5 : (a0_1.size : Int) > 2147483647
    · rw [if_pos c5] at H
      have c5b0 : decide (2147483647 < (a0_1.size : Int)) = true := decide_eq_true c5
      have c5b1 : decide (2147483647 < a0_1.size) = true := decide_eq_true (by omega)
      clear c5
      obtain rfl := Option.some.inj H
      go_enter Try.func10, Try.ntmps10
      go_wp2_with (first | ((with_reducible refine gate_dst (N := 1) rfl ?_); refine box_event ?hg (N := 1) ?hd (cs := #[.string a0_0, .string a0_1, .string a0_2, .string a0_3, .string a0_4]) (t := 27) ?hr ?_; (case hd => rfl); (case hg => rfl); (case hr => first | (go_simp; done) | (go_simp; rfl)); intro gb101 hg w6 hbox hb; have n0_ := Aside0.mk (below_step (by repeat (first | (with_reducible first | exact HB.out | apply below_alloc | apply pw_below_drewN | apply below_drew1) | exact HB.out)) hb); have n1_ := Aside0.mk (hbox); have n2_ := Aside0.mk ((by rw [hg]; exact (below_size (by repeat (first | (with_reducible first | exact HB.out | apply below_alloc | apply pw_below_drewN | apply below_drew1) | exact HB.out))) : w.heap.size ≤ gb101)); have n3_ := Aside0.mk ((by rw [hg]; exact (below_size (by repeat (first | (with_reducible first | exact HB.out | apply below_alloc | apply pw_below_drewN | apply below_drew1) | exact HB.out))) : w.heap.size ≤ gb101)); clear HB; have HB := n0_; have BK101 := n1_; have GW101 := n2_; have GE101 := n3_; clear n0_ n1_ n2_ n3_; clear hb hbox hg; have hcz7_0 : w6.cell? ⟨gb101, 0, none⟩ = some (.string a0_0) := (blk_cell BK101.out 0).trans rfl; have hcz7_1 : w6.cell? ⟨gb101, 1, none⟩ = some (.string a0_1) := (blk_cell BK101.out 1).trans rfl; have hcz7_2 : w6.cell? ⟨gb101, 2, none⟩ = some (.string a0_2) := (blk_cell BK101.out 2).trans rfl; have hcz7_3 : w6.cell? ⟨gb101, 3, none⟩ = some (.string a0_3) := (blk_cell BK101.out 3).trans rfl; have hcz7_4 : w6.cell? ⟨gb101, 4, none⟩ = some (.string a0_4) := (blk_cell BK101.out 4).trans rfl; have hfz7_0 := blk_frozen BK101.out 0; have hfz7_1 := blk_frozen BK101.out 1; have hfz7_2 := blk_frozen BK101.out 2; have hfz7_3 := blk_frozen BK101.out 3; have hfz7_4 := blk_frozen BK101.out 4))
      go_ret
      exact ⟨by first | rfl | (simp [errW_none, errW_some] <;> rfl) | (simp [*, errW_none, errW_some] <;> rfl), by repeat (first | (with_reducible first | exact HB.out | apply below_alloc | apply pw_below_drewN | apply below_drew1 | refine below_set ?_ GE101.out) | exact HB.out)⟩
    · rw [if_neg c5] at H
      have c5b0 : decide (2147483647 < (a0_1.size : Int)) = false := decide_eq_false c5
      have c5b1 : decide (2147483647 < a0_1.size) = false := decide_eq_false (by omega)
      clear c5
      by_cases c8 : (a0_2.size : Int) > 2147483647
      · rw [if_pos c8] at H
        have c8b0 : decide (2147483647 < (a0_2.size : Int)) = true := decide_eq_true c8
        have c8b1 : decide (2147483647 < a0_2.size) = true := decide_eq_true (by omega)
        clear c8
        obtain rfl := Option.some.inj H
        go_enter Try.func10, Try.ntmps10
        go_wp2_with (first | ((with_reducible refine gate_dst (N := 1) rfl ?_); refine box_event ?hg (N := 1) ?hd (cs := #[.string a0_0, .string a0_1, .string a0_2, .string a0_3, .string a0_4]) (t := 27) ?hr ?_; (case hd => rfl); (case hg => rfl); (case hr => first | (go_simp; done) | (go_simp; rfl)); intro gb101 hg w9 hbox hb; have n0_ := Aside0.mk (below_step (by repeat (first | (with_reducible first | exact HB.out | apply below_alloc | apply pw_below_drewN | apply below_drew1) | exact HB.out)) hb); have n1_ := Aside0.mk (hbox); have n2_ := Aside0.mk ((by rw [hg]; exact (below_size (by repeat (first | (with_reducible first | exact HB.out | apply below_alloc | apply pw_below_drewN | apply below_drew1) | exact HB.out))) : w.heap.size ≤ gb101)); have n3_ := Aside0.mk ((by rw [hg]; exact (below_size (by repeat (first | (with_reducible first | exact HB.out | apply below_alloc | apply pw_below_drewN | apply below_drew1) | exact HB.out))) : w.heap.size ≤ gb101)); clear HB; have HB := n0_; have BK101 := n1_; have GW101 := n2_; have GE101 := n3_; clear n0_ n1_ n2_ n3_; clear hb hbox hg; have hcz10_0 : w9.cell? ⟨gb101, 0, none⟩ = some (.string a0_0) := (blk_cell BK101.out 0).trans rfl; have hcz10_1 : w9.cell? ⟨gb101, 1, none⟩ = some (.string a0_1) := (blk_cell BK101.out 1).trans rfl; have hcz10_2 : w9.cell? ⟨gb101, 2, none⟩ = some (.string a0_2) := (blk_cell BK101.out 2).trans rfl; have hcz10_3 : w9.cell? ⟨gb101, 3, none⟩ = some (.string a0_3) := (blk_cell BK101.out 3).trans rfl; have hcz10_4 : w9.cell? ⟨gb101, 4, none⟩ = some (.string a0_4) := (blk_cell BK101.out 4).trans rfl; have hfz10_0 := blk_frozen BK101.out 0; have hfz10_1 := blk_frozen BK101.out 1; have hfz10_2 := blk_frozen BK101.out 2; have hfz10_3 := blk_frozen BK101.out 3; have hfz10_4 := blk_frozen BK101.out 4))
        go_ret
        exact ⟨by first | rfl | (simp [errW_none, errW_some] <;> rfl) | (simp [*, errW_none, errW_some] <;> rfl), by repeat (first | (with_reducible first | exact HB.out | apply below_alloc | apply pw_below_drewN | apply below_drew1 | refine below_set ?_ GE101.out) | exact HB.out)⟩
      · rw [if_neg c8] at H
        have c8b0 : decide (2147483647 < (a0_2.size : Int)) = false := decide_eq_false c8
        have c8b1 : decide (2147483647 < a0_2.size) = false := decide_eq_false (by omega)
        clear c8
        by_cases c11 : (a0_3.size : Int) > 2147483647
        · rw [if_pos c11] at H
          have c11b0 : decide (2147483647 < (a0_3.size : Int)) = true := decide_eq_true c11
          have c11b1 : decide (2147483647 < a0_3.size) = true := decide_eq_true (by omega)
          clear c11
          obtain rfl := Option.some.inj H
          go_enter Try.func10, Try.ntmps10
          go_wp2_with (first | ((with_reducible refine gate_dst (N := 1) rfl ?_); refine box_event ?hg (N := 1) ?hd (cs := #[.string a0_0, .string a0_1, .string a0_2, .string a0_3, .string a0_4]) (t := 27) ?hr ?_; (case hd => rfl); (case hg => rfl); (case hr => first | (go_simp; done) | (go_simp; rfl)); intro gb101 hg w12 hbox hb; have n0_ := Aside0.mk (below_step (by repeat (first | (with_reducible first | exact HB.out | apply below_alloc | apply pw_below_drewN | apply below_drew1) | exact HB.out)) hb); have n1_ := Aside0.mk (hbox); have n2_ := Aside0.mk ((by rw [hg]; exact (below_size (by repeat (first | (with_reducible first | exact HB.out | apply below_alloc | apply pw_below_drewN | apply below_drew1) | exact HB.out))) : w.heap.size ≤ gb101)); have n3_ := Aside0.mk ((by rw [hg]; exact (below_size (by repeat (first | (with_reducible first | exact HB.out | apply below_alloc | apply pw_below_drewN | apply below_drew1) | exact HB.out))) : w.heap.size ≤ gb101)); clear HB; have HB := n0_; have BK101 := n1_; have GW101 := n2_; have GE101 := n3_; clear n0_ n1_ n2_ n3_; clear hb hbox hg; have hcz13_0 : w12.cell? ⟨gb101, 0, none⟩ = some (.string a0_0) := (blk_cell BK101.out 0).trans rfl; have hcz13_1 : w12.cell? ⟨gb101, 1, none⟩ = some (.string a0_1) := (blk_cell BK101.out 1).trans rfl; have hcz13_2 : w12.cell? ⟨gb101, 2, none⟩ = some (.string a0_2) := (blk_cell BK101.out 2).trans rfl; have hcz13_3 : w12.cell? ⟨gb101, 3, none⟩ = some (.string a0_3) := (blk_cell BK101.out 3).trans rfl; have hcz13_4 : w12.cell? ⟨gb101, 4, none⟩ = some (.string a0_4) := (blk_cell BK101.out 4).trans rfl; have hfz13_0 := blk_frozen BK101.out 0; have hfz13_1 := blk_frozen BK101.out 1; have hfz13_2 := blk_frozen BK101.out 2; have hfz13_3 := blk_frozen BK101.out 3; have hfz13_4 := blk_frozen BK101.out 4))
          go_ret
          exact ⟨by first | rfl | (simp [errW_none, errW_some] <;> rfl) | (simp [*, errW_none, errW_some] <;> rfl), by repeat (first | (with_reducible first | exact HB.out | apply below_alloc | apply pw_below_drewN | apply below_drew1 | refine below_set ?_ GE101.out) | exact HB.out)⟩
        · rw [if_neg c11] at H
          have c11b0 : decide (2147483647 < (a0_3.size : Int)) = false := decide_eq_false c11
          have c11b1 : decide (2147483647 < a0_3.size) = false := decide_eq_false (by omega)
          clear c11
          by_cases c14 : (a0_4.size : Int) > 2147483647
          · rw [if_pos c14] at H
            have c14b0 : decide (2147483647 < (a0_4.size : Int)) = true := decide_eq_true c14
            have c14b1 : decide (2147483647 < a0_4.size) = true := decide_eq_true (by omega)
            clear c14
            obtain rfl := Option.some.inj H
            go_enter Try.func10, Try.ntmps10
            go_wp2_with (first | ((with_reducible refine gate_dst (N := 1) rfl ?_); refine box_event ?hg (N := 1) ?hd (cs := #[.string a0_0, .string a0_1, .string a0_2, .string a0_3, .string a0_4]) (t := 27) ?hr ?_; (case hd => rfl); (case hg => rfl); (case hr => first | (go_simp; done) | (go_simp; rfl)); intro gb101 hg w15 hbox hb; have n0_ := Aside0.mk (below_step (by repeat (first | (with_reducible first | exact HB.out | apply below_alloc | apply pw_below_drewN | apply below_drew1) | exact HB.out)) hb); have n1_ := Aside0.mk (hbox); have n2_ := Aside0.mk ((by rw [hg]; exact (below_size (by repeat (first | (with_reducible first | exact HB.out | apply below_alloc | apply pw_below_drewN | apply below_drew1) | exact HB.out))) : w.heap.size ≤ gb101)); have n3_ := Aside0.mk ((by rw [hg]; exact (below_size (by repeat (first | (with_reducible first | exact HB.out | apply below_alloc | apply pw_below_drewN | apply below_drew1) | exact HB.out))) : w.heap.size ≤ gb101)); clear HB; have HB := n0_; have BK101 := n1_; have GW101 := n2_; have GE101 := n3_; clear n0_ n1_ n2_ n3_; clear hb hbox hg; have hcz16_0 : w15.cell? ⟨gb101, 0, none⟩ = some (.string a0_0) := (blk_cell BK101.out 0).trans rfl; have hcz16_1 : w15.cell? ⟨gb101, 1, none⟩ = some (.string a0_1) := (blk_cell BK101.out 1).trans rfl; have hcz16_2 : w15.cell? ⟨gb101, 2, none⟩ = some (.string a0_2) := (blk_cell BK101.out 2).trans rfl; have hcz16_3 : w15.cell? ⟨gb101, 3, none⟩ = some (.string a0_3) := (blk_cell BK101.out 3).trans rfl; have hcz16_4 : w15.cell? ⟨gb101, 4, none⟩ = some (.string a0_4) := (blk_cell BK101.out 4).trans rfl; have hfz16_0 := blk_frozen BK101.out 0; have hfz16_1 := blk_frozen BK101.out 1; have hfz16_2 := blk_frozen BK101.out 2; have hfz16_3 := blk_frozen BK101.out 3; have hfz16_4 := blk_frozen BK101.out 4))
            go_ret
            exact ⟨by first | rfl | (simp [errW_none, errW_some] <;> rfl) | (simp [*, errW_none, errW_some] <;> rfl), by repeat (first | (with_reducible first | exact HB.out | apply below_alloc | apply pw_below_drewN | apply below_drew1 | refine below_set ?_ GE101.out) | exact HB.out)⟩
          · rw [if_neg c14] at H
            have c14b0 : decide (2147483647 < (a0_4.size : Int)) = false := decide_eq_false c14
            have c14b1 : decide (2147483647 < a0_4.size) = false := decide_eq_false (by omega)
            clear c14
            obtain rfl := Option.some.inj H
            go_enter Try.func10, Try.ntmps10
            go_wp2_with (first | ((with_reducible refine gate_dst (N := 1) rfl ?_); refine box_event ?hg (N := 1) ?hd (cs := #[.string a0_0, .string a0_1, .string a0_2, .string a0_3, .string a0_4]) (t := 27) ?hr ?_; (case hd => rfl); (case hg => rfl); (case hr => first | (go_simp; done) | (go_simp; rfl)); intro gb101 hg w17 hbox hb; have n0_ := Aside0.mk (below_step (by repeat (first | (with_reducible first | exact HB.out | apply below_alloc | apply pw_below_drewN | apply below_drew1) | exact HB.out)) hb); have n1_ := Aside0.mk (hbox); have n2_ := Aside0.mk ((by rw [hg]; exact (below_size (by repeat (first | (with_reducible first | exact HB.out | apply below_alloc | apply pw_below_drewN | apply below_drew1) | exact HB.out))) : w.heap.size ≤ gb101)); have n3_ := Aside0.mk ((by rw [hg]; exact (below_size (by repeat (first | (with_reducible first | exact HB.out | apply below_alloc | apply pw_below_drewN | apply below_drew1) | exact HB.out))) : w.heap.size ≤ gb101)); clear HB; have HB := n0_; have BK101 := n1_; have GW101 := n2_; have GE101 := n3_; clear n0_ n1_ n2_ n3_; clear hb hbox hg; have hcz18_0 : w17.cell? ⟨gb101, 0, none⟩ = some (.string a0_0) := (blk_cell BK101.out 0).trans rfl; have hcz18_1 : w17.cell? ⟨gb101, 1, none⟩ = some (.string a0_1) := (blk_cell BK101.out 1).trans rfl; have hcz18_2 : w17.cell? ⟨gb101, 2, none⟩ = some (.string a0_2) := (blk_cell BK101.out 2).trans rfl; have hcz18_3 : w17.cell? ⟨gb101, 3, none⟩ = some (.string a0_3) := (blk_cell BK101.out 3).trans rfl; have hcz18_4 : w17.cell? ⟨gb101, 4, none⟩ = some (.string a0_4) := (blk_cell BK101.out 4).trans rfl; have hfz18_0 := blk_frozen BK101.out 0; have hfz18_1 := blk_frozen BK101.out 1; have hfz18_2 := blk_frozen BK101.out 2; have hfz18_3 := blk_frozen BK101.out 3; have hfz18_4 := blk_frozen BK101.out 4))
            go_ret
            exact ⟨by first | rfl | (simp [errW_none, errW_some] <;> rfl) | (simp [*, errW_none, errW_some] <;> rfl), by repeat (first | (with_reducible first | exact HB.out | apply below_alloc | apply pw_below_drewN | apply below_drew1 | refine below_set ?_ GE101.out) | exact HB.out)⟩

/-! ### laws_kyPlain: function 22 -/
mutual
def laws_kyPlain.l0 : Nat → ByteArray → List Int → Int → Option (ByteArray)
  | 0, _, _, _ => none
  | k + 1, x0, x3, x4 => if x4 < (x0.size : Int) then (laws_kyPlain.j1 k x0 x3 x4 (decide ((x3.length : Int) < 12))) else (laws_kyPlain.j1 k x0 x3 x4 false)
def laws_kyPlain.j1 : Nat → ByteArray → List Int → Int → Bool → Option (ByteArray)
  | 0, _, _, _, _ => none
  | k + 1, x0, x3, x4, x14 => if x14 = true then (if 0 ≤ x4 then (if x4 < (x0.size : Int) then (if (bt x0 x4) ≥ 97 then (if (bt x0 x4) ≤ 122 then (if x3.length < 140737488355328 then (laws_kyPlain.l0 k x0 (x3 ++ [bt x0 x4]) (wrap64 (x4 + 1))) else (none)) else (if (bt x0 x4) ≥ 65 then (if (bt x0 x4) ≤ 90 then (if x3.length < 140737488355328 then (laws_kyPlain.l0 k x0 (x3 ++ [bt x0 x4]) (wrap64 (x4 + 1))) else (none)) else (if (bt x0 x4) ≥ 48 then (if (bt x0 x4) ≤ 57 then (if x3.length < 140737488355328 then (laws_kyPlain.l0 k x0 (x3 ++ [bt x0 x4]) (wrap64 (x4 + 1))) else (none)) else (if (bt x0 x4) = 45 then (if x3.length < 140737488355328 then (laws_kyPlain.l0 k x0 (x3 ++ [bt x0 x4]) (wrap64 (x4 + 1))) else (none)) else (laws_kyPlain.l0 k x0 x3 (wrap64 (x4 + 1))))) else (if (bt x0 x4) = 45 then (if x3.length < 140737488355328 then (laws_kyPlain.l0 k x0 (x3 ++ [bt x0 x4]) (wrap64 (x4 + 1))) else (none)) else (laws_kyPlain.l0 k x0 x3 (wrap64 (x4 + 1)))))) else (if (bt x0 x4) ≥ 48 then (if (bt x0 x4) ≤ 57 then (if x3.length < 140737488355328 then (laws_kyPlain.l0 k x0 (x3 ++ [bt x0 x4]) (wrap64 (x4 + 1))) else (none)) else (if (bt x0 x4) = 45 then (if x3.length < 140737488355328 then (laws_kyPlain.l0 k x0 (x3 ++ [bt x0 x4]) (wrap64 (x4 + 1))) else (none)) else (laws_kyPlain.l0 k x0 x3 (wrap64 (x4 + 1))))) else (if (bt x0 x4) = 45 then (if x3.length < 140737488355328 then (laws_kyPlain.l0 k x0 (x3 ++ [bt x0 x4]) (wrap64 (x4 + 1))) else (none)) else (laws_kyPlain.l0 k x0 x3 (wrap64 (x4 + 1))))))) else (if (bt x0 x4) ≥ 65 then (if (bt x0 x4) ≤ 90 then (if x3.length < 140737488355328 then (laws_kyPlain.l0 k x0 (x3 ++ [bt x0 x4]) (wrap64 (x4 + 1))) else (none)) else (if (bt x0 x4) ≥ 48 then (if (bt x0 x4) ≤ 57 then (if x3.length < 140737488355328 then (laws_kyPlain.l0 k x0 (x3 ++ [bt x0 x4]) (wrap64 (x4 + 1))) else (none)) else (if (bt x0 x4) = 45 then (if x3.length < 140737488355328 then (laws_kyPlain.l0 k x0 (x3 ++ [bt x0 x4]) (wrap64 (x4 + 1))) else (none)) else (laws_kyPlain.l0 k x0 x3 (wrap64 (x4 + 1))))) else (if (bt x0 x4) = 45 then (if x3.length < 140737488355328 then (laws_kyPlain.l0 k x0 (x3 ++ [bt x0 x4]) (wrap64 (x4 + 1))) else (none)) else (laws_kyPlain.l0 k x0 x3 (wrap64 (x4 + 1)))))) else (if (bt x0 x4) ≥ 48 then (if (bt x0 x4) ≤ 57 then (if x3.length < 140737488355328 then (laws_kyPlain.l0 k x0 (x3 ++ [bt x0 x4]) (wrap64 (x4 + 1))) else (none)) else (if (bt x0 x4) = 45 then (if x3.length < 140737488355328 then (laws_kyPlain.l0 k x0 (x3 ++ [bt x0 x4]) (wrap64 (x4 + 1))) else (none)) else (laws_kyPlain.l0 k x0 x3 (wrap64 (x4 + 1))))) else (if (bt x0 x4) = 45 then (if x3.length < 140737488355328 then (laws_kyPlain.l0 k x0 (x3 ++ [bt x0 x4]) (wrap64 (x4 + 1))) else (none)) else (laws_kyPlain.l0 k x0 x3 (wrap64 (x4 + 1))))))) else (none)) else (none)) else (some (strOfNums x3))
end
def laws_kyPlain.f (k : Nat) (a0 : ByteArray) : Option (ByteArray) := laws_kyPlain.l0 k a0 ([] : List Int) 0
theorem laws_kyPlain.mono_l : ∀ k, (∀ y0 y1 y2, LeO (laws_kyPlain.l0 k y0 y1 y2) (laws_kyPlain.l0 (k + 1) y0 y1 y2)) ∧ (∀ y0 y1 y2 y3, LeO (laws_kyPlain.j1 k y0 y1 y2 y3) (laws_kyPlain.j1 (k + 1) y0 y1 y2 y3))
  | 0 => ⟨fun _ _ _ r h => by simp [laws_kyPlain.l0] at h, fun _ _ _ _ r h => by simp [laws_kyPlain.j1] at h⟩
  | k + 1 => by
    obtain ⟨ih0, ih1⟩ := laws_kyPlain.mono_l k
    refine ⟨?_, ?_⟩
    · intro y0 y1 y2
      unfold laws_kyPlain.l0
      repeat' first
      | (with_reducible exact ih0 _ _ _)
      | (with_reducible exact ih1 _ _ _ _)
      | (with_reducible exact LeO.refl _)
      | (with_reducible exact LeO.none _)
      | (with_reducible refine LeO.ite ?_ ?_)
      | (with_reducible refine LeO.bind ?_ (fun _ => ?_))
      | exact ih0 _ _ _
      | exact ih1 _ _ _ _
      | exact LeO.none _
      | refine LeO.ite ?_ ?_
      | refine LeO.bind ?_ (fun _ => ?_)
    · intro y0 y1 y2 y3
      unfold laws_kyPlain.j1
      repeat' first
      | (with_reducible exact ih0 _ _ _)
      | (with_reducible exact ih1 _ _ _ _)
      | (with_reducible exact LeO.refl _)
      | (with_reducible exact LeO.none _)
      | (with_reducible refine LeO.ite ?_ ?_)
      | (with_reducible refine LeO.bind ?_ (fun _ => ?_))
      | exact ih0 _ _ _
      | exact ih1 _ _ _ _
      | exact LeO.none _
      | refine LeO.ite ?_ ?_
      | refine LeO.bind ?_ (fun _ => ?_)
theorem laws_kyPlain.mono : ∀ a0 k, LeO (laws_kyPlain.f k a0) (laws_kyPlain.f (k + 1) a0) := by
  intro a0 k
  obtain ⟨ih0, ih1⟩ := laws_kyPlain.mono_l k
  unfold laws_kyPlain.f
  repeat' first
      | (with_reducible exact ih0 _ _ _)
      | (with_reducible exact ih1 _ _ _ _)
      | (with_reducible exact LeO.refl _)
      | (with_reducible exact LeO.none _)
      | (with_reducible refine LeO.ite ?_ ?_)
      | (with_reducible refine LeO.bind ?_ (fun _ => ?_))
      | exact ih0 _ _ _
      | exact ih1 _ _ _ _
      | exact LeO.none _
      | refine LeO.ite ?_ ?_
      | refine LeO.bind ?_ (fun _ => ?_)
set_option maxHeartbeats 8000000 in
set_option maxRecDepth 100000 in
theorem laws_kyPlain.calls (k : Nat) (a0 : ByteArray) (r : ByteArray) (w : World) (h : laws_kyPlain.f k a0 = some r) :
    Calls Try.prog 22 #[.string a0] w fun e w' => e = .returned (.string r) ∧ Below w.heap.size w w' := by
  have HB := Aside0.mk (Below.refl w.heap.size w)
  have H : (laws_kyPlain.l0 k a0 ([] : List Int) 0) = some r := h
  clear h
  have H' := Aside0.mk H
  clear H
  go_enter Try.func22, Try.ntmps22
  go_wp2
  go_loopg [3, 4] k (fun kq v3 v4 w' => ∃ (x3_1 : List Int) (x4_1 : Int), v4 = .int .i64 x4_1 ∧ Aside0 (laws_kyPlain.l0 kq a0 x3_1 x4_1 = some r) ∧ Aside0 (kq ≤ k) ∧ Aside0 (Kd.R (Kd.int .u8) 5 w' w.heap.size (fun _ => True) v3 x3_1) ∧ Aside0 (Below w.heap.size w w'))
  case atStart => exact ⟨(([] : List Int)), (0), (by first | rfl | (simp; done) | (simp [*]; done)), H', ⟨Nat.le_refl _⟩, ⟨by first | exact Kd.R_nil _ _ _ _ _ | exact Kd.N_nil _ _ _ _ _ | exact Kd.V_nil _ _ _ _ _ | exact Kd.Q_nil _ _ _ _ _ | exact Kd.S_nil _ _ _ _ _⟩, ⟨by repeat (first | (with_reducible first | exact HB.out | apply below_alloc | apply pw_below_drewN | apply below_drew1) | exact HB.out)⟩⟩
  case round =>
    clear H'
    obtain ⟨x3_1, x4_1, rfl, HA, HK1, HO_3, HB⟩ := hrel
    cases gk with
    | zero => exact absurd HA.out (by simp [laws_kyPlain.l0])
    | succ k1 =>
      have H := HA.out
      clear HA
      simp only [laws_kyPlain.l0] at H
      have HC2 := Aside0.mk H
      clear H
      go_upto_region 3 with (fail)
      go_cut [14] (fun v14 wc => ∃ (kq : Nat) (x14_1 : Bool), v14 = .bool x14_1 ∧ Aside0 (laws_kyPlain.j1 kq a0 x3_1 x4_1 x14_1 = some r) ∧ Aside0 (kq ≤ k1) ∧ Aside0 (Kd.R (Kd.int .u8) 5 wc w.heap.size (fun _ => True) u3 x3_1) ∧ Aside0 (Below w.heap.size w wc))
      case first =>
        have H := HC2.out
        clear HC2
        by_cases c3 : x4_1 < (a0.size : Int)
        · rw [if_pos c3] at H
          have c3b0 : decide (x4_1 < (a0.size : Int)) = true := decide_eq_true c3
          clear c3
          (first | rw [c3b0] | (simp only [i64_w, i32_w]; rw [c3b0]) | rw [c3b3] | skip)
          have H' := Aside0.mk H
          clear H
          obtain ⟨Ao4, co4, eo4⟩ := Kd.R_slice HO_3.out
          subst eo4
          go_wp2
          go_meet
          case rel => exact ⟨_, (decide ((x3_1.length : Int) < 12)), (by first | rfl | (simp; done) | (simp [*]; done)), H', ⟨by have := HK1.out; first | omega | exact Nat.le_refl _⟩, ⟨by (with_reducible repeat (first | apply Kd.R_alloc | apply Kd.R_drewN | apply Kd.R_drew)); exact HO_3.out⟩, ⟨by repeat (first | (with_reducible first | exact HB.out | apply below_alloc | apply pw_below_drewN | apply below_drew1) | exact HB.out)⟩⟩
        · rw [if_neg c3] at H
          have c3b0 : decide (x4_1 < (a0.size : Int)) = false := decide_eq_false c3
          clear c3
          (first | rw [c3b0] | (simp only [i64_w, i32_w]; rw [c3b0]) | rw [c3b3] | skip)
          have H' := Aside0.mk H
          clear H
          go_wp2
          go_meet
          case rel => exact ⟨_, (false), (by first | rfl | (simp; done) | (simp [*]; done)), H', ⟨by have := HK1.out; first | omega | exact Nat.le_refl _⟩, ⟨by (with_reducible repeat (first | apply Kd.R_alloc | apply Kd.R_drewN | apply Kd.R_drew)); exact HO_3.out⟩, ⟨by repeat (first | (with_reducible first | exact HB.out | apply below_alloc | apply pw_below_drewN | apply below_drew1) | exact HB.out)⟩⟩
      case rest =>
        clear HC2
        try clear c2
        try clear p2
        try clear c3
        try clear c3b0
        obtain ⟨kq, x14_1, rfl, HA, HJ1, HO_3, HB⟩ := hcut
        cases kq with
        | zero => exact absurd HA.out (by simp [laws_kyPlain.j1])
        | succ kj1 =>
          have H := HA.out
          clear HA
          simp only [laws_kyPlain.j1] at H
          by_cases c5 : x14_1 = true
          · subst c5
            have H1 : (if 0 ≤ x4_1 then (if x4_1 < (a0.size : Int) then (if (bt a0 x4_1) ≥ 97 then (if (bt a0 x4_1) ≤ 122 then (if x3_1.length < 140737488355328 then (laws_kyPlain.l0 kj1 a0 (x3_1 ++ [bt a0 x4_1]) (wrap64 (x4_1 + 1))) else (none)) else (if (bt a0 x4_1) ≥ 65 then (if (bt a0 x4_1) ≤ 90 then (if x3_1.length < 140737488355328 then (laws_kyPlain.l0 kj1 a0 (x3_1 ++ [bt a0 x4_1]) (wrap64 (x4_1 + 1))) else (none)) else (if (bt a0 x4_1) ≥ 48 then (if (bt a0 x4_1) ≤ 57 then (if x3_1.length < 140737488355328 then (laws_kyPlain.l0 kj1 a0 (x3_1 ++ [bt a0 x4_1]) (wrap64 (x4_1 + 1))) else (none)) else (if (bt a0 x4_1) = 45 then (if x3_1.length < 140737488355328 then (laws_kyPlain.l0 kj1 a0 (x3_1 ++ [bt a0 x4_1]) (wrap64 (x4_1 + 1))) else (none)) else (laws_kyPlain.l0 kj1 a0 x3_1 (wrap64 (x4_1 + 1))))) else (if (bt a0 x4_1) = 45 then (if x3_1.length < 140737488355328 then (laws_kyPlain.l0 kj1 a0 (x3_1 ++ [bt a0 x4_1]) (wrap64 (x4_1 + 1))) else (none)) else (laws_kyPlain.l0 kj1 a0 x3_1 (wrap64 (x4_1 + 1)))))) else (if (bt a0 x4_1) ≥ 48 then (if (bt a0 x4_1) ≤ 57 then (if x3_1.length < 140737488355328 then (laws_kyPlain.l0 kj1 a0 (x3_1 ++ [bt a0 x4_1]) (wrap64 (x4_1 + 1))) else (none)) else (if (bt a0 x4_1) = 45 then (if x3_1.length < 140737488355328 then (laws_kyPlain.l0 kj1 a0 (x3_1 ++ [bt a0 x4_1]) (wrap64 (x4_1 + 1))) else (none)) else (laws_kyPlain.l0 kj1 a0 x3_1 (wrap64 (x4_1 + 1))))) else (if (bt a0 x4_1) = 45 then (if x3_1.length < 140737488355328 then (laws_kyPlain.l0 kj1 a0 (x3_1 ++ [bt a0 x4_1]) (wrap64 (x4_1 + 1))) else (none)) else (laws_kyPlain.l0 kj1 a0 x3_1 (wrap64 (x4_1 + 1))))))) else (if (bt a0 x4_1) ≥ 65 then (if (bt a0 x4_1) ≤ 90 then (if x3_1.length < 140737488355328 then (laws_kyPlain.l0 kj1 a0 (x3_1 ++ [bt a0 x4_1]) (wrap64 (x4_1 + 1))) else (none)) else (if (bt a0 x4_1) ≥ 48 then (if (bt a0 x4_1) ≤ 57 then (if x3_1.length < 140737488355328 then (laws_kyPlain.l0 kj1 a0 (x3_1 ++ [bt a0 x4_1]) (wrap64 (x4_1 + 1))) else (none)) else (if (bt a0 x4_1) = 45 then (if x3_1.length < 140737488355328 then (laws_kyPlain.l0 kj1 a0 (x3_1 ++ [bt a0 x4_1]) (wrap64 (x4_1 + 1))) else (none)) else (laws_kyPlain.l0 kj1 a0 x3_1 (wrap64 (x4_1 + 1))))) else (if (bt a0 x4_1) = 45 then (if x3_1.length < 140737488355328 then (laws_kyPlain.l0 kj1 a0 (x3_1 ++ [bt a0 x4_1]) (wrap64 (x4_1 + 1))) else (none)) else (laws_kyPlain.l0 kj1 a0 x3_1 (wrap64 (x4_1 + 1)))))) else (if (bt a0 x4_1) ≥ 48 then (if (bt a0 x4_1) ≤ 57 then (if x3_1.length < 140737488355328 then (laws_kyPlain.l0 kj1 a0 (x3_1 ++ [bt a0 x4_1]) (wrap64 (x4_1 + 1))) else (none)) else (if (bt a0 x4_1) = 45 then (if x3_1.length < 140737488355328 then (laws_kyPlain.l0 kj1 a0 (x3_1 ++ [bt a0 x4_1]) (wrap64 (x4_1 + 1))) else (none)) else (laws_kyPlain.l0 kj1 a0 x3_1 (wrap64 (x4_1 + 1))))) else (if (bt a0 x4_1) = 45 then (if x3_1.length < 140737488355328 then (laws_kyPlain.l0 kj1 a0 (x3_1 ++ [bt a0 x4_1]) (wrap64 (x4_1 + 1))) else (none)) else (laws_kyPlain.l0 kj1 a0 x3_1 (wrap64 (x4_1 + 1))))))) else (none)) else (none)) = some r := by rw [if_pos rfl] at H; exact H
            clear H
            have H := H1
            clear H1
            by_cases c6 : 0 ≤ x4_1
            · rw [if_pos c6] at H
              have c6b0 : decide (0 ≤ x4_1) = true := decide_eq_true c6
              clear c6
              by_cases c7 : x4_1 < (a0.size : Int)
              · rw [if_pos c7] at H
                have c7b0 : decide (x4_1 < (a0.size : Int)) = true := decide_eq_true c7
                clear c7
                by_cases c9 : (bt a0 x4_1) ≥ 97
                · rw [if_pos c9] at H
                  have c9b0 : decide (97 ≤ (bt a0 x4_1)) = true := decide_eq_true c9
                  clear c9
                  by_cases c10 : (bt a0 x4_1) ≤ 122
                  · rw [if_pos c10] at H
                    have c10b0 : decide ((bt a0 x4_1) ≤ 122) = true := decide_eq_true c10
                    clear c10
                    by_cases c11 : x3_1.length < 140737488355328
                    · rw [if_pos c11] at H
                      have LMc11 := Aside0.mk c11
                      clear c11
                      obtain ⟨y102, hy102⟩ : ∃ y_ : List Int, y_ = (x3_1 ++ [bt a0 x4_1]) := ⟨_, rfl⟩
                      replace H : (laws_kyPlain.l0 kj1 a0 y102 (wrap64 (x4_1 + 1))) = some r := by first | (rw [hy102]; with_reducible exact H) | (have H2_ := (Option.bind_some _ _).symm.trans H; rw [hy102]; with_reducible exact H2_) | (have H2_ := (Option.bind_some _ _).symm.trans H; with_reducible exact H2_) | with_reducible exact H | (rw [hy102]; exact H) | exact H
                      have Ny102 := Aside0.mk hy102
                      clear hy102
                      have H' := Aside0.mk H
                      clear H
                      have p8 : 0 ≤ (x4_1 : Int) := of_decide_eq_true (by first | (with_reducible assumption) | assumption)
                      have q8 : x4_1 < (a0.size : Int) := of_decide_eq_true (by first | (with_reducible assumption) | assumption)
                      have hx8 := bt_at a0 x4_1
                      replace p8 := eq_true p8
                      replace q8 := eq_true q8
                      go_wp2_with (first | ((with_reducible refine gate_builtin (b := .append) (xs := #[.tmp 46, .tmp 48]) rfl ?_); (try (refine gate_guard (by rfl) ?_; dsimp only)); at_builtin; refine Kd.R_append (Kd.int .u8) (w0 := w) w.heap.size rfl (.tmp 46) (.tmp 48) 68 5 (.int .u8 0) 1 rfl Try.underlying68 info5 rfl (by decide) (by omega) u3 x3_1 (bt a0 x4_1) [.int .u8 (bt a0 x4_1)] (fun _ => True) (fun _ => False) rfl rfl ?aP (fun _ hk => hk.elim) ?aF ?aO ?aB ?aS ?aL ?_; (case aP => exact rfl); (case aB => exact (by repeat (first | (with_reducible first | exact HB.out | apply below_alloc | apply pw_below_drewN | apply below_drew1) | exact HB.out))); (case aF => exact (fun _ _ => trivial)); (case aO => exact (by (with_reducible repeat (first | apply Kd.R_alloc | apply Kd.R_drewN | apply Kd.R_drew)); exact HO_3.out)); (case aS => exact (below_size (by repeat (first | (with_reducible first | exact HB.out | apply below_alloc | apply pw_below_drewN | apply below_drew1) | exact HB.out)))); (case aL => have := LMc11.out; omega); intro v103 w12 ho hb hg hat; rw [← Ny102.out] at ho; have n0_ := Aside0.mk (hb); have n1_ := Aside0.mk (ho); clear HB; clear HO_3; have HB := n0_; have HO104 := n1_; clear n0_ n1_; clear ho hb hg hat))
                      go_roundg kj1
                      case measure => have := HK1.out; have := HJ1.out; omega
                      case rel => exact ⟨(y102), (wrap64 (x4_1 + 1)), (by first | rfl | (simp; done) | (simp [*]; done)), H', ⟨by have := HK1.out; have := HJ1.out; omega⟩, ⟨by (with_reducible repeat (first | apply Kd.R_alloc | apply Kd.R_drewN | apply Kd.R_drew)); exact HO104.out⟩, ⟨by repeat (first | (with_reducible first | exact HB.out | apply below_alloc | apply pw_below_drewN | apply below_drew1) | exact HB.out)⟩⟩
                    · rw [if_neg c11] at H
                      exact absurd H (by simp)
                  · rw [if_neg c10] at H
                    have c10b0 : decide ((bt a0 x4_1) ≤ 122) = false := decide_eq_false c10
                    clear c10
                    by_cases c13 : (bt a0 x4_1) ≥ 65
                    · rw [if_pos c13] at H
                      have c13b0 : decide (65 ≤ (bt a0 x4_1)) = true := decide_eq_true c13
                      clear c13
                      by_cases c14 : (bt a0 x4_1) ≤ 90
                      · rw [if_pos c14] at H
                        have c14b0 : decide ((bt a0 x4_1) ≤ 90) = true := decide_eq_true c14
                        clear c14
                        by_cases c15 : x3_1.length < 140737488355328
                        · rw [if_pos c15] at H
                          have LMc15 := Aside0.mk c15
                          clear c15
                          obtain ⟨y105, hy105⟩ : ∃ y_ : List Int, y_ = (x3_1 ++ [bt a0 x4_1]) := ⟨_, rfl⟩
                          replace H : (laws_kyPlain.l0 kj1 a0 y105 (wrap64 (x4_1 + 1))) = some r := by first | (rw [hy105]; with_reducible exact H) | (have H2_ := (Option.bind_some _ _).symm.trans H; rw [hy105]; with_reducible exact H2_) | (have H2_ := (Option.bind_some _ _).symm.trans H; with_reducible exact H2_) | with_reducible exact H | (rw [hy105]; exact H) | exact H
                          have Ny105 := Aside0.mk hy105
                          clear hy105
                          have H' := Aside0.mk H
                          clear H
                          have p8 : 0 ≤ (x4_1 : Int) := of_decide_eq_true (by first | (with_reducible assumption) | assumption)
                          have q8 : x4_1 < (a0.size : Int) := of_decide_eq_true (by first | (with_reducible assumption) | assumption)
                          have hx8 := bt_at a0 x4_1
                          replace p8 := eq_true p8
                          replace q8 := eq_true q8
                          go_wp2_with (first | ((with_reducible refine gate_builtin (b := .append) (xs := #[.tmp 46, .tmp 48]) rfl ?_); (try (refine gate_guard (by rfl) ?_; dsimp only)); at_builtin; refine Kd.R_append (Kd.int .u8) (w0 := w) w.heap.size rfl (.tmp 46) (.tmp 48) 68 5 (.int .u8 0) 1 rfl Try.underlying68 info5 rfl (by decide) (by omega) u3 x3_1 (bt a0 x4_1) [.int .u8 (bt a0 x4_1)] (fun _ => True) (fun _ => False) rfl rfl ?aP (fun _ hk => hk.elim) ?aF ?aO ?aB ?aS ?aL ?_; (case aP => exact rfl); (case aB => exact (by repeat (first | (with_reducible first | exact HB.out | apply below_alloc | apply pw_below_drewN | apply below_drew1) | exact HB.out))); (case aF => exact (fun _ _ => trivial)); (case aO => exact (by (with_reducible repeat (first | apply Kd.R_alloc | apply Kd.R_drewN | apply Kd.R_drew)); exact HO_3.out)); (case aS => exact (below_size (by repeat (first | (with_reducible first | exact HB.out | apply below_alloc | apply pw_below_drewN | apply below_drew1) | exact HB.out)))); (case aL => have := LMc15.out; omega); intro v106 w16 ho hb hg hat; rw [← Ny105.out] at ho; have n0_ := Aside0.mk (hb); have n1_ := Aside0.mk (ho); clear HB; clear HO_3; have HB := n0_; have HO107 := n1_; clear n0_ n1_; clear ho hb hg hat))
                          go_roundg kj1
                          case measure => have := HK1.out; have := HJ1.out; omega
                          case rel => exact ⟨(y105), (wrap64 (x4_1 + 1)), (by first | rfl | (simp; done) | (simp [*]; done)), H', ⟨by have := HK1.out; have := HJ1.out; omega⟩, ⟨by (with_reducible repeat (first | apply Kd.R_alloc | apply Kd.R_drewN | apply Kd.R_drew)); exact HO107.out⟩, ⟨by repeat (first | (with_reducible first | exact HB.out | apply below_alloc | apply pw_below_drewN | apply below_drew1) | exact HB.out)⟩⟩
                        · rw [if_neg c15] at H
                          exact absurd H (by simp)
                      · rw [if_neg c14] at H
                        have c14b0 : decide ((bt a0 x4_1) ≤ 90) = false := decide_eq_false c14
                        clear c14
                        by_cases c17 : (bt a0 x4_1) ≥ 48
                        · rw [if_pos c17] at H
                          have c17b0 : decide (48 ≤ (bt a0 x4_1)) = true := decide_eq_true c17
                          clear c17
                          by_cases c18 : (bt a0 x4_1) ≤ 57
                          · rw [if_pos c18] at H
                            have c18b0 : decide ((bt a0 x4_1) ≤ 57) = true := decide_eq_true c18
                            clear c18
                            by_cases c19 : x3_1.length < 140737488355328
                            · rw [if_pos c19] at H
                              have LMc19 := Aside0.mk c19
                              clear c19
                              obtain ⟨y108, hy108⟩ : ∃ y_ : List Int, y_ = (x3_1 ++ [bt a0 x4_1]) := ⟨_, rfl⟩
                              replace H : (laws_kyPlain.l0 kj1 a0 y108 (wrap64 (x4_1 + 1))) = some r := by first | (rw [hy108]; with_reducible exact H) | (have H2_ := (Option.bind_some _ _).symm.trans H; rw [hy108]; with_reducible exact H2_) | (have H2_ := (Option.bind_some _ _).symm.trans H; with_reducible exact H2_) | with_reducible exact H | (rw [hy108]; exact H) | exact H
                              have Ny108 := Aside0.mk hy108
                              clear hy108
                              have H' := Aside0.mk H
                              clear H
                              have p8 : 0 ≤ (x4_1 : Int) := of_decide_eq_true (by first | (with_reducible assumption) | assumption)
                              have q8 : x4_1 < (a0.size : Int) := of_decide_eq_true (by first | (with_reducible assumption) | assumption)
                              have hx8 := bt_at a0 x4_1
                              replace p8 := eq_true p8
                              replace q8 := eq_true q8
                              go_wp2_with (first | ((with_reducible refine gate_builtin (b := .append) (xs := #[.tmp 46, .tmp 48]) rfl ?_); (try (refine gate_guard (by rfl) ?_; dsimp only)); at_builtin; refine Kd.R_append (Kd.int .u8) (w0 := w) w.heap.size rfl (.tmp 46) (.tmp 48) 68 5 (.int .u8 0) 1 rfl Try.underlying68 info5 rfl (by decide) (by omega) u3 x3_1 (bt a0 x4_1) [.int .u8 (bt a0 x4_1)] (fun _ => True) (fun _ => False) rfl rfl ?aP (fun _ hk => hk.elim) ?aF ?aO ?aB ?aS ?aL ?_; (case aP => exact rfl); (case aB => exact (by repeat (first | (with_reducible first | exact HB.out | apply below_alloc | apply pw_below_drewN | apply below_drew1) | exact HB.out))); (case aF => exact (fun _ _ => trivial)); (case aO => exact (by (with_reducible repeat (first | apply Kd.R_alloc | apply Kd.R_drewN | apply Kd.R_drew)); exact HO_3.out)); (case aS => exact (below_size (by repeat (first | (with_reducible first | exact HB.out | apply below_alloc | apply pw_below_drewN | apply below_drew1) | exact HB.out)))); (case aL => have := LMc19.out; omega); intro v109 w20 ho hb hg hat; rw [← Ny108.out] at ho; have n0_ := Aside0.mk (hb); have n1_ := Aside0.mk (ho); clear HB; clear HO_3; have HB := n0_; have HO110 := n1_; clear n0_ n1_; clear ho hb hg hat))
                              go_roundg kj1
                              case measure => have := HK1.out; have := HJ1.out; omega
                              case rel => exact ⟨(y108), (wrap64 (x4_1 + 1)), (by first | rfl | (simp; done) | (simp [*]; done)), H', ⟨by have := HK1.out; have := HJ1.out; omega⟩, ⟨by (with_reducible repeat (first | apply Kd.R_alloc | apply Kd.R_drewN | apply Kd.R_drew)); exact HO110.out⟩, ⟨by repeat (first | (with_reducible first | exact HB.out | apply below_alloc | apply pw_below_drewN | apply below_drew1) | exact HB.out)⟩⟩
                            · rw [if_neg c19] at H
                              exact absurd H (by simp)
                          · rw [if_neg c18] at H
                            have c18b0 : decide ((bt a0 x4_1) ≤ 57) = false := decide_eq_false c18
                            clear c18
                            by_cases c21 : (bt a0 x4_1) = 45
                            · rw [if_pos c21] at H
                              have c21b0 : ((bt a0 x4_1) == 45) = true := beq_iff_eq.mpr c21
                              have c21b1 : ((bt a0 x4_1) != 45) = false := bne_eq_false_iff_eq.mpr c21
                              clear c21
                              by_cases c22 : x3_1.length < 140737488355328
                              · rw [if_pos c22] at H
                                have LMc22 := Aside0.mk c22
                                clear c22
                                obtain ⟨y111, hy111⟩ : ∃ y_ : List Int, y_ = (x3_1 ++ [bt a0 x4_1]) := ⟨_, rfl⟩
                                replace H : (laws_kyPlain.l0 kj1 a0 y111 (wrap64 (x4_1 + 1))) = some r := by first | (rw [hy111]; with_reducible exact H) | (have H2_ := (Option.bind_some _ _).symm.trans H; rw [hy111]; with_reducible exact H2_) | (have H2_ := (Option.bind_some _ _).symm.trans H; with_reducible exact H2_) | with_reducible exact H | (rw [hy111]; exact H) | exact H
                                have Ny111 := Aside0.mk hy111
                                clear hy111
                                have H' := Aside0.mk H
                                clear H
                                have p8 : 0 ≤ (x4_1 : Int) := of_decide_eq_true (by first | (with_reducible assumption) | assumption)
                                have q8 : x4_1 < (a0.size : Int) := of_decide_eq_true (by first | (with_reducible assumption) | assumption)
                                have hx8 := bt_at a0 x4_1
                                replace p8 := eq_true p8
                                replace q8 := eq_true q8
                                go_wp2_with (first | ((with_reducible refine gate_builtin (b := .append) (xs := #[.tmp 46, .tmp 48]) rfl ?_); (try (refine gate_guard (by rfl) ?_; dsimp only)); at_builtin; refine Kd.R_append (Kd.int .u8) (w0 := w) w.heap.size rfl (.tmp 46) (.tmp 48) 68 5 (.int .u8 0) 1 rfl Try.underlying68 info5 rfl (by decide) (by omega) u3 x3_1 (bt a0 x4_1) [.int .u8 (bt a0 x4_1)] (fun _ => True) (fun _ => False) rfl rfl ?aP (fun _ hk => hk.elim) ?aF ?aO ?aB ?aS ?aL ?_; (case aP => exact rfl); (case aB => exact (by repeat (first | (with_reducible first | exact HB.out | apply below_alloc | apply pw_below_drewN | apply below_drew1) | exact HB.out))); (case aF => exact (fun _ _ => trivial)); (case aO => exact (by (with_reducible repeat (first | apply Kd.R_alloc | apply Kd.R_drewN | apply Kd.R_drew)); exact HO_3.out)); (case aS => exact (below_size (by repeat (first | (with_reducible first | exact HB.out | apply below_alloc | apply pw_below_drewN | apply below_drew1) | exact HB.out)))); (case aL => have := LMc22.out; omega); intro v112 w23 ho hb hg hat; rw [← Ny111.out] at ho; have n0_ := Aside0.mk (hb); have n1_ := Aside0.mk (ho); clear HB; clear HO_3; have HB := n0_; have HO113 := n1_; clear n0_ n1_; clear ho hb hg hat))
                                go_roundg kj1
                                case measure => have := HK1.out; have := HJ1.out; omega
                                case rel => exact ⟨(y111), (wrap64 (x4_1 + 1)), (by first | rfl | (simp; done) | (simp [*]; done)), H', ⟨by have := HK1.out; have := HJ1.out; omega⟩, ⟨by (with_reducible repeat (first | apply Kd.R_alloc | apply Kd.R_drewN | apply Kd.R_drew)); exact HO113.out⟩, ⟨by repeat (first | (with_reducible first | exact HB.out | apply below_alloc | apply pw_below_drewN | apply below_drew1) | exact HB.out)⟩⟩
                              · rw [if_neg c22] at H
                                exact absurd H (by simp)
                            · rw [if_neg c21] at H
                              have c21b0 : ((bt a0 x4_1) == 45) = false := beq_eq_false_iff_ne.mpr c21
                              have c21b1 : ((bt a0 x4_1) != 45) = true := bne_iff_ne.mpr c21
                              have H' := Aside0.mk H
                              clear H
                              have p8 : 0 ≤ (x4_1 : Int) := of_decide_eq_true (by first | (with_reducible assumption) | assumption)
                              have q8 : x4_1 < (a0.size : Int) := of_decide_eq_true (by first | (with_reducible assumption) | assumption)
                              have hx8 := bt_at a0 x4_1
                              replace p8 := eq_true p8
                              replace q8 := eq_true q8
                              go_wp2
                              go_roundg kj1
                              case measure => have := HK1.out; have := HJ1.out; omega
                              case rel => exact ⟨(x3_1), (wrap64 (x4_1 + 1)), (by first | rfl | (simp; done) | (simp [*]; done)), H', ⟨by have := HK1.out; have := HJ1.out; omega⟩, ⟨by (with_reducible repeat (first | apply Kd.R_alloc | apply Kd.R_drewN | apply Kd.R_drew)); exact HO_3.out⟩, ⟨by repeat (first | (with_reducible first | exact HB.out | apply below_alloc | apply pw_below_drewN | apply below_drew1) | exact HB.out)⟩⟩
                        · rw [if_neg c17] at H
                          have c17b0 : decide (48 ≤ (bt a0 x4_1)) = false := decide_eq_false c17
                          clear c17
                          by_cases c24 : (bt a0 x4_1) = 45
                          · rw [if_pos c24] at H
                            have c24b0 : ((bt a0 x4_1) == 45) = true := beq_iff_eq.mpr c24
                            have c24b1 : ((bt a0 x4_1) != 45) = false := bne_eq_false_iff_eq.mpr c24
                            clear c24
                            by_cases c25 : x3_1.length < 140737488355328
                            · rw [if_pos c25] at H
                              have LMc25 := Aside0.mk c25
                              clear c25
                              obtain ⟨y114, hy114⟩ : ∃ y_ : List Int, y_ = (x3_1 ++ [bt a0 x4_1]) := ⟨_, rfl⟩
                              replace H : (laws_kyPlain.l0 kj1 a0 y114 (wrap64 (x4_1 + 1))) = some r := by first | (rw [hy114]; with_reducible exact H) | (have H2_ := (Option.bind_some _ _).symm.trans H; rw [hy114]; with_reducible exact H2_) | (have H2_ := (Option.bind_some _ _).symm.trans H; with_reducible exact H2_) | with_reducible exact H | (rw [hy114]; exact H) | exact H
                              have Ny114 := Aside0.mk hy114
                              clear hy114
                              have H' := Aside0.mk H
                              clear H
                              have p8 : 0 ≤ (x4_1 : Int) := of_decide_eq_true (by first | (with_reducible assumption) | assumption)
                              have q8 : x4_1 < (a0.size : Int) := of_decide_eq_true (by first | (with_reducible assumption) | assumption)
                              have hx8 := bt_at a0 x4_1
                              replace p8 := eq_true p8
                              replace q8 := eq_true q8
                              go_wp2_with (first | ((with_reducible refine gate_builtin (b := .append) (xs := #[.tmp 46, .tmp 48]) rfl ?_); (try (refine gate_guard (by rfl) ?_; dsimp only)); at_builtin; refine Kd.R_append (Kd.int .u8) (w0 := w) w.heap.size rfl (.tmp 46) (.tmp 48) 68 5 (.int .u8 0) 1 rfl Try.underlying68 info5 rfl (by decide) (by omega) u3 x3_1 (bt a0 x4_1) [.int .u8 (bt a0 x4_1)] (fun _ => True) (fun _ => False) rfl rfl ?aP (fun _ hk => hk.elim) ?aF ?aO ?aB ?aS ?aL ?_; (case aP => exact rfl); (case aB => exact (by repeat (first | (with_reducible first | exact HB.out | apply below_alloc | apply pw_below_drewN | apply below_drew1) | exact HB.out))); (case aF => exact (fun _ _ => trivial)); (case aO => exact (by (with_reducible repeat (first | apply Kd.R_alloc | apply Kd.R_drewN | apply Kd.R_drew)); exact HO_3.out)); (case aS => exact (below_size (by repeat (first | (with_reducible first | exact HB.out | apply below_alloc | apply pw_below_drewN | apply below_drew1) | exact HB.out)))); (case aL => have := LMc25.out; omega); intro v115 w26 ho hb hg hat; rw [← Ny114.out] at ho; have n0_ := Aside0.mk (hb); have n1_ := Aside0.mk (ho); clear HB; clear HO_3; have HB := n0_; have HO116 := n1_; clear n0_ n1_; clear ho hb hg hat))
                              go_roundg kj1
                              case measure => have := HK1.out; have := HJ1.out; omega
                              case rel => exact ⟨(y114), (wrap64 (x4_1 + 1)), (by first | rfl | (simp; done) | (simp [*]; done)), H', ⟨by have := HK1.out; have := HJ1.out; omega⟩, ⟨by (with_reducible repeat (first | apply Kd.R_alloc | apply Kd.R_drewN | apply Kd.R_drew)); exact HO116.out⟩, ⟨by repeat (first | (with_reducible first | exact HB.out | apply below_alloc | apply pw_below_drewN | apply below_drew1) | exact HB.out)⟩⟩
                            · rw [if_neg c25] at H
                              exact absurd H (by simp)
                          · rw [if_neg c24] at H
                            have c24b0 : ((bt a0 x4_1) == 45) = false := beq_eq_false_iff_ne.mpr c24
                            have c24b1 : ((bt a0 x4_1) != 45) = true := bne_iff_ne.mpr c24
                            have H' := Aside0.mk H
                            clear H
                            have p8 : 0 ≤ (x4_1 : Int) := of_decide_eq_true (by first | (with_reducible assumption) | assumption)
                            have q8 : x4_1 < (a0.size : Int) := of_decide_eq_true (by first | (with_reducible assumption) | assumption)
                            have hx8 := bt_at a0 x4_1
                            replace p8 := eq_true p8
                            replace q8 := eq_true q8
                            go_wp2
                            go_roundg kj1
                            case measure => have := HK1.out; have := HJ1.out; omega
                            case rel => exact ⟨(x3_1), (wrap64 (x4_1 + 1)), (by first | rfl | (simp; done) | (simp [*]; done)), H', ⟨by have := HK1.out; have := HJ1.out; omega⟩, ⟨by (with_reducible repeat (first | apply Kd.R_alloc | apply Kd.R_drewN | apply Kd.R_drew)); exact HO_3.out⟩, ⟨by repeat (first | (with_reducible first | exact HB.out | apply below_alloc | apply pw_below_drewN | apply below_drew1) | exact HB.out)⟩⟩
                    · rw [if_neg c13] at H
                      have c13b0 : decide (65 ≤ (bt a0 x4_1)) = false := decide_eq_false c13
                      clear c13
                      by_cases c27 : (bt a0 x4_1) ≥ 48
                      · rw [if_pos c27] at H
                        have c27b0 : decide (48 ≤ (bt a0 x4_1)) = true := decide_eq_true c27
                        clear c27
                        by_cases c28 : (bt a0 x4_1) ≤ 57
                        · rw [if_pos c28] at H
                          have c28b0 : decide ((bt a0 x4_1) ≤ 57) = true := decide_eq_true c28
                          clear c28
                          by_cases c29 : x3_1.length < 140737488355328
                          · rw [if_pos c29] at H
                            have LMc29 := Aside0.mk c29
                            clear c29
                            obtain ⟨y117, hy117⟩ : ∃ y_ : List Int, y_ = (x3_1 ++ [bt a0 x4_1]) := ⟨_, rfl⟩
                            replace H : (laws_kyPlain.l0 kj1 a0 y117 (wrap64 (x4_1 + 1))) = some r := by first | (rw [hy117]; with_reducible exact H) | (have H2_ := (Option.bind_some _ _).symm.trans H; rw [hy117]; with_reducible exact H2_) | (have H2_ := (Option.bind_some _ _).symm.trans H; with_reducible exact H2_) | with_reducible exact H | (rw [hy117]; exact H) | exact H
                            have Ny117 := Aside0.mk hy117
                            clear hy117
                            have H' := Aside0.mk H
                            clear H
                            have p8 : 0 ≤ (x4_1 : Int) := of_decide_eq_true (by first | (with_reducible assumption) | assumption)
                            have q8 : x4_1 < (a0.size : Int) := of_decide_eq_true (by first | (with_reducible assumption) | assumption)
                            have hx8 := bt_at a0 x4_1
                            replace p8 := eq_true p8
                            replace q8 := eq_true q8
                            go_wp2_with (first | ((with_reducible refine gate_builtin (b := .append) (xs := #[.tmp 46, .tmp 48]) rfl ?_); (try (refine gate_guard (by rfl) ?_; dsimp only)); at_builtin; refine Kd.R_append (Kd.int .u8) (w0 := w) w.heap.size rfl (.tmp 46) (.tmp 48) 68 5 (.int .u8 0) 1 rfl Try.underlying68 info5 rfl (by decide) (by omega) u3 x3_1 (bt a0 x4_1) [.int .u8 (bt a0 x4_1)] (fun _ => True) (fun _ => False) rfl rfl ?aP (fun _ hk => hk.elim) ?aF ?aO ?aB ?aS ?aL ?_; (case aP => exact rfl); (case aB => exact (by repeat (first | (with_reducible first | exact HB.out | apply below_alloc | apply pw_below_drewN | apply below_drew1) | exact HB.out))); (case aF => exact (fun _ _ => trivial)); (case aO => exact (by (with_reducible repeat (first | apply Kd.R_alloc | apply Kd.R_drewN | apply Kd.R_drew)); exact HO_3.out)); (case aS => exact (below_size (by repeat (first | (with_reducible first | exact HB.out | apply below_alloc | apply pw_below_drewN | apply below_drew1) | exact HB.out)))); (case aL => have := LMc29.out; omega); intro v118 w30 ho hb hg hat; rw [← Ny117.out] at ho; have n0_ := Aside0.mk (hb); have n1_ := Aside0.mk (ho); clear HB; clear HO_3; have HB := n0_; have HO119 := n1_; clear n0_ n1_; clear ho hb hg hat))
                            go_roundg kj1
                            case measure => have := HK1.out; have := HJ1.out; omega
                            case rel => exact ⟨(y117), (wrap64 (x4_1 + 1)), (by first | rfl | (simp; done) | (simp [*]; done)), H', ⟨by have := HK1.out; have := HJ1.out; omega⟩, ⟨by (with_reducible repeat (first | apply Kd.R_alloc | apply Kd.R_drewN | apply Kd.R_drew)); exact HO119.out⟩, ⟨by repeat (first | (with_reducible first | exact HB.out | apply below_alloc | apply pw_below_drewN | apply below_drew1) | exact HB.out)⟩⟩
                          · rw [if_neg c29] at H
                            exact absurd H (by simp)
                        · rw [if_neg c28] at H
                          have c28b0 : decide ((bt a0 x4_1) ≤ 57) = false := decide_eq_false c28
                          clear c28
                          by_cases c31 : (bt a0 x4_1) = 45
                          · rw [if_pos c31] at H
                            have c31b0 : ((bt a0 x4_1) == 45) = true := beq_iff_eq.mpr c31
                            have c31b1 : ((bt a0 x4_1) != 45) = false := bne_eq_false_iff_eq.mpr c31
                            clear c31
                            by_cases c32 : x3_1.length < 140737488355328
                            · rw [if_pos c32] at H
                              have LMc32 := Aside0.mk c32
                              clear c32
                              obtain ⟨y120, hy120⟩ : ∃ y_ : List Int, y_ = (x3_1 ++ [bt a0 x4_1]) := ⟨_, rfl⟩
                              replace H : (laws_kyPlain.l0 kj1 a0 y120 (wrap64 (x4_1 + 1))) = some r := by first | (rw [hy120]; with_reducible exact H) | (have H2_ := (Option.bind_some _ _).symm.trans H; rw [hy120]; with_reducible exact H2_) | (have H2_ := (Option.bind_some _ _).symm.trans H; with_reducible exact H2_) | with_reducible exact H | (rw [hy120]; exact H) | exact H
                              have Ny120 := Aside0.mk hy120
                              clear hy120
                              have H' := Aside0.mk H
                              clear H
                              have p8 : 0 ≤ (x4_1 : Int) := of_decide_eq_true (by first | (with_reducible assumption) | assumption)
                              have q8 : x4_1 < (a0.size : Int) := of_decide_eq_true (by first | (with_reducible assumption) | assumption)
                              have hx8 := bt_at a0 x4_1
                              replace p8 := eq_true p8
                              replace q8 := eq_true q8
                              go_wp2_with (first | ((with_reducible refine gate_builtin (b := .append) (xs := #[.tmp 46, .tmp 48]) rfl ?_); (try (refine gate_guard (by rfl) ?_; dsimp only)); at_builtin; refine Kd.R_append (Kd.int .u8) (w0 := w) w.heap.size rfl (.tmp 46) (.tmp 48) 68 5 (.int .u8 0) 1 rfl Try.underlying68 info5 rfl (by decide) (by omega) u3 x3_1 (bt a0 x4_1) [.int .u8 (bt a0 x4_1)] (fun _ => True) (fun _ => False) rfl rfl ?aP (fun _ hk => hk.elim) ?aF ?aO ?aB ?aS ?aL ?_; (case aP => exact rfl); (case aB => exact (by repeat (first | (with_reducible first | exact HB.out | apply below_alloc | apply pw_below_drewN | apply below_drew1) | exact HB.out))); (case aF => exact (fun _ _ => trivial)); (case aO => exact (by (with_reducible repeat (first | apply Kd.R_alloc | apply Kd.R_drewN | apply Kd.R_drew)); exact HO_3.out)); (case aS => exact (below_size (by repeat (first | (with_reducible first | exact HB.out | apply below_alloc | apply pw_below_drewN | apply below_drew1) | exact HB.out)))); (case aL => have := LMc32.out; omega); intro v121 w33 ho hb hg hat; rw [← Ny120.out] at ho; have n0_ := Aside0.mk (hb); have n1_ := Aside0.mk (ho); clear HB; clear HO_3; have HB := n0_; have HO122 := n1_; clear n0_ n1_; clear ho hb hg hat))
                              go_roundg kj1
                              case measure => have := HK1.out; have := HJ1.out; omega
                              case rel => exact ⟨(y120), (wrap64 (x4_1 + 1)), (by first | rfl | (simp; done) | (simp [*]; done)), H', ⟨by have := HK1.out; have := HJ1.out; omega⟩, ⟨by (with_reducible repeat (first | apply Kd.R_alloc | apply Kd.R_drewN | apply Kd.R_drew)); exact HO122.out⟩, ⟨by repeat (first | (with_reducible first | exact HB.out | apply below_alloc | apply pw_below_drewN | apply below_drew1) | exact HB.out)⟩⟩
                            · rw [if_neg c32] at H
                              exact absurd H (by simp)
                          · rw [if_neg c31] at H
                            have c31b0 : ((bt a0 x4_1) == 45) = false := beq_eq_false_iff_ne.mpr c31
                            have c31b1 : ((bt a0 x4_1) != 45) = true := bne_iff_ne.mpr c31
                            have H' := Aside0.mk H
                            clear H
                            have p8 : 0 ≤ (x4_1 : Int) := of_decide_eq_true (by first | (with_reducible assumption) | assumption)
                            have q8 : x4_1 < (a0.size : Int) := of_decide_eq_true (by first | (with_reducible assumption) | assumption)
                            have hx8 := bt_at a0 x4_1
                            replace p8 := eq_true p8
                            replace q8 := eq_true q8
                            go_wp2
                            go_roundg kj1
                            case measure => have := HK1.out; have := HJ1.out; omega
                            case rel => exact ⟨(x3_1), (wrap64 (x4_1 + 1)), (by first | rfl | (simp; done) | (simp [*]; done)), H', ⟨by have := HK1.out; have := HJ1.out; omega⟩, ⟨by (with_reducible repeat (first | apply Kd.R_alloc | apply Kd.R_drewN | apply Kd.R_drew)); exact HO_3.out⟩, ⟨by repeat (first | (with_reducible first | exact HB.out | apply below_alloc | apply pw_below_drewN | apply below_drew1) | exact HB.out)⟩⟩
                      · rw [if_neg c27] at H
                        have c27b0 : decide (48 ≤ (bt a0 x4_1)) = false := decide_eq_false c27
                        clear c27
                        by_cases c34 : (bt a0 x4_1) = 45
                        · rw [if_pos c34] at H
                          have c34b0 : ((bt a0 x4_1) == 45) = true := beq_iff_eq.mpr c34
                          have c34b1 : ((bt a0 x4_1) != 45) = false := bne_eq_false_iff_eq.mpr c34
                          clear c34
                          by_cases c35 : x3_1.length < 140737488355328
                          · rw [if_pos c35] at H
                            have LMc35 := Aside0.mk c35
                            clear c35
                            obtain ⟨y123, hy123⟩ : ∃ y_ : List Int, y_ = (x3_1 ++ [bt a0 x4_1]) := ⟨_, rfl⟩
                            replace H : (laws_kyPlain.l0 kj1 a0 y123 (wrap64 (x4_1 + 1))) = some r := by first | (rw [hy123]; with_reducible exact H) | (have H2_ := (Option.bind_some _ _).symm.trans H; rw [hy123]; with_reducible exact H2_) | (have H2_ := (Option.bind_some _ _).symm.trans H; with_reducible exact H2_) | with_reducible exact H | (rw [hy123]; exact H) | exact H
                            have Ny123 := Aside0.mk hy123
                            clear hy123
                            have H' := Aside0.mk H
                            clear H
                            have p8 : 0 ≤ (x4_1 : Int) := of_decide_eq_true (by first | (with_reducible assumption) | assumption)
                            have q8 : x4_1 < (a0.size : Int) := of_decide_eq_true (by first | (with_reducible assumption) | assumption)
                            have hx8 := bt_at a0 x4_1
                            replace p8 := eq_true p8
                            replace q8 := eq_true q8
                            go_wp2_with (first | ((with_reducible refine gate_builtin (b := .append) (xs := #[.tmp 46, .tmp 48]) rfl ?_); (try (refine gate_guard (by rfl) ?_; dsimp only)); at_builtin; refine Kd.R_append (Kd.int .u8) (w0 := w) w.heap.size rfl (.tmp 46) (.tmp 48) 68 5 (.int .u8 0) 1 rfl Try.underlying68 info5 rfl (by decide) (by omega) u3 x3_1 (bt a0 x4_1) [.int .u8 (bt a0 x4_1)] (fun _ => True) (fun _ => False) rfl rfl ?aP (fun _ hk => hk.elim) ?aF ?aO ?aB ?aS ?aL ?_; (case aP => exact rfl); (case aB => exact (by repeat (first | (with_reducible first | exact HB.out | apply below_alloc | apply pw_below_drewN | apply below_drew1) | exact HB.out))); (case aF => exact (fun _ _ => trivial)); (case aO => exact (by (with_reducible repeat (first | apply Kd.R_alloc | apply Kd.R_drewN | apply Kd.R_drew)); exact HO_3.out)); (case aS => exact (below_size (by repeat (first | (with_reducible first | exact HB.out | apply below_alloc | apply pw_below_drewN | apply below_drew1) | exact HB.out)))); (case aL => have := LMc35.out; omega); intro v124 w36 ho hb hg hat; rw [← Ny123.out] at ho; have n0_ := Aside0.mk (hb); have n1_ := Aside0.mk (ho); clear HB; clear HO_3; have HB := n0_; have HO125 := n1_; clear n0_ n1_; clear ho hb hg hat))
                            go_roundg kj1
                            case measure => have := HK1.out; have := HJ1.out; omega
                            case rel => exact ⟨(y123), (wrap64 (x4_1 + 1)), (by first | rfl | (simp; done) | (simp [*]; done)), H', ⟨by have := HK1.out; have := HJ1.out; omega⟩, ⟨by (with_reducible repeat (first | apply Kd.R_alloc | apply Kd.R_drewN | apply Kd.R_drew)); exact HO125.out⟩, ⟨by repeat (first | (with_reducible first | exact HB.out | apply below_alloc | apply pw_below_drewN | apply below_drew1) | exact HB.out)⟩⟩
                          · rw [if_neg c35] at H
                            exact absurd H (by simp)
                        · rw [if_neg c34] at H
                          have c34b0 : ((bt a0 x4_1) == 45) = false := beq_eq_false_iff_ne.mpr c34
                          have c34b1 : ((bt a0 x4_1) != 45) = true := bne_iff_ne.mpr c34
                          have H' := Aside0.mk H
                          clear H
                          have p8 : 0 ≤ (x4_1 : Int) := of_decide_eq_true (by first | (with_reducible assumption) | assumption)
                          have q8 : x4_1 < (a0.size : Int) := of_decide_eq_true (by first | (with_reducible assumption) | assumption)
                          have hx8 := bt_at a0 x4_1
                          replace p8 := eq_true p8
                          replace q8 := eq_true q8
                          go_wp2
                          go_roundg kj1
                          case measure => have := HK1.out; have := HJ1.out; omega
                          case rel => exact ⟨(x3_1), (wrap64 (x4_1 + 1)), (by first | rfl | (simp; done) | (simp [*]; done)), H', ⟨by have := HK1.out; have := HJ1.out; omega⟩, ⟨by (with_reducible repeat (first | apply Kd.R_alloc | apply Kd.R_drewN | apply Kd.R_drew)); exact HO_3.out⟩, ⟨by repeat (first | (with_reducible first | exact HB.out | apply below_alloc | apply pw_below_drewN | apply below_drew1) | exact HB.out)⟩⟩
                · rw [if_neg c9] at H
                  have c9b0 : decide (97 ≤ (bt a0 x4_1)) = false := decide_eq_false c9
                  clear c9
                  by_cases c37 : (bt a0 x4_1) ≥ 65
                  · rw [if_pos c37] at H
                    have c37b0 : decide (65 ≤ (bt a0 x4_1)) = true := decide_eq_true c37
                    clear c37
                    by_cases c38 : (bt a0 x4_1) ≤ 90
                    · rw [if_pos c38] at H
                      have c38b0 : decide ((bt a0 x4_1) ≤ 90) = true := decide_eq_true c38
                      clear c38
                      by_cases c39 : x3_1.length < 140737488355328
                      · rw [if_pos c39] at H
                        have LMc39 := Aside0.mk c39
                        clear c39
                        obtain ⟨y126, hy126⟩ : ∃ y_ : List Int, y_ = (x3_1 ++ [bt a0 x4_1]) := ⟨_, rfl⟩
                        replace H : (laws_kyPlain.l0 kj1 a0 y126 (wrap64 (x4_1 + 1))) = some r := by first | (rw [hy126]; with_reducible exact H) | (have H2_ := (Option.bind_some _ _).symm.trans H; rw [hy126]; with_reducible exact H2_) | (have H2_ := (Option.bind_some _ _).symm.trans H; with_reducible exact H2_) | with_reducible exact H | (rw [hy126]; exact H) | exact H
                        have Ny126 := Aside0.mk hy126
                        clear hy126
                        have H' := Aside0.mk H
                        clear H
                        have p8 : 0 ≤ (x4_1 : Int) := of_decide_eq_true (by first | (with_reducible assumption) | assumption)
                        have q8 : x4_1 < (a0.size : Int) := of_decide_eq_true (by first | (with_reducible assumption) | assumption)
                        have hx8 := bt_at a0 x4_1
                        replace p8 := eq_true p8
                        replace q8 := eq_true q8
                        go_wp2_with (first | ((with_reducible refine gate_builtin (b := .append) (xs := #[.tmp 46, .tmp 48]) rfl ?_); (try (refine gate_guard (by rfl) ?_; dsimp only)); at_builtin; refine Kd.R_append (Kd.int .u8) (w0 := w) w.heap.size rfl (.tmp 46) (.tmp 48) 68 5 (.int .u8 0) 1 rfl Try.underlying68 info5 rfl (by decide) (by omega) u3 x3_1 (bt a0 x4_1) [.int .u8 (bt a0 x4_1)] (fun _ => True) (fun _ => False) rfl rfl ?aP (fun _ hk => hk.elim) ?aF ?aO ?aB ?aS ?aL ?_; (case aP => exact rfl); (case aB => exact (by repeat (first | (with_reducible first | exact HB.out | apply below_alloc | apply pw_below_drewN | apply below_drew1) | exact HB.out))); (case aF => exact (fun _ _ => trivial)); (case aO => exact (by (with_reducible repeat (first | apply Kd.R_alloc | apply Kd.R_drewN | apply Kd.R_drew)); exact HO_3.out)); (case aS => exact (below_size (by repeat (first | (with_reducible first | exact HB.out | apply below_alloc | apply pw_below_drewN | apply below_drew1) | exact HB.out)))); (case aL => have := LMc39.out; omega); intro v127 w40 ho hb hg hat; rw [← Ny126.out] at ho; have n0_ := Aside0.mk (hb); have n1_ := Aside0.mk (ho); clear HB; clear HO_3; have HB := n0_; have HO128 := n1_; clear n0_ n1_; clear ho hb hg hat))
                        go_roundg kj1
                        case measure => have := HK1.out; have := HJ1.out; omega
                        case rel => exact ⟨(y126), (wrap64 (x4_1 + 1)), (by first | rfl | (simp; done) | (simp [*]; done)), H', ⟨by have := HK1.out; have := HJ1.out; omega⟩, ⟨by (with_reducible repeat (first | apply Kd.R_alloc | apply Kd.R_drewN | apply Kd.R_drew)); exact HO128.out⟩, ⟨by repeat (first | (with_reducible first | exact HB.out | apply below_alloc | apply pw_below_drewN | apply below_drew1) | exact HB.out)⟩⟩
                      · rw [if_neg c39] at H
                        exact absurd H (by simp)
                    · rw [if_neg c38] at H
                      have c38b0 : decide ((bt a0 x4_1) ≤ 90) = false := decide_eq_false c38
                      clear c38
                      by_cases c41 : (bt a0 x4_1) ≥ 48
                      · rw [if_pos c41] at H
                        have c41b0 : decide (48 ≤ (bt a0 x4_1)) = true := decide_eq_true c41
                        clear c41
                        by_cases c42 : (bt a0 x4_1) ≤ 57
                        · rw [if_pos c42] at H
                          have c42b0 : decide ((bt a0 x4_1) ≤ 57) = true := decide_eq_true c42
                          clear c42
                          by_cases c43 : x3_1.length < 140737488355328
                          · rw [if_pos c43] at H
                            have LMc43 := Aside0.mk c43
                            clear c43
                            obtain ⟨y129, hy129⟩ : ∃ y_ : List Int, y_ = (x3_1 ++ [bt a0 x4_1]) := ⟨_, rfl⟩
                            replace H : (laws_kyPlain.l0 kj1 a0 y129 (wrap64 (x4_1 + 1))) = some r := by first | (rw [hy129]; with_reducible exact H) | (have H2_ := (Option.bind_some _ _).symm.trans H; rw [hy129]; with_reducible exact H2_) | (have H2_ := (Option.bind_some _ _).symm.trans H; with_reducible exact H2_) | with_reducible exact H | (rw [hy129]; exact H) | exact H
                            have Ny129 := Aside0.mk hy129
                            clear hy129
                            have H' := Aside0.mk H
                            clear H
                            have p8 : 0 ≤ (x4_1 : Int) := of_decide_eq_true (by first | (with_reducible assumption) | assumption)
                            have q8 : x4_1 < (a0.size : Int) := of_decide_eq_true (by first | (with_reducible assumption) | assumption)
                            have hx8 := bt_at a0 x4_1
                            replace p8 := eq_true p8
                            replace q8 := eq_true q8
                            go_wp2_with (first | ((with_reducible refine gate_builtin (b := .append) (xs := #[.tmp 46, .tmp 48]) rfl ?_); (try (refine gate_guard (by rfl) ?_; dsimp only)); at_builtin; refine Kd.R_append (Kd.int .u8) (w0 := w) w.heap.size rfl (.tmp 46) (.tmp 48) 68 5 (.int .u8 0) 1 rfl Try.underlying68 info5 rfl (by decide) (by omega) u3 x3_1 (bt a0 x4_1) [.int .u8 (bt a0 x4_1)] (fun _ => True) (fun _ => False) rfl rfl ?aP (fun _ hk => hk.elim) ?aF ?aO ?aB ?aS ?aL ?_; (case aP => exact rfl); (case aB => exact (by repeat (first | (with_reducible first | exact HB.out | apply below_alloc | apply pw_below_drewN | apply below_drew1) | exact HB.out))); (case aF => exact (fun _ _ => trivial)); (case aO => exact (by (with_reducible repeat (first | apply Kd.R_alloc | apply Kd.R_drewN | apply Kd.R_drew)); exact HO_3.out)); (case aS => exact (below_size (by repeat (first | (with_reducible first | exact HB.out | apply below_alloc | apply pw_below_drewN | apply below_drew1) | exact HB.out)))); (case aL => have := LMc43.out; omega); intro v130 w44 ho hb hg hat; rw [← Ny129.out] at ho; have n0_ := Aside0.mk (hb); have n1_ := Aside0.mk (ho); clear HB; clear HO_3; have HB := n0_; have HO131 := n1_; clear n0_ n1_; clear ho hb hg hat))
                            go_roundg kj1
                            case measure => have := HK1.out; have := HJ1.out; omega
                            case rel => exact ⟨(y129), (wrap64 (x4_1 + 1)), (by first | rfl | (simp; done) | (simp [*]; done)), H', ⟨by have := HK1.out; have := HJ1.out; omega⟩, ⟨by (with_reducible repeat (first | apply Kd.R_alloc | apply Kd.R_drewN | apply Kd.R_drew)); exact HO131.out⟩, ⟨by repeat (first | (with_reducible first | exact HB.out | apply below_alloc | apply pw_below_drewN | apply below_drew1) | exact HB.out)⟩⟩
                          · rw [if_neg c43] at H
                            exact absurd H (by simp)
                        · rw [if_neg c42] at H
                          have c42b0 : decide ((bt a0 x4_1) ≤ 57) = false := decide_eq_false c42
                          clear c42
                          by_cases c45 : (bt a0 x4_1) = 45
                          · rw [if_pos c45] at H
                            have c45b0 : ((bt a0 x4_1) == 45) = true := beq_iff_eq.mpr c45
                            have c45b1 : ((bt a0 x4_1) != 45) = false := bne_eq_false_iff_eq.mpr c45
                            clear c45
                            by_cases c46 : x3_1.length < 140737488355328
                            · rw [if_pos c46] at H
                              have LMc46 := Aside0.mk c46
                              clear c46
                              obtain ⟨y132, hy132⟩ : ∃ y_ : List Int, y_ = (x3_1 ++ [bt a0 x4_1]) := ⟨_, rfl⟩
                              replace H : (laws_kyPlain.l0 kj1 a0 y132 (wrap64 (x4_1 + 1))) = some r := by first | (rw [hy132]; with_reducible exact H) | (have H2_ := (Option.bind_some _ _).symm.trans H; rw [hy132]; with_reducible exact H2_) | (have H2_ := (Option.bind_some _ _).symm.trans H; with_reducible exact H2_) | with_reducible exact H | (rw [hy132]; exact H) | exact H
                              have Ny132 := Aside0.mk hy132
                              clear hy132
                              have H' := Aside0.mk H
                              clear H
                              have p8 : 0 ≤ (x4_1 : Int) := of_decide_eq_true (by first | (with_reducible assumption) | assumption)
                              have q8 : x4_1 < (a0.size : Int) := of_decide_eq_true (by first | (with_reducible assumption) | assumption)
                              have hx8 := bt_at a0 x4_1
                              replace p8 := eq_true p8
                              replace q8 := eq_true q8
                              go_wp2_with (first | ((with_reducible refine gate_builtin (b := .append) (xs := #[.tmp 46, .tmp 48]) rfl ?_); (try (refine gate_guard (by rfl) ?_; dsimp only)); at_builtin; refine Kd.R_append (Kd.int .u8) (w0 := w) w.heap.size rfl (.tmp 46) (.tmp 48) 68 5 (.int .u8 0) 1 rfl Try.underlying68 info5 rfl (by decide) (by omega) u3 x3_1 (bt a0 x4_1) [.int .u8 (bt a0 x4_1)] (fun _ => True) (fun _ => False) rfl rfl ?aP (fun _ hk => hk.elim) ?aF ?aO ?aB ?aS ?aL ?_; (case aP => exact rfl); (case aB => exact (by repeat (first | (with_reducible first | exact HB.out | apply below_alloc | apply pw_below_drewN | apply below_drew1) | exact HB.out))); (case aF => exact (fun _ _ => trivial)); (case aO => exact (by (with_reducible repeat (first | apply Kd.R_alloc | apply Kd.R_drewN | apply Kd.R_drew)); exact HO_3.out)); (case aS => exact (below_size (by repeat (first | (with_reducible first | exact HB.out | apply below_alloc | apply pw_below_drewN | apply below_drew1) | exact HB.out)))); (case aL => have := LMc46.out; omega); intro v133 w47 ho hb hg hat; rw [← Ny132.out] at ho; have n0_ := Aside0.mk (hb); have n1_ := Aside0.mk (ho); clear HB; clear HO_3; have HB := n0_; have HO134 := n1_; clear n0_ n1_; clear ho hb hg hat))
                              go_roundg kj1
                              case measure => have := HK1.out; have := HJ1.out; omega
                              case rel => exact ⟨(y132), (wrap64 (x4_1 + 1)), (by first | rfl | (simp; done) | (simp [*]; done)), H', ⟨by have := HK1.out; have := HJ1.out; omega⟩, ⟨by (with_reducible repeat (first | apply Kd.R_alloc | apply Kd.R_drewN | apply Kd.R_drew)); exact HO134.out⟩, ⟨by repeat (first | (with_reducible first | exact HB.out | apply below_alloc | apply pw_below_drewN | apply below_drew1) | exact HB.out)⟩⟩
                            · rw [if_neg c46] at H
                              exact absurd H (by simp)
                          · rw [if_neg c45] at H
                            have c45b0 : ((bt a0 x4_1) == 45) = false := beq_eq_false_iff_ne.mpr c45
                            have c45b1 : ((bt a0 x4_1) != 45) = true := bne_iff_ne.mpr c45
                            have H' := Aside0.mk H
                            clear H
                            have p8 : 0 ≤ (x4_1 : Int) := of_decide_eq_true (by first | (with_reducible assumption) | assumption)
                            have q8 : x4_1 < (a0.size : Int) := of_decide_eq_true (by first | (with_reducible assumption) | assumption)
                            have hx8 := bt_at a0 x4_1
                            replace p8 := eq_true p8
                            replace q8 := eq_true q8
                            go_wp2
                            go_roundg kj1
                            case measure => have := HK1.out; have := HJ1.out; omega
                            case rel => exact ⟨(x3_1), (wrap64 (x4_1 + 1)), (by first | rfl | (simp; done) | (simp [*]; done)), H', ⟨by have := HK1.out; have := HJ1.out; omega⟩, ⟨by (with_reducible repeat (first | apply Kd.R_alloc | apply Kd.R_drewN | apply Kd.R_drew)); exact HO_3.out⟩, ⟨by repeat (first | (with_reducible first | exact HB.out | apply below_alloc | apply pw_below_drewN | apply below_drew1) | exact HB.out)⟩⟩
                      · rw [if_neg c41] at H
                        have c41b0 : decide (48 ≤ (bt a0 x4_1)) = false := decide_eq_false c41
                        clear c41
                        by_cases c48 : (bt a0 x4_1) = 45
                        · rw [if_pos c48] at H
                          have c48b0 : ((bt a0 x4_1) == 45) = true := beq_iff_eq.mpr c48
                          have c48b1 : ((bt a0 x4_1) != 45) = false := bne_eq_false_iff_eq.mpr c48
                          clear c48
                          by_cases c49 : x3_1.length < 140737488355328
                          · rw [if_pos c49] at H
                            have LMc49 := Aside0.mk c49
                            clear c49
                            obtain ⟨y135, hy135⟩ : ∃ y_ : List Int, y_ = (x3_1 ++ [bt a0 x4_1]) := ⟨_, rfl⟩
                            replace H : (laws_kyPlain.l0 kj1 a0 y135 (wrap64 (x4_1 + 1))) = some r := by first | (rw [hy135]; with_reducible exact H) | (have H2_ := (Option.bind_some _ _).symm.trans H; rw [hy135]; with_reducible exact H2_) | (have H2_ := (Option.bind_some _ _).symm.trans H; with_reducible exact H2_) | with_reducible exact H | (rw [hy135]; exact H) | exact H
                            have Ny135 := Aside0.mk hy135
                            clear hy135
                            have H' := Aside0.mk H
                            clear H
                            have p8 : 0 ≤ (x4_1 : Int) := of_decide_eq_true (by first | (with_reducible assumption) | assumption)
                            have q8 : x4_1 < (a0.size : Int) := of_decide_eq_true (by first | (with_reducible assumption) | assumption)
                            have hx8 := bt_at a0 x4_1
                            replace p8 := eq_true p8
                            replace q8 := eq_true q8
                            go_wp2_with (first | ((with_reducible refine gate_builtin (b := .append) (xs := #[.tmp 46, .tmp 48]) rfl ?_); (try (refine gate_guard (by rfl) ?_; dsimp only)); at_builtin; refine Kd.R_append (Kd.int .u8) (w0 := w) w.heap.size rfl (.tmp 46) (.tmp 48) 68 5 (.int .u8 0) 1 rfl Try.underlying68 info5 rfl (by decide) (by omega) u3 x3_1 (bt a0 x4_1) [.int .u8 (bt a0 x4_1)] (fun _ => True) (fun _ => False) rfl rfl ?aP (fun _ hk => hk.elim) ?aF ?aO ?aB ?aS ?aL ?_; (case aP => exact rfl); (case aB => exact (by repeat (first | (with_reducible first | exact HB.out | apply below_alloc | apply pw_below_drewN | apply below_drew1) | exact HB.out))); (case aF => exact (fun _ _ => trivial)); (case aO => exact (by (with_reducible repeat (first | apply Kd.R_alloc | apply Kd.R_drewN | apply Kd.R_drew)); exact HO_3.out)); (case aS => exact (below_size (by repeat (first | (with_reducible first | exact HB.out | apply below_alloc | apply pw_below_drewN | apply below_drew1) | exact HB.out)))); (case aL => have := LMc49.out; omega); intro v136 w50 ho hb hg hat; rw [← Ny135.out] at ho; have n0_ := Aside0.mk (hb); have n1_ := Aside0.mk (ho); clear HB; clear HO_3; have HB := n0_; have HO137 := n1_; clear n0_ n1_; clear ho hb hg hat))
                            go_roundg kj1
                            case measure => have := HK1.out; have := HJ1.out; omega
                            case rel => exact ⟨(y135), (wrap64 (x4_1 + 1)), (by first | rfl | (simp; done) | (simp [*]; done)), H', ⟨by have := HK1.out; have := HJ1.out; omega⟩, ⟨by (with_reducible repeat (first | apply Kd.R_alloc | apply Kd.R_drewN | apply Kd.R_drew)); exact HO137.out⟩, ⟨by repeat (first | (with_reducible first | exact HB.out | apply below_alloc | apply pw_below_drewN | apply below_drew1) | exact HB.out)⟩⟩
                          · rw [if_neg c49] at H
                            exact absurd H (by simp)
                        · rw [if_neg c48] at H
                          have c48b0 : ((bt a0 x4_1) == 45) = false := beq_eq_false_iff_ne.mpr c48
                          have c48b1 : ((bt a0 x4_1) != 45) = true := bne_iff_ne.mpr c48
                          have H' := Aside0.mk H
                          clear H
                          have p8 : 0 ≤ (x4_1 : Int) := of_decide_eq_true (by first | (with_reducible assumption) | assumption)
                          have q8 : x4_1 < (a0.size : Int) := of_decide_eq_true (by first | (with_reducible assumption) | assumption)
                          have hx8 := bt_at a0 x4_1
                          replace p8 := eq_true p8
                          replace q8 := eq_true q8
                          go_wp2
                          go_roundg kj1
                          case measure => have := HK1.out; have := HJ1.out; omega
                          case rel => exact ⟨(x3_1), (wrap64 (x4_1 + 1)), (by first | rfl | (simp; done) | (simp [*]; done)), H', ⟨by have := HK1.out; have := HJ1.out; omega⟩, ⟨by (with_reducible repeat (first | apply Kd.R_alloc | apply Kd.R_drewN | apply Kd.R_drew)); exact HO_3.out⟩, ⟨by repeat (first | (with_reducible first | exact HB.out | apply below_alloc | apply pw_below_drewN | apply below_drew1) | exact HB.out)⟩⟩
                  · rw [if_neg c37] at H
                    have c37b0 : decide (65 ≤ (bt a0 x4_1)) = false := decide_eq_false c37
                    clear c37
                    by_cases c51 : (bt a0 x4_1) ≥ 48
                    · rw [if_pos c51] at H
                      have c51b0 : decide (48 ≤ (bt a0 x4_1)) = true := decide_eq_true c51
                      clear c51
                      by_cases c52 : (bt a0 x4_1) ≤ 57
                      · rw [if_pos c52] at H
                        have c52b0 : decide ((bt a0 x4_1) ≤ 57) = true := decide_eq_true c52
                        clear c52
                        by_cases c53 : x3_1.length < 140737488355328
                        · rw [if_pos c53] at H
                          have LMc53 := Aside0.mk c53
                          clear c53
                          obtain ⟨y138, hy138⟩ : ∃ y_ : List Int, y_ = (x3_1 ++ [bt a0 x4_1]) := ⟨_, rfl⟩
                          replace H : (laws_kyPlain.l0 kj1 a0 y138 (wrap64 (x4_1 + 1))) = some r := by first | (rw [hy138]; with_reducible exact H) | (have H2_ := (Option.bind_some _ _).symm.trans H; rw [hy138]; with_reducible exact H2_) | (have H2_ := (Option.bind_some _ _).symm.trans H; with_reducible exact H2_) | with_reducible exact H | (rw [hy138]; exact H) | exact H
                          have Ny138 := Aside0.mk hy138
                          clear hy138
                          have H' := Aside0.mk H
                          clear H
                          have p8 : 0 ≤ (x4_1 : Int) := of_decide_eq_true (by first | (with_reducible assumption) | assumption)
                          have q8 : x4_1 < (a0.size : Int) := of_decide_eq_true (by first | (with_reducible assumption) | assumption)
                          have hx8 := bt_at a0 x4_1
                          replace p8 := eq_true p8
                          replace q8 := eq_true q8
                          go_wp2_with (first | ((with_reducible refine gate_builtin (b := .append) (xs := #[.tmp 46, .tmp 48]) rfl ?_); (try (refine gate_guard (by rfl) ?_; dsimp only)); at_builtin; refine Kd.R_append (Kd.int .u8) (w0 := w) w.heap.size rfl (.tmp 46) (.tmp 48) 68 5 (.int .u8 0) 1 rfl Try.underlying68 info5 rfl (by decide) (by omega) u3 x3_1 (bt a0 x4_1) [.int .u8 (bt a0 x4_1)] (fun _ => True) (fun _ => False) rfl rfl ?aP (fun _ hk => hk.elim) ?aF ?aO ?aB ?aS ?aL ?_; (case aP => exact rfl); (case aB => exact (by repeat (first | (with_reducible first | exact HB.out | apply below_alloc | apply pw_below_drewN | apply below_drew1) | exact HB.out))); (case aF => exact (fun _ _ => trivial)); (case aO => exact (by (with_reducible repeat (first | apply Kd.R_alloc | apply Kd.R_drewN | apply Kd.R_drew)); exact HO_3.out)); (case aS => exact (below_size (by repeat (first | (with_reducible first | exact HB.out | apply below_alloc | apply pw_below_drewN | apply below_drew1) | exact HB.out)))); (case aL => have := LMc53.out; omega); intro v139 w54 ho hb hg hat; rw [← Ny138.out] at ho; have n0_ := Aside0.mk (hb); have n1_ := Aside0.mk (ho); clear HB; clear HO_3; have HB := n0_; have HO140 := n1_; clear n0_ n1_; clear ho hb hg hat))
                          go_roundg kj1
                          case measure => have := HK1.out; have := HJ1.out; omega
                          case rel => exact ⟨(y138), (wrap64 (x4_1 + 1)), (by first | rfl | (simp; done) | (simp [*]; done)), H', ⟨by have := HK1.out; have := HJ1.out; omega⟩, ⟨by (with_reducible repeat (first | apply Kd.R_alloc | apply Kd.R_drewN | apply Kd.R_drew)); exact HO140.out⟩, ⟨by repeat (first | (with_reducible first | exact HB.out | apply below_alloc | apply pw_below_drewN | apply below_drew1) | exact HB.out)⟩⟩
                        · rw [if_neg c53] at H
                          exact absurd H (by simp)
                      · rw [if_neg c52] at H
                        have c52b0 : decide ((bt a0 x4_1) ≤ 57) = false := decide_eq_false c52
                        clear c52
                        by_cases c55 : (bt a0 x4_1) = 45
                        · rw [if_pos c55] at H
                          have c55b0 : ((bt a0 x4_1) == 45) = true := beq_iff_eq.mpr c55
                          have c55b1 : ((bt a0 x4_1) != 45) = false := bne_eq_false_iff_eq.mpr c55
                          clear c55
                          by_cases c56 : x3_1.length < 140737488355328
                          · rw [if_pos c56] at H
                            have LMc56 := Aside0.mk c56
                            clear c56
                            obtain ⟨y141, hy141⟩ : ∃ y_ : List Int, y_ = (x3_1 ++ [bt a0 x4_1]) := ⟨_, rfl⟩
                            replace H : (laws_kyPlain.l0 kj1 a0 y141 (wrap64 (x4_1 + 1))) = some r := by first | (rw [hy141]; with_reducible exact H) | (have H2_ := (Option.bind_some _ _).symm.trans H; rw [hy141]; with_reducible exact H2_) | (have H2_ := (Option.bind_some _ _).symm.trans H; with_reducible exact H2_) | with_reducible exact H | (rw [hy141]; exact H) | exact H
                            have Ny141 := Aside0.mk hy141
                            clear hy141
                            have H' := Aside0.mk H
                            clear H
                            have p8 : 0 ≤ (x4_1 : Int) := of_decide_eq_true (by first | (with_reducible assumption) | assumption)
                            have q8 : x4_1 < (a0.size : Int) := of_decide_eq_true (by first | (with_reducible assumption) | assumption)
                            have hx8 := bt_at a0 x4_1
                            replace p8 := eq_true p8
                            replace q8 := eq_true q8
                            go_wp2_with (first | ((with_reducible refine gate_builtin (b := .append) (xs := #[.tmp 46, .tmp 48]) rfl ?_); (try (refine gate_guard (by rfl) ?_; dsimp only)); at_builtin; refine Kd.R_append (Kd.int .u8) (w0 := w) w.heap.size rfl (.tmp 46) (.tmp 48) 68 5 (.int .u8 0) 1 rfl Try.underlying68 info5 rfl (by decide) (by omega) u3 x3_1 (bt a0 x4_1) [.int .u8 (bt a0 x4_1)] (fun _ => True) (fun _ => False) rfl rfl ?aP (fun _ hk => hk.elim) ?aF ?aO ?aB ?aS ?aL ?_; (case aP => exact rfl); (case aB => exact (by repeat (first | (with_reducible first | exact HB.out | apply below_alloc | apply pw_below_drewN | apply below_drew1) | exact HB.out))); (case aF => exact (fun _ _ => trivial)); (case aO => exact (by (with_reducible repeat (first | apply Kd.R_alloc | apply Kd.R_drewN | apply Kd.R_drew)); exact HO_3.out)); (case aS => exact (below_size (by repeat (first | (with_reducible first | exact HB.out | apply below_alloc | apply pw_below_drewN | apply below_drew1) | exact HB.out)))); (case aL => have := LMc56.out; omega); intro v142 w57 ho hb hg hat; rw [← Ny141.out] at ho; have n0_ := Aside0.mk (hb); have n1_ := Aside0.mk (ho); clear HB; clear HO_3; have HB := n0_; have HO143 := n1_; clear n0_ n1_; clear ho hb hg hat))
                            go_roundg kj1
                            case measure => have := HK1.out; have := HJ1.out; omega
                            case rel => exact ⟨(y141), (wrap64 (x4_1 + 1)), (by first | rfl | (simp; done) | (simp [*]; done)), H', ⟨by have := HK1.out; have := HJ1.out; omega⟩, ⟨by (with_reducible repeat (first | apply Kd.R_alloc | apply Kd.R_drewN | apply Kd.R_drew)); exact HO143.out⟩, ⟨by repeat (first | (with_reducible first | exact HB.out | apply below_alloc | apply pw_below_drewN | apply below_drew1) | exact HB.out)⟩⟩
                          · rw [if_neg c56] at H
                            exact absurd H (by simp)
                        · rw [if_neg c55] at H
                          have c55b0 : ((bt a0 x4_1) == 45) = false := beq_eq_false_iff_ne.mpr c55
                          have c55b1 : ((bt a0 x4_1) != 45) = true := bne_iff_ne.mpr c55
                          have H' := Aside0.mk H
                          clear H
                          have p8 : 0 ≤ (x4_1 : Int) := of_decide_eq_true (by first | (with_reducible assumption) | assumption)
                          have q8 : x4_1 < (a0.size : Int) := of_decide_eq_true (by first | (with_reducible assumption) | assumption)
                          have hx8 := bt_at a0 x4_1
                          replace p8 := eq_true p8
                          replace q8 := eq_true q8
                          go_wp2
                          go_roundg kj1
                          case measure => have := HK1.out; have := HJ1.out; omega
                          case rel => exact ⟨(x3_1), (wrap64 (x4_1 + 1)), (by first | rfl | (simp; done) | (simp [*]; done)), H', ⟨by have := HK1.out; have := HJ1.out; omega⟩, ⟨by (with_reducible repeat (first | apply Kd.R_alloc | apply Kd.R_drewN | apply Kd.R_drew)); exact HO_3.out⟩, ⟨by repeat (first | (with_reducible first | exact HB.out | apply below_alloc | apply pw_below_drewN | apply below_drew1) | exact HB.out)⟩⟩
                    · rw [if_neg c51] at H
                      have c51b0 : decide (48 ≤ (bt a0 x4_1)) = false := decide_eq_false c51
                      clear c51
                      by_cases c58 : (bt a0 x4_1) = 45
                      · rw [if_pos c58] at H
                        have c58b0 : ((bt a0 x4_1) == 45) = true := beq_iff_eq.mpr c58
                        have c58b1 : ((bt a0 x4_1) != 45) = false := bne_eq_false_iff_eq.mpr c58
                        clear c58
                        by_cases c59 : x3_1.length < 140737488355328
                        · rw [if_pos c59] at H
                          have LMc59 := Aside0.mk c59
                          clear c59
                          obtain ⟨y144, hy144⟩ : ∃ y_ : List Int, y_ = (x3_1 ++ [bt a0 x4_1]) := ⟨_, rfl⟩
                          replace H : (laws_kyPlain.l0 kj1 a0 y144 (wrap64 (x4_1 + 1))) = some r := by first | (rw [hy144]; with_reducible exact H) | (have H2_ := (Option.bind_some _ _).symm.trans H; rw [hy144]; with_reducible exact H2_) | (have H2_ := (Option.bind_some _ _).symm.trans H; with_reducible exact H2_) | with_reducible exact H | (rw [hy144]; exact H) | exact H
                          have Ny144 := Aside0.mk hy144
                          clear hy144
                          have H' := Aside0.mk H
                          clear H
                          have p8 : 0 ≤ (x4_1 : Int) := of_decide_eq_true (by first | (with_reducible assumption) | assumption)
                          have q8 : x4_1 < (a0.size : Int) := of_decide_eq_true (by first | (with_reducible assumption) | assumption)
                          have hx8 := bt_at a0 x4_1
                          replace p8 := eq_true p8
                          replace q8 := eq_true q8
                          go_wp2_with (first | ((with_reducible refine gate_builtin (b := .append) (xs := #[.tmp 46, .tmp 48]) rfl ?_); (try (refine gate_guard (by rfl) ?_; dsimp only)); at_builtin; refine Kd.R_append (Kd.int .u8) (w0 := w) w.heap.size rfl (.tmp 46) (.tmp 48) 68 5 (.int .u8 0) 1 rfl Try.underlying68 info5 rfl (by decide) (by omega) u3 x3_1 (bt a0 x4_1) [.int .u8 (bt a0 x4_1)] (fun _ => True) (fun _ => False) rfl rfl ?aP (fun _ hk => hk.elim) ?aF ?aO ?aB ?aS ?aL ?_; (case aP => exact rfl); (case aB => exact (by repeat (first | (with_reducible first | exact HB.out | apply below_alloc | apply pw_below_drewN | apply below_drew1) | exact HB.out))); (case aF => exact (fun _ _ => trivial)); (case aO => exact (by (with_reducible repeat (first | apply Kd.R_alloc | apply Kd.R_drewN | apply Kd.R_drew)); exact HO_3.out)); (case aS => exact (below_size (by repeat (first | (with_reducible first | exact HB.out | apply below_alloc | apply pw_below_drewN | apply below_drew1) | exact HB.out)))); (case aL => have := LMc59.out; omega); intro v145 w60 ho hb hg hat; rw [← Ny144.out] at ho; have n0_ := Aside0.mk (hb); have n1_ := Aside0.mk (ho); clear HB; clear HO_3; have HB := n0_; have HO146 := n1_; clear n0_ n1_; clear ho hb hg hat))
                          go_roundg kj1
                          case measure => have := HK1.out; have := HJ1.out; omega
                          case rel => exact ⟨(y144), (wrap64 (x4_1 + 1)), (by first | rfl | (simp; done) | (simp [*]; done)), H', ⟨by have := HK1.out; have := HJ1.out; omega⟩, ⟨by (with_reducible repeat (first | apply Kd.R_alloc | apply Kd.R_drewN | apply Kd.R_drew)); exact HO146.out⟩, ⟨by repeat (first | (with_reducible first | exact HB.out | apply below_alloc | apply pw_below_drewN | apply below_drew1) | exact HB.out)⟩⟩
                        · rw [if_neg c59] at H
                          exact absurd H (by simp)
                      · rw [if_neg c58] at H
                        have c58b0 : ((bt a0 x4_1) == 45) = false := beq_eq_false_iff_ne.mpr c58
                        have c58b1 : ((bt a0 x4_1) != 45) = true := bne_iff_ne.mpr c58
                        have H' := Aside0.mk H
                        clear H
                        have p8 : 0 ≤ (x4_1 : Int) := of_decide_eq_true (by first | (with_reducible assumption) | assumption)
                        have q8 : x4_1 < (a0.size : Int) := of_decide_eq_true (by first | (with_reducible assumption) | assumption)
                        have hx8 := bt_at a0 x4_1
                        replace p8 := eq_true p8
                        replace q8 := eq_true q8
                        go_wp2
                        go_roundg kj1
                        case measure => have := HK1.out; have := HJ1.out; omega
                        case rel => exact ⟨(x3_1), (wrap64 (x4_1 + 1)), (by first | rfl | (simp; done) | (simp [*]; done)), H', ⟨by have := HK1.out; have := HJ1.out; omega⟩, ⟨by (with_reducible repeat (first | apply Kd.R_alloc | apply Kd.R_drewN | apply Kd.R_drew)); exact HO_3.out⟩, ⟨by repeat (first | (with_reducible first | exact HB.out | apply below_alloc | apply pw_below_drewN | apply below_drew1) | exact HB.out)⟩⟩
              · rw [if_neg c7] at H
                exact absurd H (by simp)
            · rw [if_neg c6] at H
              exact absurd H (by simp)
          · replace c5 := Bool.eq_false_iff.mpr c5
            subst c5
            have H1 : (some (strOfNums x3_1)) = some r := by rw [if_neg (show ¬ (false = true) by decide)] at H; exact H
            clear H
            have H := H1
            clear H1
            obtain rfl := Option.some.inj H
            have hcv61 := own_string (P := Try.prog) Try.underlying68 Try.underlying5 Try.underlying9 (Kd.own_of_R HO_3.out)
            go_wp2
            go_ret
            exact ⟨by first | rfl | (simp [errW_none, errW_some] <;> rfl) | (simp [*, errW_none, errW_some] <;> rfl), by repeat (first | (with_reducible first | exact HB.out | apply below_alloc | apply pw_below_drewN | apply below_drew1) | exact HB.out)⟩

end Go.Proofs.Ytcficphbjicneaa.PFnIdBack

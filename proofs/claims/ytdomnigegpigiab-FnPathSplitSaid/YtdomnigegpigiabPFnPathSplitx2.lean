-- printed by a program of this session: the print, turned for a few more operations
import Derived.Test.YtdomnigegpigiabPFnPathSplitx0
import Derived.Test.YtdomnigegpigiabPFnPathSplitx1
namespace Go.Proofs.Ytdomnigegpigiab.PFnPathSplit
open Go.RowKit Go.Proofs.YtdomnigegpigiabW.PrintWords Go.Proofs.YtdomnigegpigiabW.PrintLast Go.Proofs.YtdomnigegpigiabW.PrintMore
attribute [local go_sem] max2_int min2_int max_two min_two max_three min_three max_four min_four   -- for this text's walks alone
set_option linter.unusedVariables false
set_option linter.unusedSimpArgs false

/-! ### utils_PathSplitter: function 29 -/
mutual
def utils_PathSplitter.j0 : Nat → ByteArray → List ByteArray → List ByteArray → Bool → Option (List ByteArray)
  | 0, _, _, _, _ => none
  | k + 1, x1, x5, x6, x20 => if x20 = true then (if 1 ≤ (x5.length : Int) then (utils_PathSplitter.j1 k x1 (x5.drop (1 : Int).toNat) x6) else (none)) else (utils_PathSplitter.j1 k x1 x5 x6)
def utils_PathSplitter.j1 : Nat → ByteArray → List ByteArray → List ByteArray → Option (List ByteArray)
  | 0, _, _, _ => none
  | k + 1, x1, x5, x6 => if 0 < (x5.length : Int) then (if x6.length < 8796093022208 then (utils_PathSplitter.l0 k x1 x5 (x6 ++ [rdOf ByteArray.empty x5 0]) 1) else (none)) else (none)
def utils_PathSplitter.l0 : Nat → ByteArray → List ByteArray → List ByteArray → Int → Option (List ByteArray)
  | 0, _, _, _, _ => none
  | k + 1, x1, x5, x6, x7 => if x7 < (x5.length : Int) then (if 0 ≤ (wrap64 ((x6.length : Int) - 1)) then (if (wrap64 ((x6.length : Int) - 1)) < (x6.length : Int) then ((strings_HasSuffix.f (rdOf ByteArray.empty x6 (wrap64 ((x6.length : Int) - 1))) (⟨#[92]⟩ : ByteArray)).bind fun t125 => (if t125 = true then ((strings_TrimSuffix.f (rdOf ByteArray.empty x6 (wrap64 ((x6.length : Int) - 1))) (⟨#[92]⟩ : ByteArray)).bind fun t127 => (if t127.size + x1.size ≤ 9223372036854775807 then (if 0 ≤ x7 then (if (t127 ++ x1).size + (rdOf ByteArray.empty x5 x7).size ≤ 9223372036854775807 then (utils_PathSplitter.l0 k x1 x5 (x6.set ((wrap64 ((x6.length : Int) - 1)) : Int).toNat ((t127 ++ x1) ++ (rdOf ByteArray.empty x5 x7))) (wrap64 (x7 + 1))) else (none)) else (none)) else (none))) else (if 0 ≤ x7 then (if x6.length < 8796093022208 then (utils_PathSplitter.l0 k x1 x5 (x6 ++ [rdOf ByteArray.empty x5 x7]) (wrap64 (x7 + 1))) else (none)) else (none)))) else (none)) else (none)) else (some x6)
end
def utils_PathSplitter.f (k : Nat) (a0 : ByteArray) (a1 : ByteArray) : Option (List ByteArray) := (utils_zzSplit.f k a0 a1).bind fun t113 => (if (t113.length : Int) > 1 then (if 0 < (t113.length : Int) then (utils_PathSplitter.j0 k a1 t113 ([] : List ByteArray) ((rdOf ByteArray.empty t113 0).toList == ([] : List UInt8))) else (none)) else (utils_PathSplitter.j0 k a1 t113 ([] : List ByteArray) false))
theorem utils_PathSplitter.mono_l : ∀ k, (∀ y0 y1 y2 y3, LeO (utils_PathSplitter.j0 k y0 y1 y2 y3) (utils_PathSplitter.j0 (k + 1) y0 y1 y2 y3)) ∧ (∀ y0 y1 y2, LeO (utils_PathSplitter.j1 k y0 y1 y2) (utils_PathSplitter.j1 (k + 1) y0 y1 y2)) ∧ (∀ y0 y1 y2 y3, LeO (utils_PathSplitter.l0 k y0 y1 y2 y3) (utils_PathSplitter.l0 (k + 1) y0 y1 y2 y3))
  | 0 => ⟨fun _ _ _ _ r h => by simp [utils_PathSplitter.j0] at h, fun _ _ _ r h => by simp [utils_PathSplitter.j1] at h, fun _ _ _ _ r h => by simp [utils_PathSplitter.l0] at h⟩
  | k + 1 => by
    obtain ⟨ih0, ih1, ih2⟩ := utils_PathSplitter.mono_l k
    refine ⟨?_, ?_, ?_⟩
    · intro y0 y1 y2 y3
      unfold utils_PathSplitter.j0
      repeat' first
      | (with_reducible exact ih0 _ _ _ _)
      | (with_reducible exact ih1 _ _ _)
      | (with_reducible exact ih2 _ _ _ _)
      | (with_reducible exact utils_zzSplit.mono _ _ _)
      | (with_reducible exact LeO.refl _)
      | (with_reducible exact LeO.none _)
      | (with_reducible refine LeO.ite ?_ ?_)
      | (with_reducible refine LeO.bind ?_ (fun _ => ?_))
      | exact ih0 _ _ _ _
      | exact ih1 _ _ _
      | exact ih2 _ _ _ _
      | exact utils_zzSplit.mono _ _ _
      | exact LeO.none _
      | refine LeO.ite ?_ ?_
      | refine LeO.bind ?_ (fun _ => ?_)
    · intro y0 y1 y2
      unfold utils_PathSplitter.j1
      repeat' first
      | (with_reducible exact ih0 _ _ _ _)
      | (with_reducible exact ih1 _ _ _)
      | (with_reducible exact ih2 _ _ _ _)
      | (with_reducible exact utils_zzSplit.mono _ _ _)
      | (with_reducible exact LeO.refl _)
      | (with_reducible exact LeO.none _)
      | (with_reducible refine LeO.ite ?_ ?_)
      | (with_reducible refine LeO.bind ?_ (fun _ => ?_))
      | exact ih0 _ _ _ _
      | exact ih1 _ _ _
      | exact ih2 _ _ _ _
      | exact utils_zzSplit.mono _ _ _
      | exact LeO.none _
      | refine LeO.ite ?_ ?_
      | refine LeO.bind ?_ (fun _ => ?_)
    · intro y0 y1 y2 y3
      unfold utils_PathSplitter.l0
      repeat' first
      | (with_reducible exact ih0 _ _ _ _)
      | (with_reducible exact ih1 _ _ _)
      | (with_reducible exact ih2 _ _ _ _)
      | (with_reducible exact utils_zzSplit.mono _ _ _)
      | (with_reducible exact LeO.refl _)
      | (with_reducible exact LeO.none _)
      | (with_reducible refine LeO.ite ?_ ?_)
      | (with_reducible refine LeO.bind ?_ (fun _ => ?_))
      | exact ih0 _ _ _ _
      | exact ih1 _ _ _
      | exact ih2 _ _ _ _
      | exact utils_zzSplit.mono _ _ _
      | exact LeO.none _
      | refine LeO.ite ?_ ?_
      | refine LeO.bind ?_ (fun _ => ?_)
theorem utils_PathSplitter.mono : ∀ a0 a1 k, LeO (utils_PathSplitter.f k a0 a1) (utils_PathSplitter.f (k + 1) a0 a1) := by
  intro a0 a1 k
  obtain ⟨ih0, ih1, ih2⟩ := utils_PathSplitter.mono_l k
  unfold utils_PathSplitter.f
  repeat' first
      | (with_reducible exact ih0 _ _ _ _)
      | (with_reducible exact ih1 _ _ _)
      | (with_reducible exact ih2 _ _ _ _)
      | (with_reducible exact utils_zzSplit.mono _ _ _)
      | (with_reducible exact LeO.refl _)
      | (with_reducible exact LeO.none _)
      | (with_reducible refine LeO.ite ?_ ?_)
      | (with_reducible refine LeO.bind ?_ (fun _ => ?_))
      | exact ih0 _ _ _ _
      | exact ih1 _ _ _
      | exact ih2 _ _ _ _
      | exact utils_zzSplit.mono _ _ _
      | exact LeO.none _
      | refine LeO.ite ?_ ?_
      | refine LeO.bind ?_ (fun _ => ?_)
def utils_PathSplitter.T11 : Bool × List (List Nat × List Nat) := (true, [([], []), ([], []), ([], []), ([], []), ([2, 3], [2, 3]), ([4], [4]), ([5], [5]), ([], []), ([6, 7], [6, 7]), ([], []), ([], []), ([9, 10], [9, 10]), ([11], [11]), ([8, 12], [8, 12]), ([0, 1, 0, 1, 2, 3, 4, 5, 6, 7, 8, 9, 10, 11, 12, 13], [0, 1]), ([14, 13, 6, 0, 1, 2, 3, 4, 5, 6, 7, 8, 9, 10, 11, 12, 13], [13, 14])])
def utils_PathSplitter.B11 : List Nat := [0, 0, 0, 0, 12, 28, 60, 0, 252, 0, 0, 1536, 3584, 8188, 16383, 32767]
theorem utils_PathSplitter.tab11 : rtab .any (opsOf Try.f29 11) = utils_PathSplitter.T11 := by kernel_rfl
theorem utils_PathSplitter.bits11 : waitsOk utils_PathSplitter.T11.2 utils_PathSplitter.B11 = true := by kernel_rfl
set_option maxHeartbeats 8000000 in
set_option maxRecDepth 100000 in
theorem utils_PathSplitter.calls (k : Nat) (a0 : ByteArray) (a1 : ByteArray) (r : List ByteArray) (w : World) (h : utils_PathSplitter.f k a0 a1 = some r) :
    Calls Try.prog 29 #[.string a0, .string a1] w fun e w' => ∃ v0_ : Value, e = .returned (v0_) ∧ Kd.R Kd.string 9 w' w.heap.size (fun _ => True) v0_ r ∧ Below w.heap.size w w' := by
  have HB := Aside0.mk (Below.refl w.heap.size w)
  have H : ((utils_zzSplit.f k a0 a1).bind fun t113 => (if (t113.length : Int) > 1 then (if 0 < (t113.length : Int) then (utils_PathSplitter.j0 k a1 t113 ([] : List ByteArray) ((rdOf ByteArray.empty t113 0).toList == ([] : List UInt8))) else (none)) else (utils_PathSplitter.j0 k a1 t113 ([] : List ByteArray) false))) = some r := h
  clear h
  replace H := Option.bind_eq_some_iff.mp H
  obtain ⟨t113, A30, H⟩ := H
  replace H : (if (t113.length : Int) > 1 then (if 0 < (t113.length : Int) then (utils_PathSplitter.j0 k a1 t113 ([] : List ByteArray) ((rdOf ByteArray.empty t113 0).toList == ([] : List UInt8))) else (none)) else (utils_PathSplitter.j0 k a1 t113 ([] : List ByteArray) false)) = some r := H
  have A3 := Aside0.mk A30
  clear A30
  have HC4 := Aside0.mk H
  clear H
  go_enter Try.func29, Try.ntmps29
  go_upto_region 3 with (first | ((with_reducible refine gate_callee (f := 41) rfl ?_); refine goesL_ (some 11) rfl rfl Try.func41 (by kernel_rfl) rfl #[.string a0, .string a1] rfl (by (try simp only [List.map_toArray, List.map_cons, List.map_nil]); first | done | rfl | (simp only [List.length_drop, List.length_take]; rfl)) ?_; (with_reducible refine (utils_zzSplit.calls k a0 a1 t113 _ A3.out).mono ?_); rintro e w5 ⟨v114, rfl, ho0, hb⟩; refine ⟨_, rfl, ?_⟩; have n0_ := Aside0.mk (Kd.R_lower ho0 (below_size (by repeat (first | (with_reducible first | exact HB.out | apply below_alloc | apply pw_below_drewN | apply below_drew1) | exact HB.out)))); have n1_ := Aside0.mk (below_step (by repeat (first | (with_reducible first | exact HB.out | apply below_alloc | apply pw_below_drewN | apply below_drew1) | exact HB.out)) hb); clear HB; have HO115 := n0_; have HB := n1_; clear n0_ n1_; (try clear hb); (try clear hb2); (try clear hk); (try clear hi); (try clear ho0)))
  (try simp only [Act.put, List.setIfInBounds_toArray, List.set_cons_zero, List.set_cons_succ])
  go_cut [20] (fun v20 wc => ∃ (kq : Nat) (x20_3 : Bool), v20 = .bool x20_3 ∧ Aside0 (utils_PathSplitter.j0 kq a1 t113 ([] : List ByteArray) x20_3 = some r) ∧ Aside0 (kq ≤ k) ∧ Aside0 (Kd.Q Kd.string 9 wc w.heap.size (fun k_ => some k_ ≠ ((.slice none 0 0) : Value).ownBlock) v114 t113) ∧ Aside0 (Kd.R Kd.string 9 wc w.heap.size (fun k_ => some k_ ≠ (v114 : Value).ownBlock) (.slice none 0 0) ([] : List ByteArray)) ∧ Aside0 (Below w.heap.size w wc))
  case first =>
    have H := HC4.out
    clear HC4
    by_cases c6 : (t113.length : Int) > 1
    · rw [if_pos c6] at H
      have c6b0 : decide (1 < (t113.length : Int)) = true := decide_eq_true c6
      have c6b1 : decide (1 < t113.length) = true := decide_eq_true (by omega)
      clear c6
      (first | rw [c6b0] | (simp only [i64_w, i32_w]; rw [c6b0]) | skip)
      by_cases c7 : 0 < (t113.length : Int)
      · rw [if_pos c7] at H
        have c7b0 : decide (0 < (t113.length : Int)) = true := decide_eq_true c7
        have c7b1 : decide (0 < t113.length) = true := decide_eq_true (by omega)
        clear c7
        have H' := Aside0.mk H
        clear H
        obtain ⟨Ao8, co8, eo8⟩ := Kd.R_slice HO115.out
        subst eo8
        have p116 : 0 ≤ (0 : Int) := (by omega)
        have q116 : 0 < (t113.length : Int) := of_decide_eq_true (by first | (with_reducible assumption) | assumption)
        obtain ⟨ad116, e116, hx116_0⟩ := Kd.at_string (Kd.R_reads' HO115.out).2.2 0 p116 q116
        cases e116
        have qi116 : (0 < t113.length) = True := eq_true (by omega)
        (try rw [show ((0 : Int)).toNat = 0 from rfl] at hx116_0)
        (try rw [Addr.add_zero'] at hx116_0)
        replace p116 := eq_true p116
        replace q116 := eq_true q116
        go_wp2
        go_meet
        case rel => exact ⟨_, (((rdOf ByteArray.empty t113 0).toList == ([] : List UInt8))), (by first | rfl | (simp; done) | (simp [*]; done)), H', ⟨by first | omega | exact Nat.le_refl _⟩, ⟨Kd.Q_of_R (by (with_reducible repeat (first | apply Kd.R_alloc | apply Kd.R_drewN | apply Kd.R_drew)); exact Kd.R_mono HO115.out (fun _ hk => (by simp [Value.ownBlock])))⟩, ⟨by first | exact Kd.R_nil _ _ _ _ _ | exact Kd.N_nil _ _ _ _ _ | exact Kd.V_nil _ _ _ _ _ | exact Kd.Q_nil _ _ _ _ _ | exact Kd.S_nil _ _ _ _ _⟩, ⟨by repeat (first | (with_reducible first | exact HB.out | apply below_alloc | apply pw_below_drewN | apply below_drew1) | exact HB.out)⟩⟩
      · rw [if_neg c7] at H
        exact absurd H (by simp)
    · rw [if_neg c6] at H
      have c6b0 : decide (1 < (t113.length : Int)) = false := decide_eq_false c6
      have c6b1 : decide (1 < t113.length) = false := decide_eq_false (by omega)
      clear c6
      (first | rw [c6b0] | (simp only [i64_w, i32_w]; rw [c6b0]) | skip)
      have H' := Aside0.mk H
      clear H
      obtain ⟨Ao9, co9, eo9⟩ := Kd.R_slice HO115.out
      subst eo9
      go_wp2
      go_meet
      case rel => exact ⟨_, (false), (by first | rfl | (simp; done) | (simp [*]; done)), H', ⟨by first | omega | exact Nat.le_refl _⟩, ⟨Kd.Q_of_R (by (with_reducible repeat (first | apply Kd.R_alloc | apply Kd.R_drewN | apply Kd.R_drew)); exact Kd.R_mono HO115.out (fun _ hk => (by simp [Value.ownBlock])))⟩, ⟨by first | exact Kd.R_nil _ _ _ _ _ | exact Kd.N_nil _ _ _ _ _ | exact Kd.V_nil _ _ _ _ _ | exact Kd.Q_nil _ _ _ _ _ | exact Kd.S_nil _ _ _ _ _⟩, ⟨by repeat (first | (with_reducible first | exact HB.out | apply below_alloc | apply pw_below_drewN | apply below_drew1) | exact HB.out)⟩⟩
  case rest =>
    clear HC4
    try clear p1
    try clear q1
    try clear hx1
    try clear qi1
    try clear c2
    try clear p2
    try clear c4
    try clear c6
    try clear c6b0
    try clear c6b1
    try clear c7
    try clear c7b0
    try clear c7b1
    try clear hx116_0
    try clear p116
    try clear q116
    obtain ⟨kq, x20_3, rfl, HA, HJ3, HO_5, HO_6, HB⟩ := hcut
    cases kq with
    | zero => exact absurd HA.out (by simp [utils_PathSplitter.j0])
    | succ kj3 =>
      have H := HA.out
      clear HA
      simp only [utils_PathSplitter.j0] at H
      have HC10 := Aside0.mk H
      clear H
      go_upto_if 20 with (fail)
      go_cut [5] (fun v5 wc => ∃ (kq : Nat) (x5_9 : List ByteArray), Aside0 (utils_PathSplitter.j1 kq a1 x5_9 ([] : List ByteArray) = some r) ∧ Aside0 (kq ≤ kj3) ∧ Aside0 (Kd.Q Kd.string 9 wc w.heap.size (fun k_ => some k_ ≠ ((.slice none 0 0) : Value).ownBlock) v5 x5_9) ∧ Aside0 (Kd.R Kd.string 9 wc w.heap.size (fun k_ => some k_ ≠ (v5 : Value).ownBlock) (.slice none 0 0) ([] : List ByteArray)) ∧ Aside0 (Below w.heap.size w wc))
      case first =>
        have H := HC10.out
        clear HC10
        by_cases c11 : x20_3 = true
        · subst c11
          have H1 : (if 1 ≤ (t113.length : Int) then (utils_PathSplitter.j1 kj3 a1 (t113.drop (1 : Int).toNat) ([] : List ByteArray)) else (none)) = some r := by rw [if_pos rfl] at H; exact H
          clear H
          have H := H1
          clear H1
          by_cases c12 : 1 ≤ (t113.length : Int)
          · rw [if_pos c12] at H
            have c12b0 := eq_true c12
            have c12b1 : decide (1 ≤ (t113.length : Int)) = true := decide_eq_true c12
            clear c12
            obtain ⟨y117, hy117⟩ : ∃ y_ : List ByteArray, y_ = (t113.drop (1 : Int).toNat) := ⟨_, rfl⟩
            replace H : (utils_PathSplitter.j1 kj3 a1 y117 ([] : List ByteArray)) = some r := by first | (rw [hy117]; with_reducible exact H) | (have H2_ := (Option.bind_some _ _).symm.trans H; rw [hy117]; with_reducible exact H2_) | (have H2_ := (Option.bind_some _ _).symm.trans H; with_reducible exact H2_) | with_reducible exact H | (rw [hy117]; exact H) | exact H
            have Ny117 := Aside0.mk hy117
            clear hy117
            have H' := Aside0.mk H
            clear H
            obtain ⟨Ao13, co13, eo13, _⟩ := Kd.Q_slice HO_5.out
            subst eo13
            have q14 : (1 : Int) ≤ ((t113.length : Int) : Int) := of_decide_eq_true (by first | (with_reducible assumption) | assumption)
            obtain ⟨i014, hi014, _, hsz14, _⟩ := info_parts info9
            have hcut14 := cut_from (P := Try.prog) 27 9 .i64 Try.underlying27 hi014 1 hsz14 Ao13 t113.length co13 1 (by omega) q14
            have hr14 := Kd.Q_drop (k := (1 : Int).toNat) HO_5.out (by omega)
            obtain ⟨A14, hA14⟩ : ∃ A1, A1 = (if co13 = (1 : Int).toNat then Ao13 else (Ao13 : Option Addr).map (·.add ((1 : Int).toNat * 1))) := ⟨_, rfl⟩
            obtain ⟨c14, hc14⟩ : ∃ c1, c1 = co13 - (1 : Int).toNat := ⟨_, rfl⟩
            have hy14 : y117.length = t113.length - (1 : Int).toNat := (by rw [Ny117.out, List.length_drop])
            rw [← Ny117.out] at hr14
            rw [← hy14, ← hA14, ← hc14] at hcut14
            replace hr14 : Kd.Q Kd.string 9 wc w.heap.size (fun k_ => some k_ ≠ (.slice none 0 0 : Value).ownBlock) (.slice A14 y117.length c14) y117 := (by rw [hA14, hc14, hy14]; exact hr14)
            have HE14 : Aside0 ((Value.slice A14 y117.length c14).ownBlock = (.slice Ao13 t113.length co13 : Value).ownBlock) := ⟨by rw [hA14]; split <;> (cases (Ao13 : Option Addr) <;> rfl)⟩
            clear hy14 hi014 hsz14 HO_5 hA14 hc14
            have HO119 := Aside0.mk hr14
            clear hr14
            replace q14 := eq_true q14
            have n_ := Aside0.mk (Kd.R_mono (ok' := fun k_ => some k_ ≠ (.slice A14 y117.length c14 : Value).ownBlock) HO_6.out (fun k_ hk => (by rw [HE14.out]; exact hk)))
            clear HO_6
            have HO_6 := n_
            clear n_
            go_wp2
            go_meet
            case rel => exact ⟨_, (y117), H', ⟨by have := HJ3.out; first | omega | exact Nat.le_refl _⟩, ⟨by (with_reducible repeat (first | apply Kd.Q_alloc | apply Kd.Q_drewN | apply Kd.Q_drew)); exact HO119.out⟩, ⟨by (with_reducible repeat (first | apply Kd.R_alloc | apply Kd.R_drewN | apply Kd.R_drew)); exact HO_6.out⟩, ⟨by repeat (first | (with_reducible first | exact HB.out | apply below_alloc | apply pw_below_drewN | apply below_drew1) | exact HB.out)⟩⟩
          · rw [if_neg c12] at H
            exact absurd H (by simp)
        · replace c11 := Bool.eq_false_iff.mpr c11
          subst c11
          have H1 : (utils_PathSplitter.j1 kj3 a1 t113 ([] : List ByteArray)) = some r := by rw [if_neg (show ¬ (false = true) by decide)] at H; exact H
          clear H
          have H := H1
          clear H1
          have H' := Aside0.mk H
          clear H
          go_wp2
          go_meet
          case rel => exact ⟨_, (t113), H', ⟨by have := HJ3.out; first | omega | exact Nat.le_refl _⟩, ⟨by (with_reducible repeat (first | apply Kd.Q_alloc | apply Kd.Q_drewN | apply Kd.Q_drew)); exact HO_5.out⟩, ⟨by (with_reducible repeat (first | apply Kd.R_alloc | apply Kd.R_drewN | apply Kd.R_drew)); exact HO_6.out⟩, ⟨by repeat (first | (with_reducible first | exact HB.out | apply below_alloc | apply pw_below_drewN | apply below_drew1) | exact HB.out)⟩⟩
      case rest =>
        clear HC10
        try clear c1
        try clear p1
        try clear q1
        try clear hx1
        try clear qi1
        try clear c2
        try clear p2
        try clear c4
        try clear c6
        try clear c6b0
        try clear c6b1
        try clear c7
        try clear c7b0
        try clear c7b1
        try clear c11
        try clear p11
        try clear q11
        try clear hx11
        try clear qi11
        try clear c12
        try clear c12b0
        try clear c12b1
        try clear c14
        try clear q14
        try clear hx116_0
        try clear p1
        try clear p116
        try clear p2
        try clear q1
        try clear q116
        try clear q14
        obtain ⟨kq, x5_9, HA, HJ9, HO_5, HO_6, HB⟩ := hcut
        cases kq with
        | zero => exact absurd HA.out (by simp [utils_PathSplitter.j1])
        | succ kj9 =>
          have H := HA.out
          clear HA
          simp only [utils_PathSplitter.j1] at H
          by_cases c15 : 0 < (x5_9.length : Int)
          · rw [if_pos c15] at H
            have c15b0 : decide (0 < (x5_9.length : Int)) = true := decide_eq_true c15
            have c15b1 : decide (0 < x5_9.length) = true := decide_eq_true (by omega)
            clear c15
            by_cases c16 : ([] : List ByteArray).length < 8796093022208
            · rw [if_pos c16] at H
              have LMc16 := Aside0.mk c16
              clear c16
              obtain ⟨y121, hy121⟩ : ∃ y_ : List ByteArray, y_ = (([] : List ByteArray) ++ [rdOf ByteArray.empty x5_9 0]) := ⟨_, rfl⟩
              replace H : (utils_PathSplitter.l0 kj9 a1 x5_9 y121 1) = some r := by first | (rw [hy121]; with_reducible exact H) | (have H2_ := (Option.bind_some _ _).symm.trans H; rw [hy121]; with_reducible exact H2_) | (have H2_ := (Option.bind_some _ _).symm.trans H; with_reducible exact H2_) | with_reducible exact H | (rw [hy121]; exact H) | exact H
              have Ny121 := Aside0.mk hy121
              clear hy121
              have H' := Aside0.mk H
              clear H
              obtain ⟨Ao17, co17, eo17, _⟩ := Kd.Q_slice HO_5.out
              subst eo17
              have p120 : 0 ≤ (0 : Int) := (by omega)
              have q120 : 0 < (x5_9.length : Int) := of_decide_eq_true (by first | (with_reducible assumption) | assumption)
              obtain ⟨ad120, e120, hx120_0⟩ := Kd.at_string (Kd.Q_reads' HO_5.out).2.2 0 p120 q120
              cases e120
              have qi120 : (0 < x5_9.length) = True := eq_true (by omega)
              (try rw [show ((0 : Int)).toNat = 0 from rfl] at hx120_0)
              (try rw [Addr.add_zero'] at hx120_0)
              replace p120 := eq_true p120
              replace q120 := eq_true q120
              go_wp2_with (first | ((with_reducible refine gate_builtin (b := .append) (xs := #[.tmp 23, .tmp 27]) rfl ?_); at_builtin; refine Kd.R_append Kd.string (w0 := w) w.heap.size rfl (.tmp 23) (.tmp 27) 27 9 (.string ⟨#[]⟩) 16 rfl Try.underlying27 info9 rfl (by decide) (by omega) (.slice none 0 0) ([] : List ByteArray) (rdOf ByteArray.empty x5_9 0) [.string (rdOf ByteArray.empty x5_9 0)] (fun k_ => some k_ ≠ (.slice (some ad120) x5_9.length co17 : Value).ownBlock) (fun _ => False) rfl rfl ?aP (fun _ hk => hk.elim) ?aF ?aO ?aB ?aS ?aL ?_; (case aP => exact rfl); (case aB => exact (by repeat (first | (with_reducible first | exact HB.out | apply below_alloc | apply pw_below_drewN | apply below_drew1) | exact HB.out))); (case aF => exact (fun k_ hk => Kd.fresh' (Kd.Q_lt (by (with_reducible repeat (first | apply Kd.Q_alloc | apply Kd.Q_drewN | apply Kd.Q_drew)); exact HO_5.out)) k_ hk)); (case aO => exact (by (with_reducible repeat (first | apply Kd.R_alloc | apply Kd.R_drewN | apply Kd.R_drew)); exact HO_6.out)); (case aS => exact (below_size (by repeat (first | (with_reducible first | exact HB.out | apply below_alloc | apply pw_below_drewN | apply below_drew1) | exact HB.out)))); (case aL => have := LMc16.out; omega); intro v122 w18 ho hb hg hat; rw [← Ny121.out] at ho; have n0_ := Aside0.mk (Kd.Q_after (ok := (fun _ => True)) (by (with_reducible repeat (first | apply Kd.Q_alloc | apply Kd.Q_drewN | apply Kd.Q_drew)); exact Kd.Q_mono HO_5.out (fun _ hk => ⟨trivial, hk⟩)) hg hat); have n1_ := Aside0.mk (hb); have n2_ := Aside0.mk (ho); clear HO_5; clear HB; clear HO_6; have HO_5 := n0_; have HB := n1_; have HO123 := n2_; clear n0_ n1_ n2_; clear ho hb hg hat))
              go_loopg [6, 7] kj9 (fun kq v6 v7 w' => ∃ (x5_3 : List ByteArray) (x6_3 : List ByteArray) (x7_3 : Int), v7 = .int .i64 x7_3 ∧ Aside0 (utils_PathSplitter.l0 kq a1 x5_3 x6_3 x7_3 = some r) ∧ Aside0 (kq ≤ kj9) ∧ Aside0 (Kd.Q Kd.string 9 w' w.heap.size (fun k_ => some k_ ≠ (v6 : Value).ownBlock) (.slice (some ad120) x5_9.length co17) x5_3) ∧ Aside0 (Kd.R Kd.string 9 w' w.heap.size (fun k_ => some k_ ≠ ((.slice (some ad120) x5_9.length co17) : Value).ownBlock) v6 x6_3) ∧ Aside0 (Below w.heap.size w w'))
              case atStart => exact ⟨(x5_9), (y121), (1), (by first | rfl | (simp; done) | (simp [*]; done)), H', ⟨Nat.le_refl _⟩, ⟨by (with_reducible repeat (first | apply Kd.Q_alloc | apply Kd.Q_drewN | apply Kd.Q_drew)); exact Kd.Q_mono HO_5.out (fun _ hk => hk.2)⟩, ⟨by (with_reducible repeat (first | apply Kd.R_alloc | apply Kd.R_drewN | apply Kd.R_drew)); exact HO123.out⟩, ⟨by repeat (first | (with_reducible first | exact HB.out | apply below_alloc | apply pw_below_drewN | apply below_drew1) | exact HB.out)⟩⟩
              case round =>
                clear H'
                try clear c1
                try clear p1
                try clear q1
                try clear hx1
                try clear qi1
                try clear c2
                try clear p2
                try clear c4
                try clear c6
                try clear c6b0
                try clear c6b1
                try clear c7
                try clear c7b0
                try clear c7b1
                try clear c11
                try clear p11
                try clear q11
                try clear hx11
                try clear qi11
                try clear c12
                try clear c12b0
                try clear c12b1
                try clear p12
                try clear q12
                try clear hx12
                try clear qi12
                try clear c14
                try clear q14
                try clear c15
                try clear c15b0
                try clear c15b1
                try clear c16
                try clear hx116_0
                try clear hx120_0
                try clear p1
                try clear p11
                try clear p116
                try clear p120
                try clear p2
                try clear q1
                try clear q11
                try clear q116
                try clear q120
                try clear q14
                obtain ⟨x5_3, x6_3, x7_3, rfl, HA, HK3, HO_5, HO_6, HB⟩ := hrel
                have hl5_3 := (Kd.Q_reads' HO_5.out).1
                rw [hl5_3] at HO_5
                (try simp only [hl5_3])
                (try simp only [hl5_3] at HO_6)
                cases gk with
                | zero => exact absurd HA.out (by simp [utils_PathSplitter.l0])
                | succ k3 =>
                  have H := HA.out
                  clear HA
                  simp only [utils_PathSplitter.l0] at H
                  by_cases c19 : x7_3 < (x5_3.length : Int)
                  · rw [if_pos c19] at H
                    have c19b0 : decide (x7_3 < (x5_3.length : Int)) = true := decide_eq_true c19
                    clear c19
                    obtain ⟨ji20, hji20⟩ : ∃ j_ : Int, (wrap64 ((x6_3.length : Int) - 1)) = j_ := ⟨_, rfl⟩
                    replace H : (if 0 ≤ (ji20) then (if (ji20) < (x6_3.length : Int) then ((strings_HasSuffix.f (rdOf ByteArray.empty x6_3 (ji20)) (⟨#[92]⟩ : ByteArray)).bind fun t125 => (if t125 = true then ((strings_TrimSuffix.f (rdOf ByteArray.empty x6_3 (ji20)) (⟨#[92]⟩ : ByteArray)).bind fun t127 => (if t127.size + a1.size ≤ 9223372036854775807 then (if 0 ≤ x7_3 then (if (t127 ++ a1).size + (rdOf ByteArray.empty x5_3 x7_3).size ≤ 9223372036854775807 then (utils_PathSplitter.l0 k3 a1 x5_3 (x6_3.set ((ji20) : Int).toNat ((t127 ++ a1) ++ (rdOf ByteArray.empty x5_3 x7_3))) (wrap64 (x7_3 + 1))) else (none)) else (none)) else (none))) else (if 0 ≤ x7_3 then (if x6_3.length < 8796093022208 then (utils_PathSplitter.l0 k3 a1 x5_3 (x6_3 ++ [rdOf ByteArray.empty x5_3 x7_3]) (wrap64 (x7_3 + 1))) else (none)) else (none)))) else (none)) else (none)) = some r := by first | (rw [hji20] at H; exact H) | (simp only [hji20] at H ⊢; exact H)
                    have hji20w : (IntKind.i64.wrap ((x6_3.length : Int) - 1)) = ji20 := (i64_w _).trans hji20
                    by_cases c21 : 0 ≤ (ji20)
                    · rw [if_pos c21] at H
                      have c21b0 : decide (0 ≤ (ji20)) = true := decide_eq_true c21
                      clear c21
                      by_cases c22 : (ji20) < (x6_3.length : Int)
                      · rw [if_pos c22] at H
                        have c22b0 : decide ((ji20) < (x6_3.length : Int)) = true := decide_eq_true c22
                        clear c22
                        replace H := Option.bind_eq_some_iff.mp H
                        obtain ⟨t125, A230, H⟩ := H
                        replace H : (if t125 = true then ((strings_TrimSuffix.f (rdOf ByteArray.empty x6_3 (ji20)) (⟨#[92]⟩ : ByteArray)).bind fun t127 => (if t127.size + a1.size ≤ 9223372036854775807 then (if 0 ≤ x7_3 then (if (t127 ++ a1).size + (rdOf ByteArray.empty x5_3 x7_3).size ≤ 9223372036854775807 then (utils_PathSplitter.l0 k3 a1 x5_3 (x6_3.set ((ji20) : Int).toNat ((t127 ++ a1) ++ (rdOf ByteArray.empty x5_3 x7_3))) (wrap64 (x7_3 + 1))) else (none)) else (none)) else (none))) else (if 0 ≤ x7_3 then (if x6_3.length < 8796093022208 then (utils_PathSplitter.l0 k3 a1 x5_3 (x6_3 ++ [rdOf ByteArray.empty x5_3 x7_3]) (wrap64 (x7_3 + 1))) else (none)) else (none))) = some r := H
                        have A23 := Aside0.mk A230
                        clear A230
                        by_cases c24 : t125 = true
                        · subst c24
                          have H1 : ((strings_TrimSuffix.f (rdOf ByteArray.empty x6_3 (ji20)) (⟨#[92]⟩ : ByteArray)).bind fun t127 => (if t127.size + a1.size ≤ 9223372036854775807 then (if 0 ≤ x7_3 then (if (t127 ++ a1).size + (rdOf ByteArray.empty x5_3 x7_3).size ≤ 9223372036854775807 then (utils_PathSplitter.l0 k3 a1 x5_3 (x6_3.set ((ji20) : Int).toNat ((t127 ++ a1) ++ (rdOf ByteArray.empty x5_3 x7_3))) (wrap64 (x7_3 + 1))) else (none)) else (none)) else (none))) = some r := by rw [if_pos rfl] at H; exact H
                          clear H
                          have H := H1
                          clear H1
                          replace H := Option.bind_eq_some_iff.mp H
                          obtain ⟨t127, A250, H⟩ := H
                          replace H : (if t127.size + a1.size ≤ 9223372036854775807 then (if 0 ≤ x7_3 then (if (t127 ++ a1).size + (rdOf ByteArray.empty x5_3 x7_3).size ≤ 9223372036854775807 then (utils_PathSplitter.l0 k3 a1 x5_3 (x6_3.set ((ji20) : Int).toNat ((t127 ++ a1) ++ (rdOf ByteArray.empty x5_3 x7_3))) (wrap64 (x7_3 + 1))) else (none)) else (none)) else (none)) = some r := H
                          have A25 := Aside0.mk A250
                          clear A250
                          by_cases c26 : t127.size + a1.size ≤ 9223372036854775807
                          · rw [if_pos c26] at H
                            have c26b0 := eq_true c26
                            have c26b1 : decide (t127.size + a1.size ≤ 9223372036854775807) = true := decide_eq_true c26
                            try have c26b2 : (9223372036854775807 < t127.size + a1.size) = False := eq_false (Nat.not_lt.2 c26)
                            by_cases c27 : 0 ≤ x7_3
                            · rw [if_pos c27] at H
                              have c27b0 : decide (0 ≤ x7_3) = true := decide_eq_true c27
                              clear c27
                              by_cases c28 : (t127 ++ a1).size + (rdOf ByteArray.empty x5_3 x7_3).size ≤ 9223372036854775807
                              · rw [if_pos c28] at H
                                have c28b0 := eq_true c28
                                have c28b1 : decide ((t127 ++ a1).size + (rdOf ByteArray.empty x5_3 x7_3).size ≤ 9223372036854775807) = true := decide_eq_true c28
                                try have c28b2 : (9223372036854775807 < (t127 ++ a1).size + (rdOf ByteArray.empty x5_3 x7_3).size) = False := eq_false (Nat.not_lt.2 c28)
                                try (have c28b3 := c28b2; rw [ByteArray.size_append] at c28b3)
                                obtain ⟨y129, hy129⟩ : ∃ y_ : List ByteArray, y_ = (x6_3.set ((ji20) : Int).toNat ((t127 ++ a1) ++ (rdOf ByteArray.empty x5_3 x7_3))) := ⟨_, rfl⟩
                                replace H : (utils_PathSplitter.l0 k3 a1 x5_3 y129 (wrap64 (x7_3 + 1))) = some r := by first | (rw [hy129]; with_reducible exact H) | (have H2_ := (Option.bind_some _ _).symm.trans H; rw [hy129]; with_reducible exact H2_) | (have H2_ := (Option.bind_some _ _).symm.trans H; with_reducible exact H2_) | with_reducible exact H | (rw [hy129]; exact H) | exact H
                                have Ny129 := Aside0.mk hy129
                                clear hy129
                                have H' := Aside0.mk H
                                clear H
                                obtain ⟨Ao30, co30, eo30⟩ := Kd.R_slice HO_6.out
                                subst eo30
                                have p124 : 0 ≤ ((ji20) : Int) := of_decide_eq_true (by first | (with_reducible assumption) | assumption)
                                have q124 : (ji20) < (x6_3.length : Int) := of_decide_eq_true (by first | (with_reducible assumption) | assumption)
                                obtain ⟨ad124, e124, hx124_0⟩ := Kd.at_string (Kd.R_reads' HO_6.out).2.2 (ji20) p124 q124
                                cases e124
                                replace p124 := eq_true p124
                                replace q124 := eq_true q124
                                try go_wp2_with (first | ((with_reducible refine gate_callee (f := 42) rfl ?_); refine goesL_ (some 42) rfl rfl Try.func42 (by kernel_rfl) rfl #[.string (rdOf ByteArray.empty x6_3 (ji20)), .string (⟨#[92]⟩ : ByteArray)] rfl (by (try simp only [List.map_toArray, List.map_cons, List.map_nil]); first | done | (simp only [hji20]; rfl) | rfl | (simp only [List.length_drop, List.length_take]; rfl)) ?_; (with_reducible refine (strings_HasSuffix.calls (rdOf ByteArray.empty x6_3 (ji20)) (⟨#[92]⟩ : ByteArray) true _ A23.out).mono ?_); rintro e w' ⟨rfl, ⟨nd, rfl⟩⟩; refine ⟨_, rfl, ?_⟩; (try (rw [drewN_self wr]; generalize hq_ : World.drewN wr _ = wr; have n0_ : Aside0 (Kd.Q Kd.string 9 wr w.heap.size (fun k_ => some k_ ≠ (.slice (some ad124) x6_3.length co30 : Value).ownBlock) (.slice (some ad120) x5_3.length co17) x5_3) := ⟨by rw [← hq_]; exact (by (with_reducible repeat (first | apply Kd.Q_alloc | apply Kd.Q_drewN | apply Kd.Q_drew)); exact HO_5.out)⟩; have n1_ : Aside0 (Kd.R Kd.string 9 wr w.heap.size (fun k_ => some k_ ≠ (.slice (some ad120) x5_3.length co17 : Value).ownBlock) (.slice (some ad124) x6_3.length co30) x6_3) := ⟨by rw [← hq_]; exact (by (with_reducible repeat (first | apply Kd.R_alloc | apply Kd.R_drewN | apply Kd.R_drew)); exact HO_6.out)⟩; have n2_ : Aside0 (Below w.heap.size w wr) := ⟨by rw [← hq_]; exact (by repeat (first | (with_reducible first | exact HB.out | apply below_alloc | apply pw_below_drewN | apply below_drew1) | exact HB.out))⟩; clear HO_5 HO_6 HB hq_; have HO_5 := n0_; have HO_6 := n1_; have HB := n2_; clear n0_ n1_ n2_))))
                                have n0_ := Aside0.mk (Kd.Q_drew HO_5.out)
                                have n1_ := Aside0.mk (Kd.R_drew HO_6.out)
                                have n2_ := Aside0.mk (below_drew1 HB.out)
                                clear HO_5
                                clear HO_6
                                clear HB
                                have HO_5 := n0_
                                have HO_6 := n1_
                                have HB := n2_
                                clear n0_ n1_ n2_
                                have p126 : 0 ≤ ((ji20) : Int) := of_decide_eq_true (by first | (with_reducible assumption) | assumption)
                                have q126 : (ji20) < (x6_3.length : Int) := of_decide_eq_true (by first | (with_reducible assumption) | assumption)
                                obtain ⟨ad126, e126, hx126_0⟩ := Kd.at_string (Kd.R_reads' HO_6.out).2.2 (ji20) p126 q126
                                obtain rfl : ad124 = ad126 := (by injection e126)
                                replace p126 := eq_true p126
                                replace q126 := eq_true q126
                                have p128 : 0 ≤ (x7_3 : Int) := of_decide_eq_true (by first | (with_reducible assumption) | assumption)
                                have q128 : x7_3 < (x5_3.length : Int) := of_decide_eq_true (by first | (with_reducible assumption) | assumption)
                                obtain ⟨ad128, e128, hx128_0⟩ := Kd.at_string (Kd.Q_reads' HO_5.out).2.2 x7_3 p128 q128
                                obtain rfl : ad120 = ad128 := (by injection e128)
                                replace p128 := eq_true p128
                                replace q128 := eq_true q128
                                refine start_ (n := 16) (S := fun w' => w'.cell? (ad124.add ((ji20)).toNat) = some (.string (rdOf ByteArray.empty x6_3 (ji20))) ∧ w'.cell? (ad120.add (x7_3).toNat) = some (.string (rdOf ByteArray.empty x5_3 x7_3))) (ds := [15]) #[false, false, false, false, false, false, false, false, false, false, false, false, false, false, false, false] (by kernel_rfl) rfl rfl ⟨hx126_0, hx128_0⟩ (fun hHeld => ?_); refine with_tabW utils_PathSplitter.tab11 utils_PathSplitter.bits11 (fun HT_ HW_ => ?_)
                                generalize wr.drew = w31 at HO_5 HO_6 HB hx126_0 hx128_0 hHeld ⊢
                                refine pure_ (i := 0) (N := some 43) (v := ?_) (a' := ?_) #[true, false, false, false, false, false, false, false, false, false, false, false, false, false, false, false] rfl rfl (any_of HT_.out (by kernel_rfl)) (fun _ _ _ h => h) (Or.inl ⟨by rfl, ?_⟩) ?_ ?_
                                rotate_left
                                · intro w'
                                  go_simp
                                  with_reducible rfl
                                rotate_left
                                · simp only [Act.put, List.setIfInBounds_toArray, List.set_cons_zero, List.set_cons_succ, i64_w, i32_w]
                                  rfl
                                refine pure_ (i := 1) (N := some 44) (v := ?_) (a' := ?_) #[true, true, false, false, false, false, false, false, false, false, false, false, false, false, false, false] rfl rfl (any_of HT_.out (by kernel_rfl)) (fun _ _ _ h => h) (Or.inl ⟨by rfl, ?_⟩) ?_ ?_
                                rotate_left
                                · intro w'
                                  go_simp
                                  with_reducible rfl
                                rotate_left
                                · simp only [Act.put, List.setIfInBounds_toArray, List.set_cons_zero, List.set_cons_succ, i64_w, i32_w]
                                  rfl
                                refine pure_ (i := 2) (N := some 45) (v := ?_) (a' := ?_) #[true, true, true, false, false, false, false, false, false, false, false, false, false, false, false, false] rfl rfl (any_of HT_.out (by kernel_rfl)) (fun _ _ _ h => h) (Or.inl ⟨by rfl, ?_⟩) ?_ ?_
                                rotate_left
                                · intro w'
                                  go_simp
                                  with_reducible rfl
                                rotate_left
                                · simp only [Act.put, List.setIfInBounds_toArray, List.set_cons_zero, List.set_cons_succ, i64_w, i32_w]
                                  rfl
                                refine pure_ (i := 3) (N := some 46) (v := ?_) (a' := ?_) #[true, true, true, true, false, false, false, false, false, false, false, false, false, false, false, false] rfl rfl (any_of HT_.out (by kernel_rfl)) (fun _ _ _ h => h) (Or.inl ⟨by rfl, ?_⟩) ?_ ?_
                                rotate_left
                                · intro w'
                                  go_simp
                                  with_reducible rfl
                                rotate_left
                                · simp only [Act.put, List.setIfInBounds_toArray, List.set_cons_zero, List.set_cons_succ, i64_w, i32_w]
                                  rfl
                                refine pure_ (i := 4) (N := some 47) (v := ?_) (a' := ?_) #[true, true, true, true, true, false, false, false, false, false, false, false, false, false, false, false] rfl rfl (any_of HT_.out (by kernel_rfl)) (fun _ _ _ h => h) (Or.inl ⟨by rfl, ?_⟩) ?_ ?_
                                rotate_left
                                · intro w'
                                  go_simp
                                  with_reducible rfl
                                rotate_left
                                · simp only [Act.put, List.setIfInBounds_toArray, List.set_cons_zero, List.set_cons_succ, i64_w, i32_w]
                                  rfl
                                refine pure_ (i := 7) (N := some 50) (v := ?_) (a' := ?_) #[true, true, true, true, true, false, false, true, false, false, false, false, false, false, false, false] rfl rfl (any_of HT_.out (by kernel_rfl)) (fun _ _ _ h => h) (Or.inl ⟨by rfl, ?_⟩) ?_ ?_
                                rotate_left
                                · intro w'
                                  go_simp
                                  with_reducible rfl
                                rotate_left
                                · simp only [Act.put, List.setIfInBounds_toArray, List.set_cons_zero, List.set_cons_succ, i64_w, i32_w]
                                  rfl
                                refine pure_ (i := 9) (N := some 52) (v := ?_) (a' := ?_) #[true, true, true, true, true, false, false, true, false, true, false, false, false, false, false, false] rfl rfl (any_of HT_.out (by kernel_rfl)) (fun _ _ _ h => h) (Or.inl ⟨by rfl, ?_⟩) ?_ ?_
                                rotate_left
                                · intro w'
                                  go_simp
                                  with_reducible rfl
                                rotate_left
                                · simp only [Act.put, List.setIfInBounds_toArray, List.set_cons_zero, List.set_cons_succ, i64_w, i32_w]
                                  rfl
                                refine pure_ (i := 10) (N := some 53) (v := ?_) (a' := ?_) #[true, true, true, true, true, false, false, true, false, true, true, false, false, false, false, false] rfl rfl (any_of HT_.out (by kernel_rfl)) (fun _ _ _ h => h) (Or.inl ⟨by rfl, ?_⟩) ?_ ?_
                                rotate_left
                                · intro w'
                                  go_simp
                                  with_reducible rfl
                                rotate_left
                                · simp only [Act.put, List.setIfInBounds_toArray, List.set_cons_zero, List.set_cons_succ, i64_w, i32_w]
                                  rfl
                                refine pure_ (i := 11) (N := some 54) (v := ?_) (a' := ?_) #[true, true, true, true, true, false, false, true, false, true, true, true, false, false, false, false] rfl rfl (any_of HT_.out (by kernel_rfl)) (fun _ _ _ h => h) (Or.inl ⟨by rfl, ?_⟩) ?_ ?_
                                rotate_left
                                · intro w'
                                  go_simp
                                  with_reducible rfl
                                rotate_left
                                · simp only [Act.put, List.setIfInBounds_toArray, List.set_cons_zero, List.set_cons_succ, i64_w, i32_w]
                                  rfl
                                refine take_ (i := 5) (N := some 48) (v := ?_) (a' := ?_) #[true, true, true, true, true, true, false, true, false, true, true, true, false, false, false, false] rfl rfl (take_ofW HT_.out HW_.out (by kernel_rfl)) (fun _ _ _ h => h) (Or.inl ⟨by rfl, ?_⟩) hHeld ?_ ?_
                                rotate_left
                                · rintro w' ⟨s0, s1⟩
                                  go_simp
                                  with_reducible rfl
                                rotate_left
                                · simp only [Act.put, List.setIfInBounds_toArray, List.set_cons_zero, List.set_cons_succ, i64_w, i32_w]
                                  rfl
                                refine take_ (i := 12) (N := some 55) (v := ?_) (a' := ?_) #[true, true, true, true, true, true, false, true, false, true, true, true, true, false, false, false] rfl rfl (take_ofW HT_.out HW_.out (by kernel_rfl)) (fun _ _ _ h => h) (Or.inl ⟨by rfl, ?_⟩) hHeld ?_ ?_
                                rotate_left
                                · rintro w' ⟨s0, s1⟩
                                  go_simp
                                  with_reducible rfl
                                rotate_left
                                · simp only [Act.put, List.setIfInBounds_toArray, List.set_cons_zero, List.set_cons_succ, i64_w, i32_w]
                                  rfl
                                refine one_ (i := 6) (N := some 49) #[true, true, true, true, true, true, true, true, false, true, true, true, true, false, false, false] rfl rfl (one_of HT_.out (by kernel_rfl)) (by decide) (fun K hK => ?_)
                                refine goes_ Try.func37 (by kernel_rfl) rfl #[.string (rdOf ByteArray.empty x6_3 (ji20)), .string (⟨#[92]⟩ : ByteArray)] (by rfl) rfl rfl (by (try simp only [List.map_toArray, List.map_cons, List.map_nil]); first | done | (simp only [hji20]; rfl) | rfl | (simp only [List.length_drop, List.length_take]; rfl)) ?_
                                with_reducible refine (strings_TrimSuffix.calls (rdOf ByteArray.empty x6_3 (ji20)) (⟨#[92]⟩ : ByteArray) t127 _ A25.out).mono ?_
                                rintro e w' ⟨rfl, ⟨nd, rfl⟩⟩
                                refine ⟨_, rfl, ?_⟩
                                have p29 : 0 ≤ ((ji20) : Int) := of_decide_eq_true (by first | (with_reducible assumption) | assumption)
                                have q29 : ((ji20) : Int) < ((x6_3.length : Int) : Int) := of_decide_eq_true (by first | (with_reducible assumption) | assumption)
                                obtain ⟨go29, co29, eo29, gb29, gl29, cl29, HG29⟩ := Kd.R_form HO_6.out (by omega)
                                (first | cases eo29 | (injection eo29 with ea_ en_ ec_; (first | subst ea_ | (injection ea_ with ea_; subst ea_)); subst ec_; clear en_))
                                have GB29 := Aside0.mk gb29
                                have GG29 := Aside0.mk HG29
                                clear gb29 gl29 HG29
                                (first | simp only [add_plain] at hx124_0 | skip)
                                (first | simp only [add_plain] at hx126_0 | skip)
                                obtain ⟨hx29_0, hf29_0⟩ := Kd.R_celln (⟨#[]⟩ : ByteArray) HO_6.out ((ji20) : Int) p29 q29
                                replace p29 := eq_true p29
                                replace q29 := eq_true q29
                                have HP32 := Kd.R_putn HO_6.out ((ji20) : Int) ((t127 ++ a1) ++ (rdOf ByteArray.empty x5_3 x7_3))
                                rw [← Ny129.out] at HP32
                                have HQ32 := Aside0.mk HP32
                                clear HP32
                                refine hK.out _ _ ⟨hHeld.1, hHeld.2⟩ (fun hHeld => ?_)
                                clear hK K
                                refine norm_ (a' := ?_) ?_ ?_
                                rotate_left
                                · show Act.put _ (some 49) _ = _
                                  simp only [Act.put, List.setIfInBounds_toArray, List.set_cons_zero, List.set_cons_succ, i64_w, i32_w]
                                  rfl
                                refine pure_ (i := 8) (N := some 51) (v := ?_) (a' := ?_) #[true, true, true, true, true, true, true, true, true, true, true, true, true, false, false, false] rfl rfl (any_of HT_.out (by kernel_rfl)) (fun _ _ _ h => h) (Or.inl ⟨by rfl, ?_⟩) ?_ ?_
                                rotate_left
                                · intro w'
                                  go_simp
                                  with_reducible rfl
                                rotate_left
                                · simp only [Act.put, List.setIfInBounds_toArray, List.set_cons_zero, List.set_cons_succ, i64_w, i32_w]
                                  rfl
                                refine pure_ (i := 13) (N := some 56) (v := ?_) (a' := ?_) #[true, true, true, true, true, true, true, true, true, true, true, true, true, true, false, false] rfl rfl (any_of HT_.out (by kernel_rfl)) (fun _ _ _ h => h) (Or.inl ⟨by rfl, ?_⟩) ?_ ?_
                                rotate_left
                                · intro w'
                                  go_simp
                                  with_reducible rfl
                                rotate_left
                                · simp only [Act.put, List.setIfInBounds_toArray, List.set_cons_zero, List.set_cons_succ, i64_w, i32_w]
                                  rfl
                                refine pure_ (i := 14) (N := some 57) (v := ?_) (a' := ?_) #[true, true, true, true, true, true, true, true, true, true, true, true, true, true, true, false] rfl rfl (any_of HT_.out (by kernel_rfl)) (fun _ _ _ h => h) (Or.inl ⟨by rfl, ?_⟩) ?_ ?_
                                rotate_left
                                · intro w'
                                  go_simp
                                  with_reducible rfl
                                rotate_left
                                · simp only [Act.put, List.setIfInBounds_toArray, List.set_cons_zero, List.set_cons_succ, i64_w, i32_w]
                                  rfl
                                refine last_ (i := 15) (N := none) #[true, true, true, true, true, true, true, true, true, true, true, true, true, true, true, true] rfl rfl (one_of HT_.out (by kernel_rfl)) (by decide) (fun K hK => ?_)
                                refine skip_ (w1 := ?_) (by rfl) rfl ?_ ?_
                                rotate_left
                                · go_simp
                                  rfl
                                refine hK.out _ _ ?_
                                clear hK K
                                refine done_ (done_of HT_.out (by kernel_rfl)) ?_
                                try go_wp2
                                (try simp only [← hl5_3])
                                go_roundg k3
                                case measure => have := HJ3.out; have := HJ9.out; have := HK3.out; omega
                                case rel => exact ⟨(x5_3), (y129), (wrap64 (x7_3 + 1)), (by first | rfl | (simp; done) | (simp [*]; done)), H', ⟨by have := HJ3.out; have := HJ9.out; have := HK3.out; omega⟩, ⟨by (try simp only [hl5_3]); (with_reducible repeat (first | apply Kd.Q_alloc | apply Kd.Q_drewN | apply Kd.Q_drew)); exact Kd.Q_mono (Kd.Q_far (p := ⟨go29, ((ji20) : Int).toNat, none⟩) (Kd.Q_mono HO_5.out (fun k_ hk => (⟨hk, fun e_ => hk (by rw [e_]; rfl)⟩ : _ ∧ k_ ≠ go29))) (fun _ hk => hk.2) (.string ((t127 ++ a1) ++ (rdOf ByteArray.empty x5_3 x7_3)))) (fun _ hk => hk.1)⟩, ⟨by (try simp only [hl5_3]); (with_reducible repeat (first | apply Kd.R_alloc | apply Kd.R_drewN | apply Kd.R_drew)); exact HQ32.out⟩, ⟨by repeat (first | (with_reducible first | exact HB.out | apply below_alloc | apply pw_below_drewN | apply below_drew1 | refine below_set ?_ GB29.out) | exact HB.out)⟩⟩
                              · rw [if_neg c28] at H
                                exact absurd H (by simp)
                            · rw [if_neg c27] at H
                              exact absurd H (by simp)
                          · rw [if_neg c26] at H
                            exact absurd H (by simp)
                        · replace c24 := Bool.eq_false_iff.mpr c24
                          subst c24
                          have H1 : (if 0 ≤ x7_3 then (if x6_3.length < 8796093022208 then (utils_PathSplitter.l0 k3 a1 x5_3 (x6_3 ++ [rdOf ByteArray.empty x5_3 x7_3]) (wrap64 (x7_3 + 1))) else (none)) else (none)) = some r := by rw [if_neg (show ¬ (false = true) by decide)] at H; exact H
                          clear H
                          have H := H1
                          clear H1
                          by_cases c33 : 0 ≤ x7_3
                          · rw [if_pos c33] at H
                            have c33b0 : decide (0 ≤ x7_3) = true := decide_eq_true c33
                            clear c33
                            by_cases c34 : x6_3.length < 8796093022208
                            · rw [if_pos c34] at H
                              have LMc34 := Aside0.mk c34
                              clear c34
                              obtain ⟨y131, hy131⟩ : ∃ y_ : List ByteArray, y_ = (x6_3 ++ [rdOf ByteArray.empty x5_3 x7_3]) := ⟨_, rfl⟩
                              replace H : (utils_PathSplitter.l0 k3 a1 x5_3 y131 (wrap64 (x7_3 + 1))) = some r := by first | (rw [hy131]; with_reducible exact H) | (have H2_ := (Option.bind_some _ _).symm.trans H; rw [hy131]; with_reducible exact H2_) | (have H2_ := (Option.bind_some _ _).symm.trans H; with_reducible exact H2_) | with_reducible exact H | (rw [hy131]; exact H) | exact H
                              have Ny131 := Aside0.mk hy131
                              clear hy131
                              have H' := Aside0.mk H
                              clear H
                              obtain ⟨Ao35, co35, eo35⟩ := Kd.R_slice HO_6.out
                              subst eo35
                              have p124 : 0 ≤ ((ji20) : Int) := of_decide_eq_true (by first | (with_reducible assumption) | assumption)
                              have q124 : (ji20) < (x6_3.length : Int) := of_decide_eq_true (by first | (with_reducible assumption) | assumption)
                              obtain ⟨ad124, e124, hx124_0⟩ := Kd.at_string (Kd.R_reads' HO_6.out).2.2 (ji20) p124 q124
                              cases e124
                              replace p124 := eq_true p124
                              replace q124 := eq_true q124
                              go_wp2_with (first | ((with_reducible refine gate_callee (f := 42) rfl ?_); refine goesL_ (some 42) rfl rfl Try.func42 (by kernel_rfl) rfl #[.string (rdOf ByteArray.empty x6_3 (ji20)), .string (⟨#[92]⟩ : ByteArray)] rfl (by (try simp only [List.map_toArray, List.map_cons, List.map_nil]); first | done | (simp only [hji20]; rfl) | rfl | (simp only [List.length_drop, List.length_take]; rfl)) ?_; (with_reducible refine (strings_HasSuffix.calls (rdOf ByteArray.empty x6_3 (ji20)) (⟨#[92]⟩ : ByteArray) false _ A23.out).mono ?_); rintro e w' ⟨rfl, ⟨nd, rfl⟩⟩; refine ⟨_, rfl, ?_⟩; have p130 : 0 ≤ (x7_3 : Int) := of_decide_eq_true (by first | (with_reducible assumption) | assumption); have q130 : x7_3 < (x5_3.length : Int) := of_decide_eq_true (by first | (with_reducible assumption) | assumption); obtain ⟨ad130, e130, hx130_0⟩ := Kd.at_string (Kd.Q_reads' HO_5.out).2.2 x7_3 p130 q130; obtain rfl : ad120 = ad130 := (by injection e130); replace p130 := eq_true p130; replace q130 := eq_true q130) | ((with_reducible refine gate_builtin (b := .append) (xs := #[.tmp 58, .tmp 63]) rfl ?_); at_builtin; refine Kd.R_append Kd.string (w0 := w) w.heap.size rfl (.tmp 58) (.tmp 63) 27 9 (.string ⟨#[]⟩) 16 rfl Try.underlying27 info9 rfl (by decide) (by omega) (.slice (some ad124) x6_3.length co35) x6_3 (rdOf ByteArray.empty x5_3 x7_3) [.string (rdOf ByteArray.empty x5_3 x7_3)] (fun k_ => some k_ ≠ (.slice (some ad120) x5_3.length co17 : Value).ownBlock) (fun _ => False) rfl rfl ?aP (fun _ hk => hk.elim) ?aF ?aO ?aB ?aS ?aL ?_; (case aP => exact rfl); (case aB => exact (by repeat (first | (with_reducible first | exact HB.out | apply below_alloc | apply pw_below_drewN | apply below_drew1) | exact HB.out))); (case aF => exact (fun k_ hk => Kd.fresh' (Kd.Q_lt (by (with_reducible repeat (first | apply Kd.Q_alloc | apply Kd.Q_drewN | apply Kd.Q_drew)); exact HO_5.out)) k_ hk)); (case aO => exact (by (with_reducible repeat (first | apply Kd.R_alloc | apply Kd.R_drewN | apply Kd.R_drew)); exact HO_6.out)); (case aS => exact (below_size (by repeat (first | (with_reducible first | exact HB.out | apply below_alloc | apply pw_below_drewN | apply below_drew1) | exact HB.out)))); (case aL => have := LMc34.out; omega); intro v132 w36 ho hb hg hat; rw [← Ny131.out] at ho; have n0_ := Aside0.mk (Kd.Q_after (ok := (fun _ => True)) (by (with_reducible repeat (first | apply Kd.Q_alloc | apply Kd.Q_drewN | apply Kd.Q_drew)); exact Kd.Q_mono HO_5.out (fun _ hk => ⟨trivial, hk⟩)) hg hat); have n1_ := Aside0.mk (hb); have n2_ := Aside0.mk (ho); clear HO_5; clear HB; clear HO_6; have HO_5 := n0_; have HB := n1_; have HO133 := n2_; clear n0_ n1_ n2_; clear ho hb hg hat))
                              (try simp only [← hl5_3])
                              go_roundg k3
                              case measure => have := HJ3.out; have := HJ9.out; have := HK3.out; omega
                              case rel => exact ⟨(x5_3), (y131), (wrap64 (x7_3 + 1)), (by first | rfl | (simp; done) | (simp [*]; done)), H', ⟨by have := HJ3.out; have := HJ9.out; have := HK3.out; omega⟩, ⟨by (try simp only [hl5_3]); (with_reducible repeat (first | apply Kd.Q_alloc | apply Kd.Q_drewN | apply Kd.Q_drew)); exact Kd.Q_mono HO_5.out (fun _ hk => hk.2)⟩, ⟨by (try simp only [hl5_3]); (with_reducible repeat (first | apply Kd.R_alloc | apply Kd.R_drewN | apply Kd.R_drew)); exact HO133.out⟩, ⟨by repeat (first | (with_reducible first | exact HB.out | apply below_alloc | apply pw_below_drewN | apply below_drew1) | exact HB.out)⟩⟩
                            · rw [if_neg c34] at H
                              exact absurd H (by simp)
                          · rw [if_neg c33] at H
                            exact absurd H (by simp)
                      · rw [if_neg c22] at H
                        exact absurd H (by simp)
                    · rw [if_neg c21] at H
                      exact absurd H (by simp)
                  · rw [if_neg c19] at H
                    have c19b0 : decide (x7_3 < (x5_3.length : Int)) = false := decide_eq_false c19
                    clear c19
                    obtain rfl := Option.some.inj H
                    go_wp2
                    go_ret
                    exact ⟨_, by first | rfl | (simp [errW_none, errW_some] <;> rfl) | (simp [*, errW_none, errW_some] <;> rfl), by (with_reducible repeat (first | apply Kd.R_alloc | apply Kd.R_drewN | apply Kd.R_drew)); exact Kd.R_mono HO_6.out (fun _ hk => trivial), by repeat (first | (with_reducible first | exact HB.out | apply below_alloc | apply pw_below_drewN | apply below_drew1) | exact HB.out)⟩
            · rw [if_neg c16] at H
              exact absurd H (by simp)
          · rw [if_neg c15] at H
            exact absurd H (by simp)

/-! ### impl_SplitPath: function 15 -/
def impl_SplitPath.f (k : Nat) (a0 : ByteArray) (a1 : ByteArray) : Option (List ByteArray) := if a1.toList = ([] : List UInt8) then ((utils_PathSplitter.f k a0 (⟨#[47]⟩ : ByteArray)).bind fun t134 => (some t134)) else ((utils_PathSplitter.f k a0 a1).bind fun t137 => (some t137))
theorem impl_SplitPath.mono : ∀ a0 a1 k, LeO (impl_SplitPath.f k a0 a1) (impl_SplitPath.f (k + 1) a0 a1) := by
  intro a0 a1 k
  unfold impl_SplitPath.f
  repeat' first
      | (with_reducible exact utils_PathSplitter.mono _ _ _)
      | (with_reducible exact LeO.refl _)
      | (with_reducible exact LeO.none _)
      | (with_reducible refine LeO.ite ?_ ?_)
      | (with_reducible refine LeO.bind ?_ (fun _ => ?_))
      | exact utils_PathSplitter.mono _ _ _
      | exact LeO.none _
      | refine LeO.ite ?_ ?_
      | refine LeO.bind ?_ (fun _ => ?_)
set_option maxHeartbeats 8000000 in
set_option maxRecDepth 100000 in
theorem impl_SplitPath.calls (k : Nat) (a0 : ByteArray) (a1 : ByteArray) (r : List ByteArray) (w : World) (h : impl_SplitPath.f k a0 a1 = some r) :
    Calls Try.prog 15 #[.string a0, .string a1] w fun e w' => ∃ v0_ : Value, e = .returned (v0_) ∧ Kd.R Kd.string 9 w' w.heap.size (fun _ => True) v0_ r ∧ Below w.heap.size w w' := by
  have HB := Aside0.mk (Below.refl w.heap.size w)
  have H : (if a1.toList = ([] : List UInt8) then ((utils_PathSplitter.f k a0 (⟨#[47]⟩ : ByteArray)).bind fun t134 => (some t134)) else ((utils_PathSplitter.f k a0 a1).bind fun t137 => (some t137))) = some r := h
  clear h
  by_cases c3 : a1.toList = ([] : List UInt8)
  · rw [if_pos c3] at H
    have c3b0 : (a1.toList == ([] : List UInt8)) = true := beq_iff_eq.mpr c3
    have c3b1 : (a1.toList != ([] : List UInt8)) = false := bne_eq_false_iff_eq.mpr c3
    clear c3
    replace H := Option.bind_eq_some_iff.mp H
    obtain ⟨t134, A40, H⟩ := H
    replace H : (some t134) = some r := H
    have A4 := Aside0.mk A40
    clear A40
    obtain rfl := Option.some.inj H
    go_enter Try.func15, Try.ntmps15
    go_wp2_with (first | ((with_reducible refine gate_callee (f := 29) rfl ?_); refine goesL_ (some 9) rfl rfl Try.func29 (by kernel_rfl) rfl #[.string a0, .string (⟨#[47]⟩ : ByteArray)] rfl (by (try simp only [List.map_toArray, List.map_cons, List.map_nil]); first | done | rfl | (simp only [List.length_drop, List.length_take]; rfl)) ?_; (with_reducible refine (utils_PathSplitter.calls k a0 (⟨#[47]⟩ : ByteArray) t134 _ A4.out).mono ?_); rintro e w5 ⟨v135, rfl, ho0, hb⟩; refine ⟨_, rfl, ?_⟩; have n0_ := Aside0.mk (Kd.R_lower ho0 (below_size (by repeat (first | (with_reducible first | exact HB.out | apply below_alloc | apply pw_below_drewN | apply below_drew1) | exact HB.out)))); have n1_ := Aside0.mk (below_step (by repeat (first | (with_reducible first | exact HB.out | apply below_alloc | apply pw_below_drewN | apply below_drew1) | exact HB.out)) hb); clear HB; have HO136 := n0_; have HB := n1_; clear n0_ n1_; (try clear hb); (try clear hb2); (try clear hk); (try clear hi); (try clear ho0)))
    go_ret
    exact ⟨_, by first | rfl | (simp [errW_none, errW_some] <;> rfl) | (simp [*, errW_none, errW_some] <;> rfl), by (with_reducible repeat (first | apply Kd.R_alloc | apply Kd.R_drewN | apply Kd.R_drew)); exact HO136.out, by repeat (first | (with_reducible first | exact HB.out | apply below_alloc | apply pw_below_drewN | apply below_drew1) | exact HB.out)⟩
  · rw [if_neg c3] at H
    have c3b0 : (a1.toList == ([] : List UInt8)) = false := beq_eq_false_iff_ne.mpr c3
    have c3b1 : (a1.toList != ([] : List UInt8)) = true := bne_iff_ne.mpr c3
    replace H := Option.bind_eq_some_iff.mp H
    obtain ⟨t137, A60, H⟩ := H
    replace H : (some t137) = some r := H
    have A6 := Aside0.mk A60
    clear A60
    obtain rfl := Option.some.inj H
    go_enter Try.func15, Try.ntmps15
    go_wp2_with (first | ((with_reducible refine gate_callee (f := 29) rfl ?_); refine goesL_ (some 9) rfl rfl Try.func29 (by kernel_rfl) rfl #[.string a0, .string a1] rfl (by (try simp only [List.map_toArray, List.map_cons, List.map_nil]); first | done | rfl | (simp only [List.length_drop, List.length_take]; rfl)) ?_; (with_reducible refine (utils_PathSplitter.calls k a0 a1 t137 _ A6.out).mono ?_); rintro e w7 ⟨v138, rfl, ho0, hb⟩; refine ⟨_, rfl, ?_⟩; have n0_ := Aside0.mk (Kd.R_lower ho0 (below_size (by repeat (first | (with_reducible first | exact HB.out | apply below_alloc | apply pw_below_drewN | apply below_drew1) | exact HB.out)))); have n1_ := Aside0.mk (below_step (by repeat (first | (with_reducible first | exact HB.out | apply below_alloc | apply pw_below_drewN | apply below_drew1) | exact HB.out)) hb); clear HB; have HO139 := n0_; have HB := n1_; clear n0_ n1_; (try clear hb); (try clear hb2); (try clear hk); (try clear hi); (try clear ho0)))
    go_ret
    exact ⟨_, by first | rfl | (simp [errW_none, errW_some] <;> rfl) | (simp [*, errW_none, errW_some] <;> rfl), by (with_reducible repeat (first | apply Kd.R_alloc | apply Kd.R_drewN | apply Kd.R_drew)); exact HO139.out, by repeat (first | (with_reducible first | exact HB.out | apply below_alloc | apply pw_below_drewN | apply below_drew1) | exact HB.out)⟩

end Go.Proofs.Ytdomnigegpigiab.PFnPathSplit

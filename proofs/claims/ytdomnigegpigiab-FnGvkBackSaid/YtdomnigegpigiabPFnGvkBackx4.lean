-- printed by a program of this session: the print, turned for a few more operations
import Derived.Test.YtdomnigegpigiabPFnGvkBackx0
import Derived.Test.YtdomnigegpigiabHJoinGvk
namespace Go.Proofs.Ytdomnigegpigiab.PFnGvkBack
open Go.RowKit Go.Proofs.YtdomnigegpigiabW.PrintWords Go.Proofs.YtdomnigegpigiabW.PrintLast Go.Proofs.YtdomnigegpigiabW.PrintMore
attribute [local go_sem] max2_int min2_int max_two min_two max_three min_three max_four min_four   -- for this text's walks alone
set_option linter.unusedVariables false
set_option linter.unusedSimpArgs false

/-! ### resid_zzIndex: function 53 -/
def resid_zzIndex.l0 : Nat → ByteArray → ByteArray → Int → Option (Int)
  | 0, _, _, _ => none
  | k + 1, x0, x1, x5 => if (wrap64 (x5 + (x1.size : Int))) ≤ (x0.size : Int) then (if 0 ≤ x5 then (if x5 ≤ (wrap64 (x5 + (x1.size : Int))) then (if (x0.extract (x5 : Int).toNat ((wrap64 (x5 + (x1.size : Int))) : Int).toNat).toList = x1.toList then (some x5) else (resid_zzIndex.l0 k x0 x1 (wrap64 (x5 + 1)))) else (none)) else (none)) else (some (-1))
def resid_zzIndex.f (k : Nat) (a0 : ByteArray) (a1 : ByteArray) : Option (Int) := resid_zzIndex.l0 k a0 a1 0
theorem resid_zzIndex.mono_l : ∀ k, (∀ y0 y1 y2, LeO (resid_zzIndex.l0 k y0 y1 y2) (resid_zzIndex.l0 (k + 1) y0 y1 y2))
  | 0 => fun _ _ _ r h => by simp [resid_zzIndex.l0] at h
  | k + 1 => by
    have ih0 := resid_zzIndex.mono_l k
    · intro y0 y1 y2
      unfold resid_zzIndex.l0
      repeat' first
      | (with_reducible exact ih0 _ _ _)
      | (with_reducible exact LeO.refl _)
      | (with_reducible exact LeO.none _)
      | (with_reducible refine LeO.ite ?_ ?_)
      | (with_reducible refine LeO.bind ?_ (fun _ => ?_))
      | exact ih0 _ _ _
      | exact LeO.none _
      | refine LeO.ite ?_ ?_
      | refine LeO.bind ?_ (fun _ => ?_)
theorem resid_zzIndex.mono : ∀ a0 a1 k, LeO (resid_zzIndex.f k a0 a1) (resid_zzIndex.f (k + 1) a0 a1) := by
  intro a0 a1 k
  have ih0 := resid_zzIndex.mono_l k
  unfold resid_zzIndex.f
  repeat' first
      | (with_reducible exact ih0 _ _ _)
      | (with_reducible exact LeO.refl _)
      | (with_reducible exact LeO.none _)
      | (with_reducible refine LeO.ite ?_ ?_)
      | (with_reducible refine LeO.bind ?_ (fun _ => ?_))
      | exact ih0 _ _ _
      | exact LeO.none _
      | refine LeO.ite ?_ ?_
      | refine LeO.bind ?_ (fun _ => ?_)
set_option maxHeartbeats 8000000 in
set_option maxRecDepth 100000 in
theorem resid_zzIndex.calls (k : Nat) (a0 : ByteArray) (a1 : ByteArray) (r : Int) (w : World) (h : resid_zzIndex.f k a0 a1 = some r) :
    Calls Try.prog 53 #[.string a0, .string a1] w fun e w' => e = .returned (.int .i64 r) ∧ Drawn0 w w' := by
  have H : (resid_zzIndex.l0 k a0 a1 0) = some r := h
  clear h
  have H' := Aside0.mk H
  clear H
  go_enter Try.func53, Try.ntmps53
  go_wp2
  go_loopg [5] k (fun kq v5 w' => ∃ (x5_1 : Int), v5 = .int .i64 x5_1 ∧ Aside0 (resid_zzIndex.l0 kq a0 a1 x5_1 = some r) ∧ Aside0 (kq ≤ k) ∧ Drawn0 w w')
  case atStart => exact ⟨(0), (by first | rfl | (simp; done) | (simp [*]; done)), H', ⟨Nat.le_refl _⟩, by repeat (first | exact Drawn0.refl _ | apply Drawn0.step)⟩
  case round =>
    clear H'
    try clear p2
    obtain ⟨x5_1, rfl, HA, HK1, ⟨m1, rfl⟩⟩ := hrel
    cases gk with
    | zero => exact absurd HA.out (by simp [resid_zzIndex.l0])
    | succ k1 =>
      have H := HA.out
      clear HA
      simp only [resid_zzIndex.l0] at H
      by_cases c3 : (wrap64 (x5_1 + (a1.size : Int))) ≤ (a0.size : Int)
      · rw [if_pos c3] at H
        have c3b0 : decide ((wrap64 (x5_1 + (a1.size : Int))) ≤ (a0.size : Int)) = true := decide_eq_true c3
        clear c3
        by_cases c4 : 0 ≤ x5_1
        · rw [if_pos c4] at H
          have c4b0 := eq_true c4
          have c4b1 : decide (0 ≤ x5_1) = true := decide_eq_true c4
          clear c4
          by_cases c5 : x5_1 ≤ (wrap64 (x5_1 + (a1.size : Int)))
          · rw [if_pos c5] at H
            have c5b0 := eq_true c5
            have c5b1 : decide (x5_1 ≤ (wrap64 (x5_1 + (a1.size : Int)))) = true := decide_eq_true c5
            have c6b0 := eq_true (of_decide_eq_true (by first | (with_reducible assumption) | assumption) : (wrap64 (x5_1 + (a1.size : Int))) ≤ (a0.size : Int))
            by_cases c7 : (a0.extract (x5_1 : Int).toNat ((wrap64 (x5_1 + (a1.size : Int))) : Int).toNat).toList = a1.toList
            · rw [if_pos c7] at H
              have c7b0 : ((a0.extract (x5_1 : Int).toNat ((wrap64 (x5_1 + (a1.size : Int))) : Int).toNat).toList == a1.toList) = true := beq_iff_eq.mpr c7
              have c7b1 : ((a0.extract (x5_1 : Int).toNat ((wrap64 (x5_1 + (a1.size : Int))) : Int).toNat).toList != a1.toList) = false := bne_eq_false_iff_eq.mpr c7
              clear c7
              obtain rfl := Option.some.inj H
              go_wp2
              go_ret
              exact ⟨by first | rfl | (simp; done) | (simp [*]; done), by repeat (first | exact Drawn0.refl _ | apply Drawn0.step)⟩
            · rw [if_neg c7] at H
              have c7b0 : ((a0.extract (x5_1 : Int).toNat ((wrap64 (x5_1 + (a1.size : Int))) : Int).toNat).toList == a1.toList) = false := beq_eq_false_iff_ne.mpr c7
              have c7b1 : ((a0.extract (x5_1 : Int).toNat ((wrap64 (x5_1 + (a1.size : Int))) : Int).toNat).toList != a1.toList) = true := bne_iff_ne.mpr c7
              have H' := Aside0.mk H
              clear H
              go_wp2
              go_roundg k1
              case measure => have := HK1.out; omega
              case rel => exact ⟨(wrap64 (x5_1 + 1)), (by first | rfl | (simp; done) | (simp [*]; done)), H', ⟨by have := HK1.out; omega⟩, by repeat (first | exact Drawn0.refl _ | apply Drawn0.step)⟩
          · rw [if_neg c5] at H
            exact absurd H (by simp)
        · rw [if_neg c4] at H
          exact absurd H (by simp)
      · rw [if_neg c3] at H
        have c3b0 : decide ((wrap64 (x5_1 + (a1.size : Int))) ≤ (a0.size : Int)) = false := decide_eq_false c3
        clear c3
        obtain rfl := Option.some.inj H
        go_wp2
        go_ret
        exact ⟨by first | rfl | (simp; done) | (simp [*]; done), by repeat (first | exact Drawn0.refl _ | apply Drawn0.step)⟩

/-! ### resid_zzSplit: function 43 -/
def resid_zzSplit.l0 : Nat → ByteArray → ByteArray → List ByteArray → Option (List ByteArray)
  | 0, _, _, _ => none
  | k + 1, x0, x1, x5 => (resid_zzIndex.f k x0 x1).bind fun t155 => (if t155 < 0 then (if x5.length < 8796093022208 then (some (x5 ++ [x0])) else (none)) else (if 0 ≤ t155 then (if t155 ≤ (x0.size : Int) then (if x5.length < 8796093022208 then (if 0 ≤ (wrap64 (t155 + (x1.size : Int))) then (if (wrap64 (t155 + (x1.size : Int))) ≤ (x0.size : Int) then (resid_zzSplit.l0 k (x0.extract ((wrap64 (t155 + (x1.size : Int))) : Int).toNat x0.size) x1 (x5 ++ [x0.extract 0 (t155 : Int).toNat])) else (none)) else (none)) else (none)) else (none)) else (none)))
def resid_zzSplit.f (k : Nat) (a0 : ByteArray) (a1 : ByteArray) : Option (List ByteArray) := resid_zzSplit.l0 k a0 a1 ([] : List ByteArray)
theorem resid_zzSplit.mono_l : ∀ k, (∀ y0 y1 y2, LeO (resid_zzSplit.l0 k y0 y1 y2) (resid_zzSplit.l0 (k + 1) y0 y1 y2))
  | 0 => fun _ _ _ r h => by simp [resid_zzSplit.l0] at h
  | k + 1 => by
    have ih0 := resid_zzSplit.mono_l k
    · intro y0 y1 y2
      unfold resid_zzSplit.l0
      repeat' first
      | (with_reducible exact ih0 _ _ _)
      | (with_reducible exact resid_zzIndex.mono _ _ _)
      | (with_reducible exact LeO.refl _)
      | (with_reducible exact LeO.none _)
      | (with_reducible refine LeO.ite ?_ ?_)
      | (with_reducible refine LeO.bind ?_ (fun _ => ?_))
      | exact ih0 _ _ _
      | exact resid_zzIndex.mono _ _ _
      | exact LeO.none _
      | refine LeO.ite ?_ ?_
      | refine LeO.bind ?_ (fun _ => ?_)
theorem resid_zzSplit.mono : ∀ a0 a1 k, LeO (resid_zzSplit.f k a0 a1) (resid_zzSplit.f (k + 1) a0 a1) := by
  intro a0 a1 k
  have ih0 := resid_zzSplit.mono_l k
  unfold resid_zzSplit.f
  repeat' first
      | (with_reducible exact ih0 _ _ _)
      | (with_reducible exact resid_zzIndex.mono _ _ _)
      | (with_reducible exact LeO.refl _)
      | (with_reducible exact LeO.none _)
      | (with_reducible refine LeO.ite ?_ ?_)
      | (with_reducible refine LeO.bind ?_ (fun _ => ?_))
      | exact ih0 _ _ _
      | exact resid_zzIndex.mono _ _ _
      | exact LeO.none _
      | refine LeO.ite ?_ ?_
      | refine LeO.bind ?_ (fun _ => ?_)
set_option maxHeartbeats 8000000 in
set_option maxRecDepth 100000 in
theorem resid_zzSplit.calls (k : Nat) (a0 : ByteArray) (a1 : ByteArray) (r : List ByteArray) (w : World) (h : resid_zzSplit.f k a0 a1 = some r) :
    Calls Try.prog 43 #[.string a0, .string a1] w fun e w' => ∃ v0_ : Value, e = .returned (v0_) ∧ Kd.R Kd.string 9 w' w.heap.size (fun _ => True) v0_ r ∧ Below w.heap.size w w' := by
  have HB := Aside0.mk (Below.refl w.heap.size w)
  have H : (resid_zzSplit.l0 k a0 a1 ([] : List ByteArray)) = some r := h
  clear h
  have H' := Aside0.mk H
  clear H
  go_enter Try.func43, Try.ntmps43
  go_wp2
  go_loopg [0, 5] k (fun kq v0 v5 w' => ∃ (x0_1 : ByteArray) (x5_1 : List ByteArray), v0 = .string x0_1 ∧ Aside0 (resid_zzSplit.l0 kq x0_1 a1 x5_1 = some r) ∧ Aside0 (kq ≤ k) ∧ Aside0 (Kd.R Kd.string 9 w' w.heap.size (fun _ => True) v5 x5_1) ∧ Aside0 (Below w.heap.size w w'))
  case atStart => exact ⟨(a0), (([] : List ByteArray)), (by first | rfl | (simp; done) | (simp [*]; done)), H', ⟨Nat.le_refl _⟩, ⟨by first | exact Kd.R_nil _ _ _ _ _ | exact Kd.N_nil _ _ _ _ _ | exact Kd.V_nil _ _ _ _ _ | exact Kd.Q_nil _ _ _ _ _ | exact Kd.S_nil _ _ _ _ _⟩, ⟨by repeat (first | (with_reducible first | exact HB.out | apply below_alloc | apply pw_below_drewN | apply below_drew1) | exact HB.out)⟩⟩
  case round =>
    clear H'
    try clear p2
    obtain ⟨x0_1, x5_1, rfl, HA, HK1, HO_5, HB⟩ := hrel
    cases gk with
    | zero => exact absurd HA.out (by simp [resid_zzSplit.l0])
    | succ k1 =>
      have H := HA.out
      clear HA
      simp only [resid_zzSplit.l0] at H
      replace H := Option.bind_eq_some_iff.mp H
      obtain ⟨t155, A30, H⟩ := H
      replace H : (if t155 < 0 then (if x5_1.length < 8796093022208 then (some (x5_1 ++ [x0_1])) else (none)) else (if 0 ≤ t155 then (if t155 ≤ (x0_1.size : Int) then (if x5_1.length < 8796093022208 then (if 0 ≤ (wrap64 (t155 + (a1.size : Int))) then (if (wrap64 (t155 + (a1.size : Int))) ≤ (x0_1.size : Int) then (resid_zzSplit.l0 k1 (x0_1.extract ((wrap64 (t155 + (a1.size : Int))) : Int).toNat x0_1.size) a1 (x5_1 ++ [x0_1.extract 0 (t155 : Int).toNat])) else (none)) else (none)) else (none)) else (none)) else (none))) = some r := H
      have A3 := Aside0.mk A30
      clear A30
      by_cases c4 : t155 < 0
      · rw [if_pos c4] at H
        have c4b0 : decide (t155 < 0) = true := decide_eq_true c4
        clear c4
        by_cases c5 : x5_1.length < 8796093022208
        · rw [if_pos c5] at H
          have LMc5 := Aside0.mk c5
          clear c5
          obtain ⟨y156, hy156⟩ : ∃ y_ : List ByteArray, y_ = (x5_1 ++ [x0_1]) := ⟨_, rfl⟩
          replace H : (some y156) = some r := by first | (rw [hy156]; with_reducible exact H) | (have H2_ := (Option.bind_some _ _).symm.trans H; rw [hy156]; with_reducible exact H2_) | (have H2_ := (Option.bind_some _ _).symm.trans H; with_reducible exact H2_) | with_reducible exact H | (rw [hy156]; exact H) | exact H
          have Ny156 := Aside0.mk hy156
          clear hy156
          obtain rfl := Option.some.inj H
          go_wp2_with (first | ((with_reducible refine gate_callee (f := 53) rfl ?_); refine goesL_ (some 9) rfl rfl Try.func53 (by kernel_rfl) rfl #[.string x0_1, .string a1] rfl (by (try simp only [List.map_toArray, List.map_cons, List.map_nil]); first | done | rfl | (simp only [List.length_drop, List.length_take]; rfl)) ?_; (with_reducible refine (resid_zzIndex.calls k1 x0_1 a1 t155 _ A3.out).mono ?_); rintro e w' ⟨rfl, ⟨nd, rfl⟩⟩; refine ⟨_, rfl, ?_⟩) | ((with_reducible refine gate_builtin (b := .append) (xs := #[.tmp 12, .tmp 14]) rfl ?_); at_builtin; refine Kd.R_append Kd.string (w0 := w) w.heap.size rfl (.tmp 12) (.tmp 14) 27 9 (.string ⟨#[]⟩) 16 rfl Try.underlying27 info9 rfl (by decide) (by omega) u5 x5_1 x0_1 [.string x0_1] (fun _ => True) (fun _ => False) rfl rfl ?aP (fun _ hk => hk.elim) ?aF ?aO ?aB ?aS ?aL ?_; (case aP => exact rfl); (case aB => exact (by repeat (first | (with_reducible first | exact HB.out | apply below_alloc | apply pw_below_drewN | apply below_drew1) | exact HB.out))); (case aF => exact (fun _ _ => trivial)); (case aO => exact (by (with_reducible repeat (first | apply Kd.R_alloc | apply Kd.R_drewN | apply Kd.R_drew)); exact HO_5.out)); (case aS => exact (below_size (by repeat (first | (with_reducible first | exact HB.out | apply below_alloc | apply pw_below_drewN | apply below_drew1) | exact HB.out)))); (case aL => have := LMc5.out; omega); intro v157 w6 ho hb hg hat; rw [← Ny156.out] at ho; have n0_ := Aside0.mk (hb); have n1_ := Aside0.mk (ho); clear HB; clear HO_5; have HB := n0_; have HO158 := n1_; clear n0_ n1_; clear ho hb hg hat))
          go_ret
          exact ⟨_, by first | rfl | (simp [errW_none, errW_some] <;> rfl) | (simp [*, errW_none, errW_some] <;> rfl), by (with_reducible repeat (first | apply Kd.R_alloc | apply Kd.R_drewN | apply Kd.R_drew)); exact HO158.out, by repeat (first | (with_reducible first | exact HB.out | apply below_alloc | apply pw_below_drewN | apply below_drew1) | exact HB.out)⟩
        · rw [if_neg c5] at H
          exact absurd H (by simp)
      · rw [if_neg c4] at H
        have c4b0 : decide (t155 < 0) = false := decide_eq_false c4
        clear c4
        by_cases c7 : 0 ≤ t155
        · rw [if_pos c7] at H
          have c7b0 := eq_true c7
          have c7b1 : decide (0 ≤ t155) = true := decide_eq_true c7
          clear c7
          by_cases c8 : t155 ≤ (x0_1.size : Int)
          · rw [if_pos c8] at H
            have c8b0 := eq_true c8
            have c8b1 : decide (t155 ≤ (x0_1.size : Int)) = true := decide_eq_true c8
            clear c8
            by_cases c9 : x5_1.length < 8796093022208
            · rw [if_pos c9] at H
              have LMc9 := Aside0.mk c9
              clear c9
              obtain ⟨y159, hy159⟩ : ∃ y_ : List ByteArray, y_ = (x5_1 ++ [x0_1.extract 0 (t155 : Int).toNat]) := ⟨_, rfl⟩
              replace H : (if 0 ≤ (wrap64 (t155 + (a1.size : Int))) then (if (wrap64 (t155 + (a1.size : Int))) ≤ (x0_1.size : Int) then (resid_zzSplit.l0 k1 (x0_1.extract ((wrap64 (t155 + (a1.size : Int))) : Int).toNat x0_1.size) a1 y159) else (none)) else (none)) = some r := by first | (rw [hy159]; with_reducible exact H) | (have H2_ := (Option.bind_some _ _).symm.trans H; rw [hy159]; with_reducible exact H2_) | (have H2_ := (Option.bind_some _ _).symm.trans H; with_reducible exact H2_) | with_reducible exact H | (rw [hy159]; exact H) | exact H
              have Ny159 := Aside0.mk hy159
              clear hy159
              obtain ⟨ji10, hji10⟩ : ∃ j_ : Int, (wrap64 (t155 + (a1.size : Int))) = j_ := ⟨_, rfl⟩
              replace H : (if 0 ≤ (ji10) then (if (ji10) ≤ (x0_1.size : Int) then (resid_zzSplit.l0 k1 (x0_1.extract ((ji10) : Int).toNat x0_1.size) a1 y159) else (none)) else (none)) = some r := by first | (rw [hji10] at H; exact H) | (simp only [hji10] at H ⊢; exact H)
              (try rw [hji10] at A3)
              have hji10w : (IntKind.i64.wrap (t155 + (a1.size : Int))) = ji10 := (i64_w _).trans hji10
              by_cases c11 : 0 ≤ (ji10)
              · rw [if_pos c11] at H
                have c11b0 := eq_true c11
                have c11b1 : decide (0 ≤ (ji10)) = true := decide_eq_true c11
                clear c11
                by_cases c12 : (ji10) ≤ (x0_1.size : Int)
                · rw [if_pos c12] at H
                  have c12b0 := eq_true c12
                  have c12b1 : decide ((ji10) ≤ (x0_1.size : Int)) = true := decide_eq_true c12
                  clear c12
                  have H' := Aside0.mk H
                  clear H
                  go_wp2_with (first | ((with_reducible refine gate_callee (f := 53) rfl ?_); refine goesL_ (some 9) rfl rfl Try.func53 (by kernel_rfl) rfl #[.string x0_1, .string a1] rfl (by (try simp only [List.map_toArray, List.map_cons, List.map_nil]); first | done | rfl | (simp only [List.length_drop, List.length_take]; rfl)) ?_; (with_reducible refine (resid_zzIndex.calls k1 x0_1 a1 t155 _ A3.out).mono ?_); rintro e w' ⟨rfl, ⟨nd, rfl⟩⟩; refine ⟨_, rfl, ?_⟩) | ((with_reducible refine gate_builtin (b := .append) (xs := #[.tmp 16, .tmp 20]) rfl ?_); at_builtin; refine Kd.R_append Kd.string (w0 := w) w.heap.size rfl (.tmp 16) (.tmp 20) 27 9 (.string ⟨#[]⟩) 16 rfl Try.underlying27 info9 rfl (by decide) (by omega) u5 x5_1 (x0_1.extract 0 (t155 : Int).toNat) [.string (x0_1.extract 0 (t155 : Int).toNat)] (fun _ => True) (fun _ => False) rfl rfl ?aP (fun _ hk => hk.elim) ?aF ?aO ?aB ?aS ?aL ?_; (case aP => exact rfl); (case aB => exact (by repeat (first | (with_reducible first | exact HB.out | apply below_alloc | apply pw_below_drewN | apply below_drew1) | exact HB.out))); (case aF => exact (fun _ _ => trivial)); (case aO => exact (by (with_reducible repeat (first | apply Kd.R_alloc | apply Kd.R_drewN | apply Kd.R_drew)); exact HO_5.out)); (case aS => exact (below_size (by repeat (first | (with_reducible first | exact HB.out | apply below_alloc | apply pw_below_drewN | apply below_drew1) | exact HB.out)))); (case aL => have := LMc9.out; omega); intro v160 w13 ho hb hg hat; rw [← Ny159.out] at ho; have n0_ := Aside0.mk (hb); have n1_ := Aside0.mk (ho); clear HB; clear HO_5; have HB := n0_; have HO161 := n1_; clear n0_ n1_; clear ho hb hg hat))
                  go_roundg k1
                  case measure => have := HK1.out; omega
                  case rel => exact ⟨(x0_1.extract ((ji10) : Int).toNat x0_1.size), (y159), (by first | rfl | (simp; done) | (simp only [← hji10] <;> (first | rfl | simp)) | (simp [*]; done)), H', ⟨by have := HK1.out; omega⟩, ⟨by (with_reducible repeat (first | apply Kd.R_alloc | apply Kd.R_drewN | apply Kd.R_drew)); exact HO161.out⟩, ⟨by repeat (first | (with_reducible first | exact HB.out | apply below_alloc | apply pw_below_drewN | apply below_drew1) | exact HB.out)⟩⟩
                · rw [if_neg c12] at H
                  exact absurd H (by simp)
              · rw [if_neg c11] at H
                exact absurd H (by simp)
            · rw [if_neg c9] at H
              exact absurd H (by simp)
          · rw [if_neg c8] at H
            exact absurd H (by simp)
        · rw [if_neg c7] at H
          exact absurd H (by simp)

-- function 44 (strings_Join): ours, in YtdomnigegpigiabHJoinGvk

/-! ### resid_NewGvk: function 45 -/
def resid_NewGvk.f (a0 : ByteArray) (a1 : ByteArray) (a2 : ByteArray) : Option (ByteArray × ByteArray × ByteArray × Bool) := some (a0, a1, a2, false)
set_option maxHeartbeats 8000000 in
set_option maxRecDepth 100000 in
theorem resid_NewGvk.calls (a0 : ByteArray) (a1 : ByteArray) (a2 : ByteArray) (r1 : ByteArray) (r2 : ByteArray) (r3 : ByteArray) (r4 : Bool) (w : World) (h : resid_NewGvk.f a0 a1 a2 = some (r1, r2, r3, r4)) :
    Calls Try.prog 45 #[.string a0, .string a1, .string a2] w fun e w' => e = .returned (.agg #[.string r1, .string r2, .string r3, .bool r4]) ∧ Below w.heap.size w w' := by
  have hu57 := Try.underlying57
  have HB := Aside0.mk (Below.refl w.heap.size w)
  have H : (some (a0, a1, a2, false)) = some (r1, r2, r3, r4) := h
  clear h
  simp only [Option.some.injEq, Prod.mk.injEq] at H
  obtain ⟨rfl, rfl, rfl, rfl⟩ := H
  go_enter Try.func45, Try.ntmps45
  go_wp2_with (first | ((with_reducible refine gate_dst (N := 6) rfl ?_); refine box_event ?hg (N := 6) ?hd (cs := #[.string (⟨#[]⟩ : ByteArray), .string (⟨#[]⟩ : ByteArray), .string (⟨#[]⟩ : ByteArray), .bool false]) (t := 57) ?hr ?_; (case hd => rfl); (case hg => rfl); (case hr => first | (go_simp; done) | (go_simp; rfl)); intro gb162 hg w4 hbox hb; have n0_ := Aside0.mk (below_step (by repeat (first | (with_reducible first | exact HB.out | apply below_alloc | apply pw_below_drewN | apply below_drew1) | exact HB.out)) hb); have n1_ := Aside0.mk (hbox); have n2_ := Aside0.mk ((by rw [hg]; exact (below_size (by repeat (first | (with_reducible first | exact HB.out | apply below_alloc | apply pw_below_drewN | apply below_drew1) | exact HB.out))) : w.heap.size ≤ gb162)); have n3_ := Aside0.mk ((by rw [hg]; exact (below_size (by repeat (first | (with_reducible first | exact HB.out | apply below_alloc | apply pw_below_drewN | apply below_drew1) | exact HB.out))) : w.heap.size ≤ gb162)); clear HB; have HB := n0_; have BK162 := n1_; have GW162 := n2_; have GE162 := n3_; clear n0_ n1_ n2_ n3_; clear hb hbox hg) | ((with_reducible refine gate_dst (N := 7) rfl ?_); refine box_event ?hg (N := 7) ?hd (cs := #[.string (⟨#[]⟩ : ByteArray), .string (⟨#[]⟩ : ByteArray), .string (⟨#[]⟩ : ByteArray), .bool false]) (t := 57) ?hr ?_; (case hd => rfl); (case hg => rfl); (case hr => first | (go_simp; done) | (go_simp; rfl)); intro gb163 hg w5 hbox hb; have n0_ := Aside0.mk (blk_below (g := gb162) (o := .cells #[.string (⟨#[]⟩ : ByteArray), .string (⟨#[]⟩ : ByteArray), .string (⟨#[]⟩ : ByteArray), .bool false] 57 (0, 0)) (by (with_reducible repeat (first | refine blk_drewN ?_ _ | refine blk_drew ?_ | refine blk_alloc ?_ _)); exact BK162.out) hb); have n1_ := Aside0.mk (below_step (by repeat (first | (with_reducible first | exact HB.out | apply below_alloc | apply pw_below_drewN | apply below_drew1 | refine below_set ?_ GE162.out) | exact HB.out)) hb); have n2_ := Aside0.mk (hbox); have n3_ := Aside0.mk ((by rw [hg]; exact (below_size (by repeat (first | (with_reducible first | exact HB.out | apply below_alloc | apply pw_below_drewN | apply below_drew1 | refine below_set ?_ GE162.out) | exact HB.out))) : w.heap.size ≤ gb163)); have n4_ := Aside0.mk ((by rw [hg]; exact (below_size (by repeat (first | (with_reducible first | exact HB.out | apply below_alloc | apply pw_below_drewN | apply below_drew1 | refine below_set ?_ GE162.out) | exact HB.out))) : w.heap.size ≤ gb163)); have n5_ := Aside0.mk ((by rw [hg]; exact Nat.ne_of_lt (blk_lt (g := gb162) (o := .cells #[.string (⟨#[]⟩ : ByteArray), .string (⟨#[]⟩ : ByteArray), .string (⟨#[]⟩ : ByteArray), .bool false] 57 (0, 0)) (by (with_reducible repeat (first | refine blk_drewN ?_ _ | refine blk_drew ?_ | refine blk_alloc ?_ _)); exact BK162.out)) : gb162 ≠ gb163)); have n6_ := Aside0.mk ((by rw [hg]; exact Nat.ne_of_gt (blk_lt (g := gb162) (o := .cells #[.string (⟨#[]⟩ : ByteArray), .string (⟨#[]⟩ : ByteArray), .string (⟨#[]⟩ : ByteArray), .bool false] 57 (0, 0)) (by (with_reducible repeat (first | refine blk_drewN ?_ _ | refine blk_drew ?_ | refine blk_alloc ?_ _)); exact BK162.out)) : gb163 ≠ gb162)); clear BK162; clear HB; have BK162 := n0_; have HB := n1_; have BK163 := n2_; have GW163 := n3_; have GE163 := n4_; have NB162_163 := n5_; have NB163_162 := n6_; clear n0_ n1_ n2_ n3_ n4_ n5_ n6_; clear hb hbox hg; have hnb6 := NB163_162.out; have hnc6 := NB162_163.out; have hcz7_0 : w5.cell? ⟨gb163, 0, none⟩ = some (.string (⟨#[]⟩ : ByteArray)) := (blk_cell BK163.out 0).trans rfl; have hcz7_1 : w5.cell? ⟨gb163, 1, none⟩ = some (.string (⟨#[]⟩ : ByteArray)) := (blk_cell BK163.out 1).trans rfl; have hcz7_2 : w5.cell? ⟨gb163, 2, none⟩ = some (.string (⟨#[]⟩ : ByteArray)) := (blk_cell BK163.out 2).trans rfl; have hcz7_3 : w5.cell? ⟨gb163, 3, none⟩ = some (.bool false) := (blk_cell BK163.out 3).trans rfl; have hfz7_0 := blk_frozen BK163.out 0; have hfz7_1 := blk_frozen BK163.out 1; have hfz7_2 := blk_frozen BK163.out 2; have hfz7_3 := blk_frozen BK163.out 3; have hcz8_0 : w5.cell? ⟨gb162, 0, none⟩ = some (.string (⟨#[]⟩ : ByteArray)) := (blk_cell BK162.out 0).trans rfl; have hcz8_1 : w5.cell? ⟨gb162, 1, none⟩ = some (.string (⟨#[]⟩ : ByteArray)) := (blk_cell BK162.out 1).trans rfl; have hcz8_2 : w5.cell? ⟨gb162, 2, none⟩ = some (.string (⟨#[]⟩ : ByteArray)) := (blk_cell BK162.out 2).trans rfl; have hcz8_3 : w5.cell? ⟨gb162, 3, none⟩ = some (.bool false) := (blk_cell BK162.out 3).trans rfl; have hfz8_0 := blk_frozen BK162.out 0; have hfz8_1 := blk_frozen BK162.out 1; have hfz8_2 := blk_frozen BK162.out 2; have hfz8_3 := blk_frozen BK162.out 3))
  refine bodyPost_ret (results_cell_row rfl _ _ gb162 57 #[.string a0, .string a1, .string a2, .bool false] (0, 0) _ rfl (by (with_reducible repeat (first | refine blk_drewN ?_ _ | refine blk_drew ?_ | refine blk_alloc ?_ _)); refine blk_put (cs := #[.string a0, .string a1, .string a2, .bool false]) ?_ 3 _ rfl; (with_reducible repeat (first | refine blk_drewN ?_ _ | refine blk_drew ?_ | refine blk_alloc ?_ _)); refine blk_put (cs := #[.string a0, .string a1, .string (⟨#[]⟩ : ByteArray), .bool false]) ?_ 2 _ rfl; (with_reducible repeat (first | refine blk_drewN ?_ _ | refine blk_drew ?_ | refine blk_alloc ?_ _)); refine blk_put (cs := #[.string a0, .string (⟨#[]⟩ : ByteArray), .string (⟨#[]⟩ : ByteArray), .bool false]) ?_ 1 _ rfl; (with_reducible repeat (first | refine blk_drewN ?_ _ | refine blk_drew ?_ | refine blk_alloc ?_ _)); refine blk_put (cs := #[.string (⟨#[]⟩ : ByteArray), .string (⟨#[]⟩ : ByteArray), .string (⟨#[]⟩ : ByteArray), .bool false]) ?_ 0 _ rfl; (with_reducible repeat (first | refine blk_drewN ?_ _ | refine blk_drew ?_ | refine blk_alloc ?_ _)); refine blk_far ?_ NB162_163.out _; (with_reducible repeat (first | refine blk_drewN ?_ _ | refine blk_drew ?_ | refine blk_alloc ?_ _)); refine blk_far ?_ NB162_163.out _; (with_reducible repeat (first | refine blk_drewN ?_ _ | refine blk_drew ?_ | refine blk_alloc ?_ _)); refine blk_far ?_ NB162_163.out _; (with_reducible repeat (first | refine blk_drewN ?_ _ | refine blk_drew ?_ | refine blk_alloc ?_ _)); refine blk_far ?_ NB162_163.out _; (with_reducible repeat (first | refine blk_drewN ?_ _ | refine blk_drew ?_ | refine blk_alloc ?_ _)); exact BK162.out) Try.underlying57 rfl (by kernel_rfl)) rfl ?_
  exact ⟨by first | rfl | (simp [errW_none, errW_some] <;> rfl) | (simp [*, errW_none, errW_some] <;> rfl), by repeat (first | (with_reducible first | exact HB.out | apply below_alloc | apply pw_below_drewN | apply below_drew1 | refine below_set ?_ GE162.out | refine below_set ?_ GE163.out) | exact HB.out)⟩

/-! ### resid_GvkFromString: function 31 -/
mutual
def resid_GvkFromString.j0 : Nat → List ByteArray → ByteArray → Option (ByteArray × ByteArray × ByteArray × Bool)
  | 0, _, _ => none
  | k + 1, x3, x4 => if 1 < (x3.length : Int) then (if (rdOf ByteArray.empty x3 1).toList = ([91, 110, 111, 86, 101, 114, 93] : List UInt8) then (resid_GvkFromString.j1 k x3 x4 (⟨#[]⟩ : ByteArray)) else (resid_GvkFromString.j1 k x3 x4 (rdOf ByteArray.empty x3 1))) else (none)
def resid_GvkFromString.j1 : Nat → List ByteArray → ByteArray → ByteArray → Option (ByteArray × ByteArray × ByteArray × Bool)
  | 0, _, _, _ => none
  | k + 1, x3, x4, x5 => if 2 ≤ (x3.length : Int) then ((strings_Join.f (x3.drop 2) (⟨#[46]⟩ : ByteArray)).bind fun t174 => (if t174.toList = ([91, 110, 111, 71, 114, 112, 93] : List UInt8) then ((resid_NewGvk.f (⟨#[]⟩ : ByteArray) x5 x4).bind fun bt175 => (some (bt175.1, bt175.2.1, bt175.2.2.1, bt175.2.2.2))) else ((resid_NewGvk.f t174 x5 x4).bind fun bt179 => (some (bt179.1, bt179.2.1, bt179.2.2.1, bt179.2.2.2))))) else (none)
end
def resid_GvkFromString.f (k : Nat) (a0 : ByteArray) : Option (ByteArray × ByteArray × ByteArray × Bool) := (resid_zzSplit.f k a0 (⟨#[46]⟩ : ByteArray)).bind fun t165 => (if (t165.length : Int) < 3 then (some ((⟨#[91, 110, 111, 71, 114, 112, 93]⟩ : ByteArray), (⟨#[91, 110, 111, 86, 101, 114, 93]⟩ : ByteArray), (⟨#[91, 110, 111, 75, 105, 110, 100, 93]⟩ : ByteArray), false)) else (if 0 < (t165.length : Int) then (if (rdOf ByteArray.empty t165 0).toList = ([91, 110, 111, 75, 105, 110, 100, 93] : List UInt8) then (resid_GvkFromString.j0 k t165 (⟨#[]⟩ : ByteArray)) else (resid_GvkFromString.j0 k t165 (rdOf ByteArray.empty t165 0))) else (none)))
theorem resid_GvkFromString.mono_l : ∀ k, (∀ y0 y1, LeO (resid_GvkFromString.j0 k y0 y1) (resid_GvkFromString.j0 (k + 1) y0 y1)) ∧ (∀ y0 y1 y2, LeO (resid_GvkFromString.j1 k y0 y1 y2) (resid_GvkFromString.j1 (k + 1) y0 y1 y2))
  | 0 => ⟨fun _ _ r h => by simp [resid_GvkFromString.j0] at h, fun _ _ _ r h => by simp [resid_GvkFromString.j1] at h⟩
  | k + 1 => by
    obtain ⟨ih0, ih1⟩ := resid_GvkFromString.mono_l k
    refine ⟨?_, ?_⟩
    · intro y0 y1
      unfold resid_GvkFromString.j0
      repeat' first
      | (with_reducible exact ih0 _ _)
      | (with_reducible exact ih1 _ _ _)
      | (with_reducible exact resid_zzSplit.mono _ _ _)
      | (with_reducible exact LeO.refl _)
      | (with_reducible exact LeO.none _)
      | (with_reducible refine LeO.ite ?_ ?_)
      | (with_reducible refine LeO.bind ?_ (fun _ => ?_))
      | exact ih0 _ _
      | exact ih1 _ _ _
      | exact resid_zzSplit.mono _ _ _
      | exact LeO.none _
      | refine LeO.ite ?_ ?_
      | refine LeO.bind ?_ (fun _ => ?_)
    · intro y0 y1 y2
      unfold resid_GvkFromString.j1
      repeat' first
      | (with_reducible exact ih0 _ _)
      | (with_reducible exact ih1 _ _ _)
      | (with_reducible exact resid_zzSplit.mono _ _ _)
      | (with_reducible exact LeO.refl _)
      | (with_reducible exact LeO.none _)
      | (with_reducible refine LeO.ite ?_ ?_)
      | (with_reducible refine LeO.bind ?_ (fun _ => ?_))
      | exact ih0 _ _
      | exact ih1 _ _ _
      | exact resid_zzSplit.mono _ _ _
      | exact LeO.none _
      | refine LeO.ite ?_ ?_
      | refine LeO.bind ?_ (fun _ => ?_)
theorem resid_GvkFromString.mono : ∀ a0 k, LeO (resid_GvkFromString.f k a0) (resid_GvkFromString.f (k + 1) a0) := by
  intro a0 k
  obtain ⟨ih0, ih1⟩ := resid_GvkFromString.mono_l k
  unfold resid_GvkFromString.f
  repeat' first
      | (with_reducible exact ih0 _ _)
      | (with_reducible exact ih1 _ _ _)
      | (with_reducible exact resid_zzSplit.mono _ _ _)
      | (with_reducible exact LeO.refl _)
      | (with_reducible exact LeO.none _)
      | (with_reducible refine LeO.ite ?_ ?_)
      | (with_reducible refine LeO.bind ?_ (fun _ => ?_))
      | exact ih0 _ _
      | exact ih1 _ _ _
      | exact resid_zzSplit.mono _ _ _
      | exact LeO.none _
      | refine LeO.ite ?_ ?_
      | refine LeO.bind ?_ (fun _ => ?_)
set_option maxHeartbeats 8000000 in
set_option maxRecDepth 100000 in
theorem resid_GvkFromString.calls (k : Nat) (a0 : ByteArray) (r1 : ByteArray) (r2 : ByteArray) (r3 : ByteArray) (r4 : Bool) (w : World) (h : resid_GvkFromString.f k a0 = some (r1, r2, r3, r4)) :
    Calls Try.prog 31 #[.string a0] w fun e w' => e = .returned (.agg #[.string r1, .string r2, .string r3, .bool r4]) ∧ Below w.heap.size w w' := by
  have hu57 := Try.underlying57
  have HB := Aside0.mk (Below.refl w.heap.size w)
  have H : ((resid_zzSplit.f k a0 (⟨#[46]⟩ : ByteArray)).bind fun t165 => (if (t165.length : Int) < 3 then (some ((⟨#[91, 110, 111, 71, 114, 112, 93]⟩ : ByteArray), (⟨#[91, 110, 111, 86, 101, 114, 93]⟩ : ByteArray), (⟨#[91, 110, 111, 75, 105, 110, 100, 93]⟩ : ByteArray), false)) else (if 0 < (t165.length : Int) then (if (rdOf ByteArray.empty t165 0).toList = ([91, 110, 111, 75, 105, 110, 100, 93] : List UInt8) then (resid_GvkFromString.j0 k t165 (⟨#[]⟩ : ByteArray)) else (resid_GvkFromString.j0 k t165 (rdOf ByteArray.empty t165 0))) else (none)))) = some (r1, r2, r3, r4) := h
  clear h
  replace H := Option.bind_eq_some_iff.mp H
  obtain ⟨t165, A20, H⟩ := H
  replace H : (if (t165.length : Int) < 3 then (some ((⟨#[91, 110, 111, 71, 114, 112, 93]⟩ : ByteArray), (⟨#[91, 110, 111, 86, 101, 114, 93]⟩ : ByteArray), (⟨#[91, 110, 111, 75, 105, 110, 100, 93]⟩ : ByteArray), false)) else (if 0 < (t165.length : Int) then (if (rdOf ByteArray.empty t165 0).toList = ([91, 110, 111, 75, 105, 110, 100, 93] : List UInt8) then (resid_GvkFromString.j0 k t165 (⟨#[]⟩ : ByteArray)) else (resid_GvkFromString.j0 k t165 (rdOf ByteArray.empty t165 0))) else (none))) = some (r1, r2, r3, r4) := H
  have A2 := Aside0.mk A20
  clear A20
  by_cases c3 : (t165.length : Int) < 3
  · rw [if_pos c3] at H
    have c3b0 : decide ((t165.length : Int) < 3) = true := decide_eq_true c3
    have c3b1 : decide (t165.length < 3) = true := decide_eq_true (by omega)
    clear c3
    simp only [Option.some.injEq, Prod.mk.injEq] at H
    obtain ⟨rfl, rfl, rfl, rfl⟩ := H
    go_enter Try.func31, Try.ntmps31
    go_wp2_with (first | ((with_reducible refine gate_dst (N := 2) rfl ?_); refine box_event ?hg (N := 2) ?hd (cs := #[.string (⟨#[]⟩ : ByteArray), .string (⟨#[]⟩ : ByteArray), .string (⟨#[]⟩ : ByteArray), .bool false]) (t := 57) ?hr ?_; (case hd => rfl); (case hg => rfl); (case hr => first | (go_simp; done) | (go_simp; rfl)); intro gb164 hg w4 hbox hb; have n0_ := Aside0.mk (below_step (by repeat (first | (with_reducible first | exact HB.out | apply below_alloc | apply pw_below_drewN | apply below_drew1) | exact HB.out)) hb); have n1_ := Aside0.mk (hbox); have n2_ := Aside0.mk ((by rw [hg]; exact (below_size (by repeat (first | (with_reducible first | exact HB.out | apply below_alloc | apply pw_below_drewN | apply below_drew1) | exact HB.out))) : w.heap.size ≤ gb164)); have n3_ := Aside0.mk ((by rw [hg]; exact (below_size (by repeat (first | (with_reducible first | exact HB.out | apply below_alloc | apply pw_below_drewN | apply below_drew1) | exact HB.out))) : w.heap.size ≤ gb164)); clear HB; have HB := n0_; have BK164 := n1_; have GW164 := n2_; have GE164 := n3_; clear n0_ n1_ n2_ n3_; clear hb hbox hg) | ((with_reducible refine gate_callee (f := 43) rfl ?_); refine goesL_ (some 8) rfl rfl Try.func43 (by kernel_rfl) rfl #[.string a0, .string (⟨#[46]⟩ : ByteArray)] rfl (by (try simp only [List.map_toArray, List.map_cons, List.map_nil]); first | done | rfl | (simp only [List.length_drop, List.length_take]; rfl)) ?_; (with_reducible refine (resid_zzSplit.calls k a0 (⟨#[46]⟩ : ByteArray) t165 _ A2.out).mono ?_); rintro e w5 ⟨v166, rfl, ho0, hb⟩; refine ⟨_, rfl, ?_⟩; have n0_ := Aside0.mk (Kd.R_lower ho0 (below_size (by repeat (first | (with_reducible first | exact HB.out | apply below_alloc | apply pw_below_drewN | apply below_drew1 | refine below_set ?_ GE164.out) | exact HB.out)))); have n1_ := Aside0.mk (blk_below (g := gb164) (o := .cells #[.string (⟨#[]⟩ : ByteArray), .string (⟨#[]⟩ : ByteArray), .string (⟨#[]⟩ : ByteArray), .bool false] 57 (0, 0)) (by (with_reducible repeat (first | refine blk_drewN ?_ _ | refine blk_drew ?_ | refine blk_alloc ?_ _)); exact BK164.out) hb); have n2_ := Aside0.mk (below_step (by repeat (first | (with_reducible first | exact HB.out | apply below_alloc | apply pw_below_drewN | apply below_drew1 | refine below_set ?_ GE164.out) | exact HB.out)) hb); clear BK164; clear HB; have HO167 := n0_; have BK164 := n1_; have HB := n2_; clear n0_ n1_ n2_; (try clear hb); (try clear hb2); (try clear hk); (try clear hi); (try clear ho0); obtain ⟨Ao6, co6, eo6⟩ := Kd.R_slice HO167.out; subst eo6; have hcz7_0 : w5.cell? ⟨gb164, 0, none⟩ = some (.string (⟨#[]⟩ : ByteArray)) := (blk_cell BK164.out 0).trans rfl; have hcz7_1 : w5.cell? ⟨gb164, 1, none⟩ = some (.string (⟨#[]⟩ : ByteArray)) := (blk_cell BK164.out 1).trans rfl; have hcz7_2 : w5.cell? ⟨gb164, 2, none⟩ = some (.string (⟨#[]⟩ : ByteArray)) := (blk_cell BK164.out 2).trans rfl; have hcz7_3 : w5.cell? ⟨gb164, 3, none⟩ = some (.bool false) := (blk_cell BK164.out 3).trans rfl; have hfz7_0 := blk_frozen BK164.out 0; have hfz7_1 := blk_frozen BK164.out 1; have hfz7_2 := blk_frozen BK164.out 2; have hfz7_3 := blk_frozen BK164.out 3))
    refine bodyPost_ret (results_cell_row rfl _ _ gb164 57 #[.string (⟨#[91, 110, 111, 71, 114, 112, 93]⟩ : ByteArray), .string (⟨#[91, 110, 111, 86, 101, 114, 93]⟩ : ByteArray), .string (⟨#[91, 110, 111, 75, 105, 110, 100, 93]⟩ : ByteArray), .bool false] (0, 0) _ rfl (by (with_reducible repeat (first | refine blk_drewN ?_ _ | refine blk_drew ?_ | refine blk_alloc ?_ _)); refine blk_put (cs := #[.string (⟨#[91, 110, 111, 71, 114, 112, 93]⟩ : ByteArray), .string (⟨#[91, 110, 111, 86, 101, 114, 93]⟩ : ByteArray), .string (⟨#[91, 110, 111, 75, 105, 110, 100, 93]⟩ : ByteArray), .bool false]) ?_ 3 _ rfl; (with_reducible repeat (first | refine blk_drewN ?_ _ | refine blk_drew ?_ | refine blk_alloc ?_ _)); refine blk_put (cs := #[.string (⟨#[91, 110, 111, 71, 114, 112, 93]⟩ : ByteArray), .string (⟨#[91, 110, 111, 86, 101, 114, 93]⟩ : ByteArray), .string (⟨#[]⟩ : ByteArray), .bool false]) ?_ 2 _ rfl; (with_reducible repeat (first | refine blk_drewN ?_ _ | refine blk_drew ?_ | refine blk_alloc ?_ _)); refine blk_put (cs := #[.string (⟨#[91, 110, 111, 71, 114, 112, 93]⟩ : ByteArray), .string (⟨#[]⟩ : ByteArray), .string (⟨#[]⟩ : ByteArray), .bool false]) ?_ 1 _ rfl; (with_reducible repeat (first | refine blk_drewN ?_ _ | refine blk_drew ?_ | refine blk_alloc ?_ _)); refine blk_put (cs := #[.string (⟨#[]⟩ : ByteArray), .string (⟨#[]⟩ : ByteArray), .string (⟨#[]⟩ : ByteArray), .bool false]) ?_ 0 _ rfl; (with_reducible repeat (first | refine blk_drewN ?_ _ | refine blk_drew ?_ | refine blk_alloc ?_ _)); exact BK164.out) Try.underlying57 rfl (by kernel_rfl)) rfl ?_
    exact ⟨by first | rfl | (simp [errW_none, errW_some] <;> rfl) | (simp [*, errW_none, errW_some] <;> rfl), by repeat (first | (with_reducible first | exact HB.out | apply below_alloc | apply pw_below_drewN | apply below_drew1 | refine below_set ?_ GE164.out) | exact HB.out)⟩
  · rw [if_neg c3] at H
    have c3b0 : decide ((t165.length : Int) < 3) = false := decide_eq_false c3
    have c3b1 : decide (t165.length < 3) = false := decide_eq_false (by omega)
    clear c3
    by_cases c8 : 0 < (t165.length : Int)
    · rw [if_pos c8] at H
      have c8b0 : decide (0 < (t165.length : Int)) = true := decide_eq_true c8
      have c8b1 : decide (0 < t165.length) = true := decide_eq_true (by omega)
      clear c8
      have HC9 := Aside0.mk H
      clear H
      go_enter Try.func31, Try.ntmps31
      go_upto_if 17 with (first | ((with_reducible refine gate_dst (N := 2) rfl ?_); refine box_event ?hg (N := 2) ?hd (cs := #[.string (⟨#[]⟩ : ByteArray), .string (⟨#[]⟩ : ByteArray), .string (⟨#[]⟩ : ByteArray), .bool false]) (t := 57) ?hr ?_; (case hd => rfl); (case hg => rfl); (case hr => first | (go_simp; done) | (go_simp; rfl)); intro gb164 hg w10 hbox hb; have n0_ := Aside0.mk (below_step (by repeat (first | (with_reducible first | exact HB.out | apply below_alloc | apply pw_below_drewN | apply below_drew1) | exact HB.out)) hb); have n1_ := Aside0.mk (hbox); have n2_ := Aside0.mk ((by rw [hg]; exact (below_size (by repeat (first | (with_reducible first | exact HB.out | apply below_alloc | apply pw_below_drewN | apply below_drew1) | exact HB.out))) : w.heap.size ≤ gb164)); have n3_ := Aside0.mk ((by rw [hg]; exact (below_size (by repeat (first | (with_reducible first | exact HB.out | apply below_alloc | apply pw_below_drewN | apply below_drew1) | exact HB.out))) : w.heap.size ≤ gb164)); clear HB; have HB := n0_; have BK164 := n1_; have GW164 := n2_; have GE164 := n3_; clear n0_ n1_ n2_ n3_; clear hb hbox hg) | ((with_reducible refine gate_callee (f := 43) rfl ?_); refine goesL_ (some 8) rfl rfl Try.func43 (by kernel_rfl) rfl #[.string a0, .string (⟨#[46]⟩ : ByteArray)] rfl (by (try simp only [List.map_toArray, List.map_cons, List.map_nil]); first | done | rfl | (simp only [List.length_drop, List.length_take]; rfl)) ?_; (with_reducible refine (resid_zzSplit.calls k a0 (⟨#[46]⟩ : ByteArray) t165 _ A2.out).mono ?_); rintro e w11 ⟨v166, rfl, ho0, hb⟩; refine ⟨_, rfl, ?_⟩; have n0_ := Aside0.mk (Kd.R_lower ho0 (below_size (by repeat (first | (with_reducible first | exact HB.out | apply below_alloc | apply pw_below_drewN | apply below_drew1 | refine below_set ?_ GE164.out) | exact HB.out)))); have n1_ := Aside0.mk (blk_below (g := gb164) (o := .cells #[.string (⟨#[]⟩ : ByteArray), .string (⟨#[]⟩ : ByteArray), .string (⟨#[]⟩ : ByteArray), .bool false] 57 (0, 0)) (by (with_reducible repeat (first | refine blk_drewN ?_ _ | refine blk_drew ?_ | refine blk_alloc ?_ _)); exact BK164.out) hb); have n2_ := Aside0.mk (below_step (by repeat (first | (with_reducible first | exact HB.out | apply below_alloc | apply pw_below_drewN | apply below_drew1 | refine below_set ?_ GE164.out) | exact HB.out)) hb); clear BK164; clear HB; have HO167 := n0_; have BK164 := n1_; have HB := n2_; clear n0_ n1_ n2_; (try clear hb); (try clear hb2); (try clear hk); (try clear hi); (try clear ho0); obtain ⟨Ao12, co12, eo12⟩ := Kd.R_slice HO167.out; subst eo12; have p168 : 0 ≤ (0 : Int) := (by omega); have q168 : 0 < (t165.length : Int) := of_decide_eq_true (by first | (with_reducible assumption) | assumption); obtain ⟨ad168, e168, hx168_0⟩ := Kd.at_string (Kd.R_reads' HO167.out).2.2 0 p168 q168; cases e168; have qi168 : (0 < t165.length) = True := eq_true (by omega); (try rw [show ((0 : Int)).toNat = 0 from rfl] at hx168_0); (try rw [Addr.add_zero'] at hx168_0); replace p168 := eq_true p168; replace q168 := eq_true q168))
      (try simp only [Act.put, List.setIfInBounds_toArray, List.set_cons_zero, List.set_cons_succ])
      go_cut [4] (fun v4 wc => ∃ (kq : Nat) (x4_8 : ByteArray), v4 = .string x4_8 ∧ Aside0 (resid_GvkFromString.j0 kq t165 x4_8 = some (r1, r2, r3, r4)) ∧ Aside0 (kq ≤ k) ∧ Aside0 (Kd.R Kd.string 9 wc w.heap.size (fun _ => True) (.slice (some ad168) t165.length co12) t165) ∧ Aside0 (wc.heap[gb164]? = some (.cells #[.string (⟨#[]⟩ : ByteArray), .string (⟨#[]⟩ : ByteArray), .string (⟨#[]⟩ : ByteArray), .bool false] 57 (0, 0))) ∧ Aside0 (Below w.heap.size w wc))
      case first =>
        have H := HC9.out
        clear HC9
        by_cases c13 : (rdOf ByteArray.empty t165 0).toList = ([91, 110, 111, 75, 105, 110, 100, 93] : List UInt8)
        · rw [if_pos c13] at H
          have c13b0 : ((rdOf ByteArray.empty t165 0).toList == ([91, 110, 111, 75, 105, 110, 100, 93] : List UInt8)) = true := beq_iff_eq.mpr c13
          have c13b1 : ((rdOf ByteArray.empty t165 0).toList != ([91, 110, 111, 75, 105, 110, 100, 93] : List UInt8)) = false := bne_eq_false_iff_eq.mpr c13
          clear c13
          (first | rw [c13b0] | (simp only [i64_w, i32_w]; rw [c13b0]) | rw [c13b3] | skip)
          have H' := Aside0.mk H
          clear H
          go_wp2
          go_meet
          case rel => exact ⟨_, ((⟨#[]⟩ : ByteArray)), (by first | rfl | (simp; done) | (simp [*]; done)), H', ⟨by first | omega | exact Nat.le_refl _⟩, ⟨by (with_reducible repeat (first | apply Kd.R_alloc | apply Kd.R_drewN | apply Kd.R_drew)); exact HO167.out⟩, ⟨by (with_reducible repeat (first | refine blk_drewN ?_ _ | refine blk_drew ?_ | refine blk_alloc ?_ _)); exact BK164.out⟩, ⟨by repeat (first | (with_reducible first | exact HB.out | apply below_alloc | apply pw_below_drewN | apply below_drew1 | refine below_set ?_ GE164.out) | exact HB.out)⟩⟩
        · rw [if_neg c13] at H
          have c13b0 : ((rdOf ByteArray.empty t165 0).toList == ([91, 110, 111, 75, 105, 110, 100, 93] : List UInt8)) = false := beq_eq_false_iff_ne.mpr c13
          have c13b1 : ((rdOf ByteArray.empty t165 0).toList != ([91, 110, 111, 75, 105, 110, 100, 93] : List UInt8)) = true := bne_iff_ne.mpr c13
          (first | rw [c13b0] | (simp only [i64_w, i32_w]; rw [c13b0]) | rw [c13b3] | skip)
          have H' := Aside0.mk H
          clear H
          go_wp2
          go_meet
          case rel => exact ⟨_, (rdOf ByteArray.empty t165 0), (by first | rfl | (simp; done) | (simp [*]; done)), H', ⟨by first | omega | exact Nat.le_refl _⟩, ⟨by (with_reducible repeat (first | apply Kd.R_alloc | apply Kd.R_drewN | apply Kd.R_drew)); exact HO167.out⟩, ⟨by (with_reducible repeat (first | refine blk_drewN ?_ _ | refine blk_drew ?_ | refine blk_alloc ?_ _)); exact BK164.out⟩, ⟨by repeat (first | (with_reducible first | exact HB.out | apply below_alloc | apply pw_below_drewN | apply below_drew1 | refine below_set ?_ GE164.out) | exact HB.out)⟩⟩
      case rest =>
        clear HC9
        try clear c1
        try clear p1
        try clear q1
        try clear hx1
        try clear qi1
        try clear p2
        try clear c3
        try clear c3b0
        try clear c3b1
        try clear c4
        try clear c8
        try clear c8b0
        try clear c8b1
        try clear c13
        try clear c13b0
        try clear c13b1
        try clear hcz7_0
        try clear hcz7_1
        try clear hcz7_2
        try clear hcz7_3
        try clear hfz7_0
        try clear hfz7_1
        try clear hfz7_2
        try clear hfz7_3
        try clear hx168_0
        try clear p168
        try clear q168
        obtain ⟨kq, x4_8, rfl, HA, HJ8, HO_3, BK164, HB⟩ := hcut
        cases kq with
        | zero => exact absurd HA.out (by simp [resid_GvkFromString.j0])
        | succ kj8 =>
          have H := HA.out
          clear HA
          simp only [resid_GvkFromString.j0] at H
          by_cases c14 : 1 < (t165.length : Int)
          · rw [if_pos c14] at H
            have c14b0 : decide (1 < (t165.length : Int)) = true := decide_eq_true c14
            have c14b1 : decide (1 < t165.length) = true := decide_eq_true (by omega)
            clear c14
            have HC15 := Aside0.mk H
            clear H
            have p169 : 0 ≤ (1 : Int) := (by omega)
            have q169 : 1 < (t165.length : Int) := of_decide_eq_true (by first | (with_reducible assumption) | assumption)
            obtain ⟨ad169, e169, hx169_0⟩ := Kd.at_string (Kd.R_reads' HO_3.out).2.2 1 p169 q169
            obtain rfl : ad168 = ad169 := (by injection e169)
            (try simp only [show (1 : Int).toNat = 1 from rfl, Nat.reduceMul, Nat.reduceEqDiff, Go.Addr.add, ↓reduceIte] at hx169_0)
            have qi169 : (1 < t165.length) = True := eq_true (by omega)
            (try rw [show ((1 : Int)).toNat = 1 from rfl] at hx169_0)
            replace p169 := eq_true p169
            replace q169 := eq_true q169
            go_upto_if 22 with (fail)
            go_cut [5] (fun v5 wc => ∃ (kq : Nat) (x5_14 : ByteArray), v5 = .string x5_14 ∧ Aside0 (resid_GvkFromString.j1 kq t165 x4_8 x5_14 = some (r1, r2, r3, r4)) ∧ Aside0 (kq ≤ kj8) ∧ Aside0 (Kd.R Kd.string 9 wc w.heap.size (fun _ => True) (.slice (some ad168) t165.length co12) t165) ∧ Aside0 (wc.heap[gb164]? = some (.cells #[.string (⟨#[]⟩ : ByteArray), .string (⟨#[]⟩ : ByteArray), .string (⟨#[]⟩ : ByteArray), .bool false] 57 (0, 0))) ∧ Aside0 (Below w.heap.size w wc))
            case first =>
              have H := HC15.out
              clear HC15
              by_cases c16 : (rdOf ByteArray.empty t165 1).toList = ([91, 110, 111, 86, 101, 114, 93] : List UInt8)
              · rw [if_pos c16] at H
                have c16b0 : ((rdOf ByteArray.empty t165 1).toList == ([91, 110, 111, 86, 101, 114, 93] : List UInt8)) = true := beq_iff_eq.mpr c16
                have c16b1 : ((rdOf ByteArray.empty t165 1).toList != ([91, 110, 111, 86, 101, 114, 93] : List UInt8)) = false := bne_eq_false_iff_eq.mpr c16
                clear c16
                (first | rw [c16b0] | (simp only [i64_w, i32_w]; rw [c16b0]) | rw [c16b3] | skip)
                have H' := Aside0.mk H
                clear H
                go_wp2
                go_meet
                case rel => exact ⟨_, ((⟨#[]⟩ : ByteArray)), (by first | rfl | (simp; done) | (simp [*]; done)), H', ⟨by have := HJ8.out; first | omega | exact Nat.le_refl _⟩, ⟨by (with_reducible repeat (first | apply Kd.R_alloc | apply Kd.R_drewN | apply Kd.R_drew)); exact HO_3.out⟩, ⟨by (with_reducible repeat (first | refine blk_drewN ?_ _ | refine blk_drew ?_ | refine blk_alloc ?_ _)); exact BK164.out⟩, ⟨by repeat (first | (with_reducible first | exact HB.out | apply below_alloc | apply pw_below_drewN | apply below_drew1 | refine below_set ?_ GE164.out) | exact HB.out)⟩⟩
              · rw [if_neg c16] at H
                have c16b0 : ((rdOf ByteArray.empty t165 1).toList == ([91, 110, 111, 86, 101, 114, 93] : List UInt8)) = false := beq_eq_false_iff_ne.mpr c16
                have c16b1 : ((rdOf ByteArray.empty t165 1).toList != ([91, 110, 111, 86, 101, 114, 93] : List UInt8)) = true := bne_iff_ne.mpr c16
                (first | rw [c16b0] | (simp only [i64_w, i32_w]; rw [c16b0]) | rw [c16b3] | skip)
                have H' := Aside0.mk H
                clear H
                go_wp2
                go_meet
                case rel => exact ⟨_, (rdOf ByteArray.empty t165 1), (by first | rfl | (simp; done) | (simp [*]; done)), H', ⟨by have := HJ8.out; first | omega | exact Nat.le_refl _⟩, ⟨by (with_reducible repeat (first | apply Kd.R_alloc | apply Kd.R_drewN | apply Kd.R_drew)); exact HO_3.out⟩, ⟨by (with_reducible repeat (first | refine blk_drewN ?_ _ | refine blk_drew ?_ | refine blk_alloc ?_ _)); exact BK164.out⟩, ⟨by repeat (first | (with_reducible first | exact HB.out | apply below_alloc | apply pw_below_drewN | apply below_drew1 | refine below_set ?_ GE164.out) | exact HB.out)⟩⟩
            case rest =>
              clear HC15
              try clear c1
              try clear p1
              try clear q1
              try clear hx1
              try clear qi1
              try clear p2
              try clear c3
              try clear c3b0
              try clear c3b1
              try clear c4
              try clear c8
              try clear c8b0
              try clear c8b1
              try clear c13
              try clear c13b0
              try clear c13b1
              try clear c14
              try clear c14b0
              try clear c14b1
              try clear c16
              try clear c16b0
              try clear c16b1
              try clear p16
              try clear q16
              try clear hx16
              try clear qi16
              try clear hcz7_0
              try clear hcz7_1
              try clear hcz7_2
              try clear hcz7_3
              try clear hfz7_0
              try clear hfz7_1
              try clear hfz7_2
              try clear hfz7_3
              try clear hx168_0
              try clear hx169_0
              try clear p1
              try clear p168
              try clear p169
              try clear p2
              try clear q1
              try clear q168
              try clear q169
              obtain ⟨kq, x5_14, rfl, HA, HJ14, HO_3, BK164, HB⟩ := hcut
              cases kq with
              | zero => exact absurd HA.out (by simp [resid_GvkFromString.j1])
              | succ kj14 =>
                have H := HA.out
                clear HA
                simp only [resid_GvkFromString.j1] at H
                by_cases c17 : 2 ≤ (t165.length : Int)
                · rw [if_pos c17] at H
                  have c17b0 := eq_true c17
                  have c17b1 : decide (2 ≤ (t165.length : Int)) = true := decide_eq_true c17
                  clear c17
                  obtain ⟨y170, hy170⟩ : ∃ y_ : List ByteArray, y_ = (t165.drop 2) := ⟨_, rfl⟩
                  replace H : ((strings_Join.f y170 (⟨#[46]⟩ : ByteArray)).bind fun t174 => (if t174.toList = ([91, 110, 111, 71, 114, 112, 93] : List UInt8) then ((resid_NewGvk.f (⟨#[]⟩ : ByteArray) x5_14 x4_8).bind fun bt175 => (some (bt175.1, bt175.2.1, bt175.2.2.1, bt175.2.2.2))) else ((resid_NewGvk.f t174 x5_14 x4_8).bind fun bt179 => (some (bt179.1, bt179.2.1, bt179.2.2.1, bt179.2.2.2))))) = some (r1, r2, r3, r4) := by first | (rw [hy170]; with_reducible exact H) | (have H2_ := (Option.bind_some _ _).symm.trans H; rw [hy170]; with_reducible exact H2_) | (have H2_ := (Option.bind_some _ _).symm.trans H; with_reducible exact H2_) | with_reducible exact H | (rw [hy170]; exact H) | exact H
                  have Ny170 := Aside0.mk hy170
                  clear hy170
                  replace H := Option.bind_eq_some_iff.mp H
                  obtain ⟨t174, A180, H⟩ := H
                  replace H : (if t174.toList = ([91, 110, 111, 71, 114, 112, 93] : List UInt8) then ((resid_NewGvk.f (⟨#[]⟩ : ByteArray) x5_14 x4_8).bind fun bt175 => (some (bt175.1, bt175.2.1, bt175.2.2.1, bt175.2.2.2))) else ((resid_NewGvk.f t174 x5_14 x4_8).bind fun bt179 => (some (bt179.1, bt179.2.1, bt179.2.2.1, bt179.2.2.2)))) = some (r1, r2, r3, r4) := H
                  have A18 := Aside0.mk A180
                  clear A180
                  by_cases c19 : t174.toList = ([91, 110, 111, 71, 114, 112, 93] : List UInt8)
                  · rw [if_pos c19] at H
                    have c19b0 : (t174.toList == ([91, 110, 111, 71, 114, 112, 93] : List UInt8)) = true := beq_iff_eq.mpr c19
                    have c19b1 : (t174.toList != ([91, 110, 111, 71, 114, 112, 93] : List UInt8)) = false := bne_eq_false_iff_eq.mpr c19
                    clear c19
                    replace H := Option.bind_eq_some_iff.mp H
                    obtain ⟨⟨t175, t176, t177, t178⟩, A200, H⟩ := H
                    replace H : (some (t175, t176, t177, t178)) = some (r1, r2, r3, r4) := H
                    have A20 := Aside0.mk A200
                    clear A200
                    simp only [Option.some.injEq, Prod.mk.injEq] at H
                    obtain ⟨rfl, rfl, rfl, rfl⟩ := H
                    have q21 : (2 : Int) ≤ ((t165.length : Int) : Int) := of_decide_eq_true (by first | (with_reducible assumption) | assumption)
                    obtain ⟨i021, hi021, _, hsz21, _⟩ := info_parts info9
                    have hroom21 : t165.length ≤ co12 := (Kd.R_reads' HO_3.out).2.1
                    have hC21 : Kd.C Kd.string _ (some ad168) t165.length t165 := (Kd.R_reads' HO_3.out).2.2
                    have hcut21 := cut_from (P := Try.prog) 27 9 .i64 Try.underlying27 hi021 1 hsz21 (some ad168) t165.length co12 2 (by omega) q21
                    have hr21 := Kd.C_drop (m := (2 : Int).toNat) (c := co12) hC21 (by omega) hroom21
                    obtain ⟨A21, hA21⟩ : ∃ A1, A1 = (if co12 = (2 : Int).toNat then (some ad168) else ((some ad168) : Option Addr).map (·.add ((2 : Int).toNat * 1))) := ⟨_, rfl⟩
                    obtain ⟨c21, hc21⟩ : ∃ c1, c1 = co12 - (2 : Int).toNat := ⟨_, rfl⟩
                    have hy21 : y170.length = t165.length - (2 : Int).toNat := (by rw [Ny170.out, List.length_drop] <;> omega)
                    rw [show (t165).drop (2 : Int).toNat = y170 from Ny170.out.symm] at hr21
                    replace hr21 : Kd.C Kd.string _ A21 y170.length y170 := (by rw [hA21]; exact hr21)
                    rw [← hy21, ← hA21, ← hc21] at hcut21
                    have HR173 := Aside0.mk hr21
                    have HC173 := Aside0.mk (show y170.length ≤ c21 from by rw [hy21, hc21]; exact Nat.sub_le_sub_right hroom21 _)
                    clear hr21 hC21 hroom21 hi021 hsz21 hc21
                    have KY21 := Aside0.mk hy21
                    have KA21 := Aside0.mk hA21
                    clear hy21 hA21
                    have KL21 := Aside0.mk (show 2 ≤ t165.length from by omega)
                    replace q21 := eq_true q21
                    go_wp2_with (first | ((with_reducible refine gate_callee (f := 44) rfl ?_); refine goesL_ (some 25) rfl rfl Try.func44 (by kernel_rfl) rfl #[.slice A21 y170.length c21, .string (⟨#[46]⟩ : ByteArray)] rfl (by (try simp only [List.map_toArray, List.map_cons, List.map_nil]); first | done | rfl | (simp only [List.length_drop, List.length_take]; rfl)) ?_; (with_reducible refine (strings_Join.calls _ _ y170 (⟨#[46]⟩ : ByteArray) t174 _ ?side1 ?side2 A18.out).mono ?_); (case side1 => repeat (first | exact (by repeat (first | (with_reducible exact HR173.out) | (with_reducible refine Kd.C_alloc ?_ _) | (with_reducible refine Kd.C_drewN ?_ _) | (with_reducible refine Kd.C_drew ?_) | exact HR173.out)) | (with_reducible refine Kd.C_alloc ?_ _) | (with_reducible refine Kd.C_drewN ?_ _) | (with_reducible refine Kd.C_drew ?_))); (case side2 => exact HC173.out); rintro e w22 ⟨rfl, hb⟩; refine ⟨_, rfl, ?_⟩; have n0_ := Aside0.mk (Kd.R_below (by (with_reducible repeat (first | apply Kd.R_alloc | apply Kd.R_drewN | apply Kd.R_drew)); exact HO_3.out) hb); have n1_ := Aside0.mk (blk_below (g := gb164) (o := .cells #[.string (⟨#[]⟩ : ByteArray), .string (⟨#[]⟩ : ByteArray), .string (⟨#[]⟩ : ByteArray), .bool false] 57 (0, 0)) (by (with_reducible repeat (first | refine blk_drewN ?_ _ | refine blk_drew ?_ | refine blk_alloc ?_ _)); exact BK164.out) hb); have n2_ := Aside0.mk (Kd.C_below (by repeat (first | (with_reducible exact HR173.out) | (with_reducible refine Kd.C_alloc ?_ _) | (with_reducible refine Kd.C_drewN ?_ _) | (with_reducible refine Kd.C_drew ?_) | exact HR173.out)) hb); have n3_ := Aside0.mk (below_step (by repeat (first | (with_reducible first | exact HB.out | apply below_alloc | apply pw_below_drewN | apply below_drew1 | refine below_set ?_ GE164.out) | exact HB.out)) hb); clear HO_3; clear BK164; clear HR173; clear HB; have HO_3 := n0_; have BK164 := n1_; have HR173 := n2_; have HB := n3_; clear n0_ n1_ n2_ n3_; (try clear hb); (try clear hb2); (try clear hk); (try clear hi)) | ((with_reducible refine gate_callee (f := 45) rfl ?_); refine goesL_ (some 31) rfl rfl Try.func45 (by kernel_rfl) rfl #[.string (⟨#[]⟩ : ByteArray), .string x5_14, .string x4_8] rfl (by (try simp only [List.map_toArray, List.map_cons, List.map_nil]); first | done | rfl | (simp only [List.length_drop, List.length_take]; rfl)) ?_; (with_reducible refine (resid_NewGvk.calls (⟨#[]⟩ : ByteArray) x5_14 x4_8 t175 t176 t177 t178 _ A20.out).mono ?_); rintro e w23 ⟨rfl, hb⟩; refine ⟨_, rfl, ?_⟩; have n0_ := Aside0.mk (Kd.R_below (by (with_reducible repeat (first | apply Kd.R_alloc | apply Kd.R_drewN | apply Kd.R_drew)); exact HO_3.out) hb); have n1_ := Aside0.mk (blk_below (g := gb164) (o := .cells #[.string (⟨#[]⟩ : ByteArray), .string (⟨#[]⟩ : ByteArray), .string (⟨#[]⟩ : ByteArray), .bool false] 57 (0, 0)) (by (with_reducible repeat (first | refine blk_drewN ?_ _ | refine blk_drew ?_ | refine blk_alloc ?_ _)); exact BK164.out) hb); have n2_ := Aside0.mk (Kd.C_below (by repeat (first | (with_reducible exact HR173.out) | (with_reducible refine Kd.C_alloc ?_ _) | (with_reducible refine Kd.C_drewN ?_ _) | (with_reducible refine Kd.C_drew ?_) | exact HR173.out)) hb); have n3_ := Aside0.mk (below_step (by repeat (first | (with_reducible first | exact HB.out | apply below_alloc | apply pw_below_drewN | apply below_drew1 | refine below_set ?_ GE164.out) | exact HB.out)) hb); clear HO_3; clear BK164; clear HR173; clear HB; have HO_3 := n0_; have BK164 := n1_; have HR173 := n2_; have HB := n3_; clear n0_ n1_ n2_ n3_; (try clear hb); (try clear hb2); (try clear hk); (try clear hi); have hcz24_0 : w23.cell? ⟨gb164, 0, none⟩ = some (.string (⟨#[]⟩ : ByteArray)) := (blk_cell BK164.out 0).trans rfl; have hcz24_1 : w23.cell? ⟨gb164, 1, none⟩ = some (.string (⟨#[]⟩ : ByteArray)) := (blk_cell BK164.out 1).trans rfl; have hcz24_2 : w23.cell? ⟨gb164, 2, none⟩ = some (.string (⟨#[]⟩ : ByteArray)) := (blk_cell BK164.out 2).trans rfl; have hcz24_3 : w23.cell? ⟨gb164, 3, none⟩ = some (.bool false) := (blk_cell BK164.out 3).trans rfl; have hfz24_0 := blk_frozen BK164.out 0; have hfz24_1 := blk_frozen BK164.out 1; have hfz24_2 := blk_frozen BK164.out 2; have hfz24_3 := blk_frozen BK164.out 3))
                    refine bodyPost_ret (results_cell_row rfl _ _ gb164 57 #[.string t175, .string t176, .string t177, .bool t178] (0, 0) _ rfl (by (with_reducible repeat (first | refine blk_drewN ?_ _ | refine blk_drew ?_ | refine blk_alloc ?_ _)); refine blk_put (cs := #[.string t175, .string t176, .string t177, .bool false]) ?_ 3 _ rfl; (with_reducible repeat (first | refine blk_drewN ?_ _ | refine blk_drew ?_ | refine blk_alloc ?_ _)); refine blk_put (cs := #[.string t175, .string t176, .string (⟨#[]⟩ : ByteArray), .bool false]) ?_ 2 _ rfl; (with_reducible repeat (first | refine blk_drewN ?_ _ | refine blk_drew ?_ | refine blk_alloc ?_ _)); refine blk_put (cs := #[.string t175, .string (⟨#[]⟩ : ByteArray), .string (⟨#[]⟩ : ByteArray), .bool false]) ?_ 1 _ rfl; (with_reducible repeat (first | refine blk_drewN ?_ _ | refine blk_drew ?_ | refine blk_alloc ?_ _)); refine blk_put (cs := #[.string (⟨#[]⟩ : ByteArray), .string (⟨#[]⟩ : ByteArray), .string (⟨#[]⟩ : ByteArray), .bool false]) ?_ 0 _ rfl; (with_reducible repeat (first | refine blk_drewN ?_ _ | refine blk_drew ?_ | refine blk_alloc ?_ _)); exact BK164.out) Try.underlying57 rfl (by kernel_rfl)) rfl ?_
                    exact ⟨by first | rfl | (simp [errW_none, errW_some] <;> rfl) | (simp [*, errW_none, errW_some] <;> rfl), by repeat (first | (with_reducible first | exact HB.out | apply below_alloc | apply pw_below_drewN | apply below_drew1 | refine below_set ?_ GE164.out) | exact HB.out)⟩
                  · rw [if_neg c19] at H
                    have c19b0 : (t174.toList == ([91, 110, 111, 71, 114, 112, 93] : List UInt8)) = false := beq_eq_false_iff_ne.mpr c19
                    have c19b1 : (t174.toList != ([91, 110, 111, 71, 114, 112, 93] : List UInt8)) = true := bne_iff_ne.mpr c19
                    replace H := Option.bind_eq_some_iff.mp H
                    obtain ⟨⟨t179, t180, t181, t182⟩, A250, H⟩ := H
                    replace H : (some (t179, t180, t181, t182)) = some (r1, r2, r3, r4) := H
                    have A25 := Aside0.mk A250
                    clear A250
                    simp only [Option.some.injEq, Prod.mk.injEq] at H
                    obtain ⟨rfl, rfl, rfl, rfl⟩ := H
                    have q26 : (2 : Int) ≤ ((t165.length : Int) : Int) := of_decide_eq_true (by first | (with_reducible assumption) | assumption)
                    obtain ⟨i026, hi026, _, hsz26, _⟩ := info_parts info9
                    have hroom26 : t165.length ≤ co12 := (Kd.R_reads' HO_3.out).2.1
                    have hC26 : Kd.C Kd.string _ (some ad168) t165.length t165 := (Kd.R_reads' HO_3.out).2.2
                    have hcut26 := cut_from (P := Try.prog) 27 9 .i64 Try.underlying27 hi026 1 hsz26 (some ad168) t165.length co12 2 (by omega) q26
                    have hr26 := Kd.C_drop (m := (2 : Int).toNat) (c := co12) hC26 (by omega) hroom26
                    obtain ⟨A26, hA26⟩ : ∃ A1, A1 = (if co12 = (2 : Int).toNat then (some ad168) else ((some ad168) : Option Addr).map (·.add ((2 : Int).toNat * 1))) := ⟨_, rfl⟩
                    obtain ⟨c26, hc26⟩ : ∃ c1, c1 = co12 - (2 : Int).toNat := ⟨_, rfl⟩
                    have hy26 : y170.length = t165.length - (2 : Int).toNat := (by rw [Ny170.out, List.length_drop] <;> omega)
                    rw [show (t165).drop (2 : Int).toNat = y170 from Ny170.out.symm] at hr26
                    replace hr26 : Kd.C Kd.string _ A26 y170.length y170 := (by rw [hA26]; exact hr26)
                    rw [← hy26, ← hA26, ← hc26] at hcut26
                    have HR173 := Aside0.mk hr26
                    have HC173 := Aside0.mk (show y170.length ≤ c26 from by rw [hy26, hc26]; exact Nat.sub_le_sub_right hroom26 _)
                    clear hr26 hC26 hroom26 hi026 hsz26 hc26
                    have KY26 := Aside0.mk hy26
                    have KA26 := Aside0.mk hA26
                    clear hy26 hA26
                    have KL26 := Aside0.mk (show 2 ≤ t165.length from by omega)
                    replace q26 := eq_true q26
                    go_wp2_with (first | ((with_reducible refine gate_callee (f := 44) rfl ?_); refine goesL_ (some 25) rfl rfl Try.func44 (by kernel_rfl) rfl #[.slice A26 y170.length c26, .string (⟨#[46]⟩ : ByteArray)] rfl (by (try simp only [List.map_toArray, List.map_cons, List.map_nil]); first | done | rfl | (simp only [List.length_drop, List.length_take]; rfl)) ?_; (with_reducible refine (strings_Join.calls _ _ y170 (⟨#[46]⟩ : ByteArray) t174 _ ?side1 ?side2 A18.out).mono ?_); (case side1 => repeat (first | exact (by repeat (first | (with_reducible exact HR173.out) | (with_reducible refine Kd.C_alloc ?_ _) | (with_reducible refine Kd.C_drewN ?_ _) | (with_reducible refine Kd.C_drew ?_) | exact HR173.out)) | (with_reducible refine Kd.C_alloc ?_ _) | (with_reducible refine Kd.C_drewN ?_ _) | (with_reducible refine Kd.C_drew ?_))); (case side2 => exact HC173.out); rintro e w27 ⟨rfl, hb⟩; refine ⟨_, rfl, ?_⟩; have n0_ := Aside0.mk (Kd.R_below (by (with_reducible repeat (first | apply Kd.R_alloc | apply Kd.R_drewN | apply Kd.R_drew)); exact HO_3.out) hb); have n1_ := Aside0.mk (blk_below (g := gb164) (o := .cells #[.string (⟨#[]⟩ : ByteArray), .string (⟨#[]⟩ : ByteArray), .string (⟨#[]⟩ : ByteArray), .bool false] 57 (0, 0)) (by (with_reducible repeat (first | refine blk_drewN ?_ _ | refine blk_drew ?_ | refine blk_alloc ?_ _)); exact BK164.out) hb); have n2_ := Aside0.mk (Kd.C_below (by repeat (first | (with_reducible exact HR173.out) | (with_reducible refine Kd.C_alloc ?_ _) | (with_reducible refine Kd.C_drewN ?_ _) | (with_reducible refine Kd.C_drew ?_) | exact HR173.out)) hb); have n3_ := Aside0.mk (below_step (by repeat (first | (with_reducible first | exact HB.out | apply below_alloc | apply pw_below_drewN | apply below_drew1 | refine below_set ?_ GE164.out) | exact HB.out)) hb); clear HO_3; clear BK164; clear HR173; clear HB; have HO_3 := n0_; have BK164 := n1_; have HR173 := n2_; have HB := n3_; clear n0_ n1_ n2_ n3_; (try clear hb); (try clear hb2); (try clear hk); (try clear hi)) | ((with_reducible refine gate_callee (f := 45) rfl ?_); refine goesL_ (some 31) rfl rfl Try.func45 (by kernel_rfl) rfl #[.string t174, .string x5_14, .string x4_8] rfl (by (try simp only [List.map_toArray, List.map_cons, List.map_nil]); first | done | rfl | (simp only [List.length_drop, List.length_take]; rfl)) ?_; (with_reducible refine (resid_NewGvk.calls t174 x5_14 x4_8 t179 t180 t181 t182 _ A25.out).mono ?_); rintro e w28 ⟨rfl, hb⟩; refine ⟨_, rfl, ?_⟩; have n0_ := Aside0.mk (Kd.R_below (by (with_reducible repeat (first | apply Kd.R_alloc | apply Kd.R_drewN | apply Kd.R_drew)); exact HO_3.out) hb); have n1_ := Aside0.mk (blk_below (g := gb164) (o := .cells #[.string (⟨#[]⟩ : ByteArray), .string (⟨#[]⟩ : ByteArray), .string (⟨#[]⟩ : ByteArray), .bool false] 57 (0, 0)) (by (with_reducible repeat (first | refine blk_drewN ?_ _ | refine blk_drew ?_ | refine blk_alloc ?_ _)); exact BK164.out) hb); have n2_ := Aside0.mk (Kd.C_below (by repeat (first | (with_reducible exact HR173.out) | (with_reducible refine Kd.C_alloc ?_ _) | (with_reducible refine Kd.C_drewN ?_ _) | (with_reducible refine Kd.C_drew ?_) | exact HR173.out)) hb); have n3_ := Aside0.mk (below_step (by repeat (first | (with_reducible first | exact HB.out | apply below_alloc | apply pw_below_drewN | apply below_drew1 | refine below_set ?_ GE164.out) | exact HB.out)) hb); clear HO_3; clear BK164; clear HR173; clear HB; have HO_3 := n0_; have BK164 := n1_; have HR173 := n2_; have HB := n3_; clear n0_ n1_ n2_ n3_; (try clear hb); (try clear hb2); (try clear hk); (try clear hi); have hcz29_0 : w28.cell? ⟨gb164, 0, none⟩ = some (.string (⟨#[]⟩ : ByteArray)) := (blk_cell BK164.out 0).trans rfl; have hcz29_1 : w28.cell? ⟨gb164, 1, none⟩ = some (.string (⟨#[]⟩ : ByteArray)) := (blk_cell BK164.out 1).trans rfl; have hcz29_2 : w28.cell? ⟨gb164, 2, none⟩ = some (.string (⟨#[]⟩ : ByteArray)) := (blk_cell BK164.out 2).trans rfl; have hcz29_3 : w28.cell? ⟨gb164, 3, none⟩ = some (.bool false) := (blk_cell BK164.out 3).trans rfl; have hfz29_0 := blk_frozen BK164.out 0; have hfz29_1 := blk_frozen BK164.out 1; have hfz29_2 := blk_frozen BK164.out 2; have hfz29_3 := blk_frozen BK164.out 3))
                    refine bodyPost_ret (results_cell_row rfl _ _ gb164 57 #[.string t179, .string t180, .string t181, .bool t182] (0, 0) _ rfl (by (with_reducible repeat (first | refine blk_drewN ?_ _ | refine blk_drew ?_ | refine blk_alloc ?_ _)); refine blk_put (cs := #[.string t179, .string t180, .string t181, .bool false]) ?_ 3 _ rfl; (with_reducible repeat (first | refine blk_drewN ?_ _ | refine blk_drew ?_ | refine blk_alloc ?_ _)); refine blk_put (cs := #[.string t179, .string t180, .string (⟨#[]⟩ : ByteArray), .bool false]) ?_ 2 _ rfl; (with_reducible repeat (first | refine blk_drewN ?_ _ | refine blk_drew ?_ | refine blk_alloc ?_ _)); refine blk_put (cs := #[.string t179, .string (⟨#[]⟩ : ByteArray), .string (⟨#[]⟩ : ByteArray), .bool false]) ?_ 1 _ rfl; (with_reducible repeat (first | refine blk_drewN ?_ _ | refine blk_drew ?_ | refine blk_alloc ?_ _)); refine blk_put (cs := #[.string (⟨#[]⟩ : ByteArray), .string (⟨#[]⟩ : ByteArray), .string (⟨#[]⟩ : ByteArray), .bool false]) ?_ 0 _ rfl; (with_reducible repeat (first | refine blk_drewN ?_ _ | refine blk_drew ?_ | refine blk_alloc ?_ _)); exact BK164.out) Try.underlying57 rfl (by kernel_rfl)) rfl ?_
                    exact ⟨by first | rfl | (simp [errW_none, errW_some] <;> rfl) | (simp [*, errW_none, errW_some] <;> rfl), by repeat (first | (with_reducible first | exact HB.out | apply below_alloc | apply pw_below_drewN | apply below_drew1 | refine below_set ?_ GE164.out) | exact HB.out)⟩
                · rw [if_neg c17] at H
                  exact absurd H (by simp)
          · rw [if_neg c14] at H
            exact absurd H (by simp)
    · rw [if_neg c8] at H
      exact absurd H (by simp)

/-! ### impl_GvkOf: function 19 -/
def impl_GvkOf.f (k : Nat) (a0 : ByteArray) : Option (ByteArray × ByteArray × ByteArray × ByteArray × ByteArray) := (resid_GvkFromString.f k a0).bind fun bt184 => (some (bt184.1, bt184.2.1, bt184.2.2.1, (⟨#[]⟩ : ByteArray), (⟨#[]⟩ : ByteArray)))
theorem impl_GvkOf.mono : ∀ a0 k, LeO (impl_GvkOf.f k a0) (impl_GvkOf.f (k + 1) a0) := by
  intro a0 k
  unfold impl_GvkOf.f
  repeat' first
      | (with_reducible exact resid_GvkFromString.mono _ _)
      | (with_reducible exact LeO.refl _)
      | (with_reducible exact LeO.none _)
      | (with_reducible refine LeO.ite ?_ ?_)
      | (with_reducible refine LeO.bind ?_ (fun _ => ?_))
      | exact resid_GvkFromString.mono _ _
      | exact LeO.none _
      | refine LeO.ite ?_ ?_
      | refine LeO.bind ?_ (fun _ => ?_)
set_option maxHeartbeats 8000000 in
set_option maxRecDepth 100000 in
theorem impl_GvkOf.calls (k : Nat) (a0 : ByteArray) (r1 : ByteArray) (r2 : ByteArray) (r3 : ByteArray) (r4 : ByteArray) (r5 : ByteArray) (w : World) (h : impl_GvkOf.f k a0 = some (r1, r2, r3, r4, r5)) :
    Calls Try.prog 19 #[.string a0] w fun e w' => e = .returned (.agg #[.string r1, .string r2, .string r3, .string r4, .string r5]) ∧ Below w.heap.size w w' := by
  have hu39 := Try.underlying39
  have hu57 := Try.underlying57
  have HB := Aside0.mk (Below.refl w.heap.size w)
  have H : ((resid_GvkFromString.f k a0).bind fun bt184 => (some (bt184.1, bt184.2.1, bt184.2.2.1, (⟨#[]⟩ : ByteArray), (⟨#[]⟩ : ByteArray)))) = some (r1, r2, r3, r4, r5) := h
  clear h
  replace H := Option.bind_eq_some_iff.mp H
  obtain ⟨⟨t184, t185, t186, t187⟩, A20, H⟩ := H
  replace H : (some (t184, t185, t186, (⟨#[]⟩ : ByteArray), (⟨#[]⟩ : ByteArray))) = some (r1, r2, r3, r4, r5) := H
  have A2 := Aside0.mk A20
  clear A20
  simp only [Option.some.injEq, Prod.mk.injEq] at H
  obtain ⟨rfl, rfl, rfl, rfl, rfl⟩ := H
  go_enter Try.func19, Try.ntmps19
  go_wp2_with (first | ((with_reducible refine gate_dst (N := 2) rfl ?_); refine box_event ?hg (N := 2) ?hd (cs := #[.string (⟨#[]⟩ : ByteArray), .string (⟨#[]⟩ : ByteArray), .string (⟨#[]⟩ : ByteArray), .string (⟨#[]⟩ : ByteArray), .string (⟨#[]⟩ : ByteArray)]) (t := 39) ?hr ?_; (case hd => rfl); (case hg => rfl); (case hr => first | (go_simp; done) | (go_simp; rfl)); intro gb183 hg w3 hbox hb; have n0_ := Aside0.mk (below_step (by repeat (first | (with_reducible first | exact HB.out | apply below_alloc | apply pw_below_drewN | apply below_drew1) | exact HB.out)) hb); have n1_ := Aside0.mk (hbox); have n2_ := Aside0.mk ((by rw [hg]; exact (below_size (by repeat (first | (with_reducible first | exact HB.out | apply below_alloc | apply pw_below_drewN | apply below_drew1) | exact HB.out))) : w.heap.size ≤ gb183)); have n3_ := Aside0.mk ((by rw [hg]; exact (below_size (by repeat (first | (with_reducible first | exact HB.out | apply below_alloc | apply pw_below_drewN | apply below_drew1) | exact HB.out))) : w.heap.size ≤ gb183)); clear HB; have HB := n0_; have BK183 := n1_; have GW183 := n2_; have GE183 := n3_; clear n0_ n1_ n2_ n3_; clear hb hbox hg) | ((with_reducible refine gate_callee (f := 31) rfl ?_); refine goesL_ (some 5) rfl rfl Try.func31 (by kernel_rfl) rfl #[.string a0] rfl (by (try simp only [List.map_toArray, List.map_cons, List.map_nil]); first | done | rfl | (simp only [List.length_drop, List.length_take]; rfl)) ?_; (with_reducible refine (resid_GvkFromString.calls k a0 t184 t185 t186 t187 _ A2.out).mono ?_); rintro e w4 ⟨rfl, hb⟩; refine ⟨_, rfl, ?_⟩; have n0_ := Aside0.mk (blk_below (g := gb183) (o := .cells #[.string (⟨#[]⟩ : ByteArray), .string (⟨#[]⟩ : ByteArray), .string (⟨#[]⟩ : ByteArray), .string (⟨#[]⟩ : ByteArray), .string (⟨#[]⟩ : ByteArray)] 39 (0, 0)) (by (with_reducible repeat (first | refine blk_drewN ?_ _ | refine blk_drew ?_ | refine blk_alloc ?_ _)); exact BK183.out) hb); have n1_ := Aside0.mk (below_step (by repeat (first | (with_reducible first | exact HB.out | apply below_alloc | apply pw_below_drewN | apply below_drew1 | refine below_set ?_ GE183.out) | exact HB.out)) hb); clear BK183; clear HB; have BK183 := n0_; have HB := n1_; clear n0_ n1_; (try clear hb); (try clear hb2); (try clear hk); (try clear hi)) | ((with_reducible refine gate_dst (N := 3) rfl ?_); refine box_event ?hg (N := 3) ?hd (cs := #[.string (⟨#[]⟩ : ByteArray), .string (⟨#[]⟩ : ByteArray), .string (⟨#[]⟩ : ByteArray), .bool false]) (t := 57) ?hr ?_; (case hd => rfl); (case hg => rfl); (case hr => first | (go_simp; done) | (go_simp; rfl)); intro gb188 hg w5 hbox hb; have n0_ := Aside0.mk (blk_below (g := gb183) (o := .cells #[.string (⟨#[]⟩ : ByteArray), .string (⟨#[]⟩ : ByteArray), .string (⟨#[]⟩ : ByteArray), .string (⟨#[]⟩ : ByteArray), .string (⟨#[]⟩ : ByteArray)] 39 (0, 0)) (by (with_reducible repeat (first | refine blk_drewN ?_ _ | refine blk_drew ?_ | refine blk_alloc ?_ _)); exact BK183.out) hb); have n1_ := Aside0.mk (below_step (by repeat (first | (with_reducible first | exact HB.out | apply below_alloc | apply pw_below_drewN | apply below_drew1 | refine below_set ?_ GE183.out) | exact HB.out)) hb); have n2_ := Aside0.mk (hbox); have n3_ := Aside0.mk ((by rw [hg]; exact (below_size (by repeat (first | (with_reducible first | exact HB.out | apply below_alloc | apply pw_below_drewN | apply below_drew1 | refine below_set ?_ GE183.out) | exact HB.out))) : w.heap.size ≤ gb188)); have n4_ := Aside0.mk ((by rw [hg]; exact (below_size (by repeat (first | (with_reducible first | exact HB.out | apply below_alloc | apply pw_below_drewN | apply below_drew1 | refine below_set ?_ GE183.out) | exact HB.out))) : w.heap.size ≤ gb188)); have n5_ := Aside0.mk ((by rw [hg]; exact Nat.ne_of_lt (blk_lt (g := gb183) (o := .cells #[.string (⟨#[]⟩ : ByteArray), .string (⟨#[]⟩ : ByteArray), .string (⟨#[]⟩ : ByteArray), .string (⟨#[]⟩ : ByteArray), .string (⟨#[]⟩ : ByteArray)] 39 (0, 0)) (by (with_reducible repeat (first | refine blk_drewN ?_ _ | refine blk_drew ?_ | refine blk_alloc ?_ _)); exact BK183.out)) : gb183 ≠ gb188)); have n6_ := Aside0.mk ((by rw [hg]; exact Nat.ne_of_gt (blk_lt (g := gb183) (o := .cells #[.string (⟨#[]⟩ : ByteArray), .string (⟨#[]⟩ : ByteArray), .string (⟨#[]⟩ : ByteArray), .string (⟨#[]⟩ : ByteArray), .string (⟨#[]⟩ : ByteArray)] 39 (0, 0)) (by (with_reducible repeat (first | refine blk_drewN ?_ _ | refine blk_drew ?_ | refine blk_alloc ?_ _)); exact BK183.out)) : gb188 ≠ gb183)); clear BK183; clear HB; have BK183 := n0_; have HB := n1_; have BK188 := n2_; have GW188 := n3_; have GE188 := n4_; have NB183_188 := n5_; have NB188_183 := n6_; clear n0_ n1_ n2_ n3_ n4_ n5_ n6_; clear hb hbox hg; have hnb6 := NB188_183.out; have hnc6 := NB183_188.out; have hcz7_0 : w5.cell? ⟨gb188, 0, none⟩ = some (.string (⟨#[]⟩ : ByteArray)) := (blk_cell BK188.out 0).trans rfl; have hcz7_1 : w5.cell? ⟨gb188, 1, none⟩ = some (.string (⟨#[]⟩ : ByteArray)) := (blk_cell BK188.out 1).trans rfl; have hcz7_2 : w5.cell? ⟨gb188, 2, none⟩ = some (.string (⟨#[]⟩ : ByteArray)) := (blk_cell BK188.out 2).trans rfl; have hcz7_3 : w5.cell? ⟨gb188, 3, none⟩ = some (.bool false) := (blk_cell BK188.out 3).trans rfl; have hfz7_0 := blk_frozen BK188.out 0; have hfz7_1 := blk_frozen BK188.out 1; have hfz7_2 := blk_frozen BK188.out 2; have hfz7_3 := blk_frozen BK188.out 3; have hcz8_0 : w5.cell? ⟨gb183, 0, none⟩ = some (.string (⟨#[]⟩ : ByteArray)) := (blk_cell BK183.out 0).trans rfl; have hcz8_1 : w5.cell? ⟨gb183, 1, none⟩ = some (.string (⟨#[]⟩ : ByteArray)) := (blk_cell BK183.out 1).trans rfl; have hcz8_2 : w5.cell? ⟨gb183, 2, none⟩ = some (.string (⟨#[]⟩ : ByteArray)) := (blk_cell BK183.out 2).trans rfl; have hcz8_3 : w5.cell? ⟨gb183, 3, none⟩ = some (.string (⟨#[]⟩ : ByteArray)) := (blk_cell BK183.out 3).trans rfl; have hcz8_4 : w5.cell? ⟨gb183, 4, none⟩ = some (.string (⟨#[]⟩ : ByteArray)) := (blk_cell BK183.out 4).trans rfl; have hfz8_0 := blk_frozen BK183.out 0; have hfz8_1 := blk_frozen BK183.out 1; have hfz8_2 := blk_frozen BK183.out 2; have hfz8_3 := blk_frozen BK183.out 3; have hfz8_4 := blk_frozen BK183.out 4))
  refine bodyPost_ret (results_cell_row rfl _ _ gb183 39 #[.string t184, .string t185, .string t186, .string (⟨#[]⟩ : ByteArray), .string (⟨#[]⟩ : ByteArray)] (0, 0) _ rfl (by (with_reducible repeat (first | refine blk_drewN ?_ _ | refine blk_drew ?_ | refine blk_alloc ?_ _)); refine blk_put (cs := #[.string t184, .string t185, .string t186, .string (⟨#[]⟩ : ByteArray), .string (⟨#[]⟩ : ByteArray)]) ?_ 4 _ rfl; (with_reducible repeat (first | refine blk_drewN ?_ _ | refine blk_drew ?_ | refine blk_alloc ?_ _)); refine blk_put (cs := #[.string t184, .string t185, .string t186, .string (⟨#[]⟩ : ByteArray), .string (⟨#[]⟩ : ByteArray)]) ?_ 3 _ rfl; (with_reducible repeat (first | refine blk_drewN ?_ _ | refine blk_drew ?_ | refine blk_alloc ?_ _)); refine blk_put (cs := #[.string t184, .string t185, .string (⟨#[]⟩ : ByteArray), .string (⟨#[]⟩ : ByteArray), .string (⟨#[]⟩ : ByteArray)]) ?_ 2 _ rfl; (with_reducible repeat (first | refine blk_drewN ?_ _ | refine blk_drew ?_ | refine blk_alloc ?_ _)); refine blk_put (cs := #[.string t184, .string (⟨#[]⟩ : ByteArray), .string (⟨#[]⟩ : ByteArray), .string (⟨#[]⟩ : ByteArray), .string (⟨#[]⟩ : ByteArray)]) ?_ 1 _ rfl; (with_reducible repeat (first | refine blk_drewN ?_ _ | refine blk_drew ?_ | refine blk_alloc ?_ _)); refine blk_put (cs := #[.string (⟨#[]⟩ : ByteArray), .string (⟨#[]⟩ : ByteArray), .string (⟨#[]⟩ : ByteArray), .string (⟨#[]⟩ : ByteArray), .string (⟨#[]⟩ : ByteArray)]) ?_ 0 _ rfl; (with_reducible repeat (first | refine blk_drewN ?_ _ | refine blk_drew ?_ | refine blk_alloc ?_ _)); refine blk_far ?_ NB183_188.out _; (with_reducible repeat (first | refine blk_drewN ?_ _ | refine blk_drew ?_ | refine blk_alloc ?_ _)); refine blk_far ?_ NB183_188.out _; (with_reducible repeat (first | refine blk_drewN ?_ _ | refine blk_drew ?_ | refine blk_alloc ?_ _)); refine blk_far ?_ NB183_188.out _; (with_reducible repeat (first | refine blk_drewN ?_ _ | refine blk_drew ?_ | refine blk_alloc ?_ _)); refine blk_far ?_ NB183_188.out _; (with_reducible repeat (first | refine blk_drewN ?_ _ | refine blk_drew ?_ | refine blk_alloc ?_ _)); exact BK183.out) Try.underlying39 rfl (by kernel_rfl)) rfl ?_
  exact ⟨by first | rfl | (simp [errW_none, errW_some] <;> rfl) | (simp [*, errW_none, errW_some] <;> rfl), by repeat (first | (with_reducible first | exact HB.out | apply below_alloc | apply pw_below_drewN | apply below_drew1 | refine below_set ?_ GE183.out | refine below_set ?_ GE188.out) | exact HB.out)⟩

/-! ### spec_kyOr: function 32 -/
def spec_kyOr.f (a0 : ByteArray) (a1 : ByteArray) : Option (ByteArray) := if a0.toList = ([] : List UInt8) then (some a1) else (some a0)
set_option maxHeartbeats 8000000 in
set_option maxRecDepth 100000 in
theorem spec_kyOr.calls (a0 : ByteArray) (a1 : ByteArray) (r : ByteArray) (w : World) (h : spec_kyOr.f a0 a1 = some r) :
    Calls Try.prog 32 #[.string a0, .string a1] w fun e w' => e = .returned (.string r) ∧ Drawn0 w w' := by
  have H : (if a0.toList = ([] : List UInt8) then (some a1) else (some a0)) = some r := h
  clear h
  by_cases c3 : a0.toList = ([] : List UInt8)
  · rw [if_pos c3] at H
    have c3b0 : (a0.toList == ([] : List UInt8)) = true := beq_iff_eq.mpr c3
    have c3b1 : (a0.toList != ([] : List UInt8)) = false := bne_eq_false_iff_eq.mpr c3
    (try (have c3b2 : a0.toList.isEmpty = true := by simpa using c3))
    (try (have c3b3 : (!a0.toList.isEmpty) = false := by simpa using c3))
    clear c3
    obtain rfl := Option.some.inj H
    go_enter Try.func32, Try.ntmps32
    go_wp2
    go_ret
    exact ⟨by first | rfl | (simp; done) | (simp [*]; done), by repeat (first | exact Drawn0.refl _ | apply Drawn0.step)⟩
  · rw [if_neg c3] at H
    have c3b0 : (a0.toList == ([] : List UInt8)) = false := beq_eq_false_iff_ne.mpr c3
    have c3b1 : (a0.toList != ([] : List UInt8)) = true := bne_iff_ne.mpr c3
    (try (have c3b2 : a0.toList.isEmpty = false := by simpa using c3))
    (try (have c3b3 : (!a0.toList.isEmpty) = true := by simpa using c3))
    obtain rfl := Option.some.inj H
    go_enter Try.func32, Try.ntmps32
    go_wp2
    go_ret
    exact ⟨by first | rfl | (simp; done) | (simp [*]; done), by repeat (first | exact Drawn0.refl _ | apply Drawn0.step)⟩

/-! ### spec_KyGvkText: function 20 -/
def spec_KyGvkText.f (a0_0 : ByteArray) (a0_1 : ByteArray) (a0_2 : ByteArray) (a0_3 : ByteArray) (a0_4 : ByteArray) : Option (ByteArray) := (spec_kyOr.f a0_2 (⟨#[91, 110, 111, 75, 105, 110, 100, 93]⟩ : ByteArray)).bind fun t190 => (if t190.size + 1 ≤ 9223372036854775807 then ((spec_kyOr.f a0_1 (⟨#[91, 110, 111, 86, 101, 114, 93]⟩ : ByteArray)).bind fun t191 => (if (t190 ++ (⟨#[46]⟩ : ByteArray)).size + t191.size ≤ 9223372036854775807 then (if ((t190 ++ (⟨#[46]⟩ : ByteArray)) ++ t191).size + 1 ≤ 9223372036854775807 then ((spec_kyOr.f a0_0 (⟨#[91, 110, 111, 71, 114, 112, 93]⟩ : ByteArray)).bind fun t192 => (if (((t190 ++ (⟨#[46]⟩ : ByteArray)) ++ t191) ++ (⟨#[46]⟩ : ByteArray)).size + t192.size ≤ 9223372036854775807 then (some ((((t190 ++ (⟨#[46]⟩ : ByteArray)) ++ t191) ++ (⟨#[46]⟩ : ByteArray)) ++ t192)) else (none))) else (none)) else (none))) else (none))
set_option maxHeartbeats 8000000 in
set_option maxRecDepth 100000 in
theorem spec_KyGvkText.calls (a0_0 : ByteArray) (a0_1 : ByteArray) (a0_2 : ByteArray) (a0_3 : ByteArray) (a0_4 : ByteArray) (r : ByteArray) (w : World) (h : spec_KyGvkText.f a0_0 a0_1 a0_2 a0_3 a0_4 = some r) :
    Calls Try.prog 20 #[.agg #[.string a0_0, .string a0_1, .string a0_2, .string a0_3, .string a0_4]] w fun e w' => e = .returned (.string r) ∧ Below w.heap.size w w' := by
  have hu39 := Try.underlying39
  have HB := Aside0.mk (Below.refl w.heap.size w)
  have H : ((spec_kyOr.f a0_2 (⟨#[91, 110, 111, 75, 105, 110, 100, 93]⟩ : ByteArray)).bind fun t190 => (if t190.size + 1 ≤ 9223372036854775807 then ((spec_kyOr.f a0_1 (⟨#[91, 110, 111, 86, 101, 114, 93]⟩ : ByteArray)).bind fun t191 => (if (t190 ++ (⟨#[46]⟩ : ByteArray)).size + t191.size ≤ 9223372036854775807 then (if ((t190 ++ (⟨#[46]⟩ : ByteArray)) ++ t191).size + 1 ≤ 9223372036854775807 then ((spec_kyOr.f a0_0 (⟨#[91, 110, 111, 71, 114, 112, 93]⟩ : ByteArray)).bind fun t192 => (if (((t190 ++ (⟨#[46]⟩ : ByteArray)) ++ t191) ++ (⟨#[46]⟩ : ByteArray)).size + t192.size ≤ 9223372036854775807 then (some ((((t190 ++ (⟨#[46]⟩ : ByteArray)) ++ t191) ++ (⟨#[46]⟩ : ByteArray)) ++ t192)) else (none))) else (none)) else (none))) else (none))) = some r := h
  clear h
  replace H := Option.bind_eq_some_iff.mp H
  obtain ⟨t190, A20, H⟩ := H
  replace H : (if t190.size + 1 ≤ 9223372036854775807 then ((spec_kyOr.f a0_1 (⟨#[91, 110, 111, 86, 101, 114, 93]⟩ : ByteArray)).bind fun t191 => (if (t190 ++ (⟨#[46]⟩ : ByteArray)).size + t191.size ≤ 9223372036854775807 then (if ((t190 ++ (⟨#[46]⟩ : ByteArray)) ++ t191).size + 1 ≤ 9223372036854775807 then ((spec_kyOr.f a0_0 (⟨#[91, 110, 111, 71, 114, 112, 93]⟩ : ByteArray)).bind fun t192 => (if (((t190 ++ (⟨#[46]⟩ : ByteArray)) ++ t191) ++ (⟨#[46]⟩ : ByteArray)).size + t192.size ≤ 9223372036854775807 then (some ((((t190 ++ (⟨#[46]⟩ : ByteArray)) ++ t191) ++ (⟨#[46]⟩ : ByteArray)) ++ t192)) else (none))) else (none)) else (none))) else (none)) = some r := H
  have A2 := Aside0.mk A20
  clear A20
  by_cases c3 : t190.size + 1 ≤ 9223372036854775807
  · rw [if_pos c3] at H
    have c3b0 := eq_true c3
    have c3b1 : decide (t190.size + 1 ≤ 9223372036854775807) = true := decide_eq_true c3
    try have c3b2 : (9223372036854775807 < t190.size + 1) = False := eq_false (Nat.not_lt.2 c3)
    replace H := Option.bind_eq_some_iff.mp H
    obtain ⟨t191, A40, H⟩ := H
    replace H : (if (t190 ++ (⟨#[46]⟩ : ByteArray)).size + t191.size ≤ 9223372036854775807 then (if ((t190 ++ (⟨#[46]⟩ : ByteArray)) ++ t191).size + 1 ≤ 9223372036854775807 then ((spec_kyOr.f a0_0 (⟨#[91, 110, 111, 71, 114, 112, 93]⟩ : ByteArray)).bind fun t192 => (if (((t190 ++ (⟨#[46]⟩ : ByteArray)) ++ t191) ++ (⟨#[46]⟩ : ByteArray)).size + t192.size ≤ 9223372036854775807 then (some ((((t190 ++ (⟨#[46]⟩ : ByteArray)) ++ t191) ++ (⟨#[46]⟩ : ByteArray)) ++ t192)) else (none))) else (none)) else (none)) = some r := H
    have A4 := Aside0.mk A40
    clear A40
    by_cases c5 : (t190 ++ (⟨#[46]⟩ : ByteArray)).size + t191.size ≤ 9223372036854775807
    · rw [if_pos c5] at H
      have c5b0 := eq_true c5
      have c5b1 : decide ((t190 ++ (⟨#[46]⟩ : ByteArray)).size + t191.size ≤ 9223372036854775807) = true := decide_eq_true c5
      try have c5b2 : (9223372036854775807 < (t190 ++ (⟨#[46]⟩ : ByteArray)).size + t191.size) = False := eq_false (Nat.not_lt.2 c5)
      try (have c5b3 := c5b2; rw [ByteArray.size_append] at c5b3)
      try (have c5b4 : (9223372036854775807 < t190.size + 1 + t191.size) = False := by have h_ := c5b2; simp only [ByteArray.size_append] at h_; exact h_)
      by_cases c6 : ((t190 ++ (⟨#[46]⟩ : ByteArray)) ++ t191).size + 1 ≤ 9223372036854775807
      · rw [if_pos c6] at H
        have c6b0 := eq_true c6
        have c6b1 : decide (((t190 ++ (⟨#[46]⟩ : ByteArray)) ++ t191).size + 1 ≤ 9223372036854775807) = true := decide_eq_true c6
        try have c6b2 : (9223372036854775807 < ((t190 ++ (⟨#[46]⟩ : ByteArray)) ++ t191).size + 1) = False := eq_false (Nat.not_lt.2 c6)
        try (have c6b3 := c6b2; rw [ByteArray.size_append] at c6b3)
        try (have c6b4 : (9223372036854775807 < t190.size + 1 + t191.size + 1) = False := by have h_ := c6b2; simp only [ByteArray.size_append] at h_; exact h_)
        replace H := Option.bind_eq_some_iff.mp H
        obtain ⟨t192, A70, H⟩ := H
        replace H : (if (((t190 ++ (⟨#[46]⟩ : ByteArray)) ++ t191) ++ (⟨#[46]⟩ : ByteArray)).size + t192.size ≤ 9223372036854775807 then (some ((((t190 ++ (⟨#[46]⟩ : ByteArray)) ++ t191) ++ (⟨#[46]⟩ : ByteArray)) ++ t192)) else (none)) = some r := H
        have A7 := Aside0.mk A70
        clear A70
        by_cases c8 : (((t190 ++ (⟨#[46]⟩ : ByteArray)) ++ t191) ++ (⟨#[46]⟩ : ByteArray)).size + t192.size ≤ 9223372036854775807
        · rw [if_pos c8] at H
          have c8b0 := eq_true c8
          have c8b1 : decide ((((t190 ++ (⟨#[46]⟩ : ByteArray)) ++ t191) ++ (⟨#[46]⟩ : ByteArray)).size + t192.size ≤ 9223372036854775807) = true := decide_eq_true c8
          try have c8b2 : (9223372036854775807 < (((t190 ++ (⟨#[46]⟩ : ByteArray)) ++ t191) ++ (⟨#[46]⟩ : ByteArray)).size + t192.size) = False := eq_false (Nat.not_lt.2 c8)
          try (have c8b3 := c8b2; rw [ByteArray.size_append] at c8b3)
          try (have c8b4 : (9223372036854775807 < t190.size + 1 + t191.size + 1 + t192.size) = False := by have h_ := c8b2; simp only [ByteArray.size_append] at h_; exact h_)
          obtain rfl := Option.some.inj H
          go_enter Try.func20, Try.ntmps20
          go_wp2_with (first | ((with_reducible refine gate_dst (N := 1) rfl ?_); refine box_event ?hg (N := 1) ?hd (cs := #[.string a0_0, .string a0_1, .string a0_2, .string a0_3, .string a0_4]) (t := 39) ?hr ?_; (case hd => rfl); (case hg => rfl); (case hr => first | (go_simp; done) | (go_simp; rfl)); intro gb189 hg w9 hbox hb; have n0_ := Aside0.mk (below_step (by repeat (first | (with_reducible first | exact HB.out | apply below_alloc | apply pw_below_drewN | apply below_drew1) | exact HB.out)) hb); have n1_ := Aside0.mk (hbox); have n2_ := Aside0.mk ((by rw [hg]; exact (below_size (by repeat (first | (with_reducible first | exact HB.out | apply below_alloc | apply pw_below_drewN | apply below_drew1) | exact HB.out))) : w.heap.size ≤ gb189)); have n3_ := Aside0.mk ((by rw [hg]; exact (below_size (by repeat (first | (with_reducible first | exact HB.out | apply below_alloc | apply pw_below_drewN | apply below_drew1) | exact HB.out))) : w.heap.size ≤ gb189)); clear HB; have HB := n0_; have BK189 := n1_; have GW189 := n2_; have GE189 := n3_; clear n0_ n1_ n2_ n3_; clear hb hbox hg; have hcz10_0 : w9.cell? ⟨gb189, 0, none⟩ = some (.string a0_0) := (blk_cell BK189.out 0).trans rfl; have hcz10_1 : w9.cell? ⟨gb189, 1, none⟩ = some (.string a0_1) := (blk_cell BK189.out 1).trans rfl; have hcz10_2 : w9.cell? ⟨gb189, 2, none⟩ = some (.string a0_2) := (blk_cell BK189.out 2).trans rfl; have hcz10_3 : w9.cell? ⟨gb189, 3, none⟩ = some (.string a0_3) := (blk_cell BK189.out 3).trans rfl; have hcz10_4 : w9.cell? ⟨gb189, 4, none⟩ = some (.string a0_4) := (blk_cell BK189.out 4).trans rfl; have hfz10_0 := blk_frozen BK189.out 0; have hfz10_1 := blk_frozen BK189.out 1; have hfz10_2 := blk_frozen BK189.out 2; have hfz10_3 := blk_frozen BK189.out 3; have hfz10_4 := blk_frozen BK189.out 4) | (go_at_call 32; (with_reducible refine (spec_kyOr.calls a0_2 (⟨#[91, 110, 111, 75, 105, 110, 100, 93]⟩ : ByteArray) t190 _ A2.out).mono ?_); rintro e w' ⟨rfl, ⟨nd, rfl⟩⟩; (try first | exact ⟨rfl, _, World.drewN_drewN _ _ _⟩ | exact ⟨rfl, _, Eq.trans (World.drewN_drewN _ _ _) (congrArg (World.drewN _) (Nat.add_assoc _ _ _))⟩)) | (go_at_call 32; (with_reducible refine (spec_kyOr.calls a0_1 (⟨#[91, 110, 111, 86, 101, 114, 93]⟩ : ByteArray) t191 _ A4.out).mono ?_); rintro e w' ⟨rfl, ⟨nd, rfl⟩⟩; (try first | exact ⟨rfl, _, World.drewN_drewN _ _ _⟩ | exact ⟨rfl, _, Eq.trans (World.drewN_drewN _ _ _) (congrArg (World.drewN _) (Nat.add_assoc _ _ _))⟩)) | (go_at_call 32; (with_reducible refine (spec_kyOr.calls a0_0 (⟨#[91, 110, 111, 71, 114, 112, 93]⟩ : ByteArray) t192 _ A7.out).mono ?_); rintro e w' ⟨rfl, ⟨nd, rfl⟩⟩; (try first | exact ⟨rfl, _, World.drewN_drewN _ _ _⟩ | exact ⟨rfl, _, Eq.trans (World.drewN_drewN _ _ _) (congrArg (World.drewN _) (Nat.add_assoc _ _ _))⟩)))
          repeat (go_quiet (first | ((with_reducible refine gate_dst (N := 1) rfl ?_); refine box_event ?hg (N := 1) ?hd (cs := #[.string a0_0, .string a0_1, .string a0_2, .string a0_3, .string a0_4]) (t := 39) ?hr ?_; (case hd => rfl); (case hg => rfl); (case hr => first | (go_simp; done) | (go_simp; rfl)); intro gb189 hg w9 hbox hb; have n0_ := Aside0.mk (below_step (by repeat (first | (with_reducible first | exact HB.out | apply below_alloc | apply pw_below_drewN | apply below_drew1) | exact HB.out)) hb); have n1_ := Aside0.mk (hbox); have n2_ := Aside0.mk ((by rw [hg]; exact (below_size (by repeat (first | (with_reducible first | exact HB.out | apply below_alloc | apply pw_below_drewN | apply below_drew1) | exact HB.out))) : w.heap.size ≤ gb189)); have n3_ := Aside0.mk ((by rw [hg]; exact (below_size (by repeat (first | (with_reducible first | exact HB.out | apply below_alloc | apply pw_below_drewN | apply below_drew1) | exact HB.out))) : w.heap.size ≤ gb189)); clear HB; have HB := n0_; have BK189 := n1_; have GW189 := n2_; have GE189 := n3_; clear n0_ n1_ n2_ n3_; clear hb hbox hg; have hcz10_0 : w9.cell? ⟨gb189, 0, none⟩ = some (.string a0_0) := (blk_cell BK189.out 0).trans rfl; have hcz10_1 : w9.cell? ⟨gb189, 1, none⟩ = some (.string a0_1) := (blk_cell BK189.out 1).trans rfl; have hcz10_2 : w9.cell? ⟨gb189, 2, none⟩ = some (.string a0_2) := (blk_cell BK189.out 2).trans rfl; have hcz10_3 : w9.cell? ⟨gb189, 3, none⟩ = some (.string a0_3) := (blk_cell BK189.out 3).trans rfl; have hcz10_4 : w9.cell? ⟨gb189, 4, none⟩ = some (.string a0_4) := (blk_cell BK189.out 4).trans rfl; have hfz10_0 := blk_frozen BK189.out 0; have hfz10_1 := blk_frozen BK189.out 1; have hfz10_2 := blk_frozen BK189.out 2; have hfz10_3 := blk_frozen BK189.out 3; have hfz10_4 := blk_frozen BK189.out 4) | (go_at_call 32; (with_reducible refine (spec_kyOr.calls a0_2 (⟨#[91, 110, 111, 75, 105, 110, 100, 93]⟩ : ByteArray) t190 _ A2.out).mono ?_); rintro e w' ⟨rfl, ⟨nd, rfl⟩⟩; (try first | exact ⟨rfl, _, World.drewN_drewN _ _ _⟩ | exact ⟨rfl, _, Eq.trans (World.drewN_drewN _ _ _) (congrArg (World.drewN _) (Nat.add_assoc _ _ _))⟩)) | (go_at_call 32; (with_reducible refine (spec_kyOr.calls a0_1 (⟨#[91, 110, 111, 86, 101, 114, 93]⟩ : ByteArray) t191 _ A4.out).mono ?_); rintro e w' ⟨rfl, ⟨nd, rfl⟩⟩; (try first | exact ⟨rfl, _, World.drewN_drewN _ _ _⟩ | exact ⟨rfl, _, Eq.trans (World.drewN_drewN _ _ _) (congrArg (World.drewN _) (Nat.add_assoc _ _ _))⟩)) | (go_at_call 32; (with_reducible refine (spec_kyOr.calls a0_0 (⟨#[91, 110, 111, 71, 114, 112, 93]⟩ : ByteArray) t192 _ A7.out).mono ?_); rintro e w' ⟨rfl, ⟨nd, rfl⟩⟩; (try first | exact ⟨rfl, _, World.drewN_drewN _ _ _⟩ | exact ⟨rfl, _, Eq.trans (World.drewN_drewN _ _ _) (congrArg (World.drewN _) (Nat.add_assoc _ _ _))⟩))); try go_wp2_with (first | ((with_reducible refine gate_dst (N := 1) rfl ?_); refine box_event ?hg (N := 1) ?hd (cs := #[.string a0_0, .string a0_1, .string a0_2, .string a0_3, .string a0_4]) (t := 39) ?hr ?_; (case hd => rfl); (case hg => rfl); (case hr => first | (go_simp; done) | (go_simp; rfl)); intro gb189 hg w9 hbox hb; have n0_ := Aside0.mk (below_step (by repeat (first | (with_reducible first | exact HB.out | apply below_alloc | apply pw_below_drewN | apply below_drew1) | exact HB.out)) hb); have n1_ := Aside0.mk (hbox); have n2_ := Aside0.mk ((by rw [hg]; exact (below_size (by repeat (first | (with_reducible first | exact HB.out | apply below_alloc | apply pw_below_drewN | apply below_drew1) | exact HB.out))) : w.heap.size ≤ gb189)); have n3_ := Aside0.mk ((by rw [hg]; exact (below_size (by repeat (first | (with_reducible first | exact HB.out | apply below_alloc | apply pw_below_drewN | apply below_drew1) | exact HB.out))) : w.heap.size ≤ gb189)); clear HB; have HB := n0_; have BK189 := n1_; have GW189 := n2_; have GE189 := n3_; clear n0_ n1_ n2_ n3_; clear hb hbox hg; have hcz10_0 : w9.cell? ⟨gb189, 0, none⟩ = some (.string a0_0) := (blk_cell BK189.out 0).trans rfl; have hcz10_1 : w9.cell? ⟨gb189, 1, none⟩ = some (.string a0_1) := (blk_cell BK189.out 1).trans rfl; have hcz10_2 : w9.cell? ⟨gb189, 2, none⟩ = some (.string a0_2) := (blk_cell BK189.out 2).trans rfl; have hcz10_3 : w9.cell? ⟨gb189, 3, none⟩ = some (.string a0_3) := (blk_cell BK189.out 3).trans rfl; have hcz10_4 : w9.cell? ⟨gb189, 4, none⟩ = some (.string a0_4) := (blk_cell BK189.out 4).trans rfl; have hfz10_0 := blk_frozen BK189.out 0; have hfz10_1 := blk_frozen BK189.out 1; have hfz10_2 := blk_frozen BK189.out 2; have hfz10_3 := blk_frozen BK189.out 3; have hfz10_4 := blk_frozen BK189.out 4) | (go_at_call 32; (with_reducible refine (spec_kyOr.calls a0_2 (⟨#[91, 110, 111, 75, 105, 110, 100, 93]⟩ : ByteArray) t190 _ A2.out).mono ?_); rintro e w' ⟨rfl, ⟨nd, rfl⟩⟩; (try first | exact ⟨rfl, _, World.drewN_drewN _ _ _⟩ | exact ⟨rfl, _, Eq.trans (World.drewN_drewN _ _ _) (congrArg (World.drewN _) (Nat.add_assoc _ _ _))⟩)) | (go_at_call 32; (with_reducible refine (spec_kyOr.calls a0_1 (⟨#[91, 110, 111, 86, 101, 114, 93]⟩ : ByteArray) t191 _ A4.out).mono ?_); rintro e w' ⟨rfl, ⟨nd, rfl⟩⟩; (try first | exact ⟨rfl, _, World.drewN_drewN _ _ _⟩ | exact ⟨rfl, _, Eq.trans (World.drewN_drewN _ _ _) (congrArg (World.drewN _) (Nat.add_assoc _ _ _))⟩)) | (go_at_call 32; (with_reducible refine (spec_kyOr.calls a0_0 (⟨#[91, 110, 111, 71, 114, 112, 93]⟩ : ByteArray) t192 _ A7.out).mono ?_); rintro e w' ⟨rfl, ⟨nd, rfl⟩⟩; (try first | exact ⟨rfl, _, World.drewN_drewN _ _ _⟩ | exact ⟨rfl, _, Eq.trans (World.drewN_drewN _ _ _) (congrArg (World.drewN _) (Nat.add_assoc _ _ _))⟩))))
          go_ret
          exact ⟨by first | rfl | (simp [errW_none, errW_some] <;> rfl) | (simp [*, errW_none, errW_some] <;> rfl), by repeat (first | (with_reducible first | exact HB.out | apply below_alloc | apply pw_below_drewN | apply below_drew1 | refine below_set ?_ GE189.out) | exact HB.out)⟩
        · rw [if_neg c8] at H
          exact absurd H (by simp)
      · rw [if_neg c6] at H
        exact absurd H (by simp)
    · rw [if_neg c5] at H
      exact absurd H (by simp)
  · rw [if_neg c3] at H
    exact absurd H (by simp)

/-! ### spec_kyIndex: function 28 -/
def spec_kyIndex.l0 : Nat → ByteArray → ByteArray → Int → Option (Int)
  | 0, _, _, _ => none
  | k + 1, x0, x1, x5 => if (wrap64 (x5 + (x1.size : Int))) ≤ (x0.size : Int) then (if 0 ≤ x5 then (if x5 ≤ (wrap64 (x5 + (x1.size : Int))) then (if (x0.extract (x5 : Int).toNat ((wrap64 (x5 + (x1.size : Int))) : Int).toNat).toList = x1.toList then (some x5) else (spec_kyIndex.l0 k x0 x1 (wrap64 (x5 + 1)))) else (none)) else (none)) else (some (-1))
def spec_kyIndex.f (k : Nat) (a0 : ByteArray) (a1 : ByteArray) : Option (Int) := spec_kyIndex.l0 k a0 a1 0
theorem spec_kyIndex.mono_l : ∀ k, (∀ y0 y1 y2, LeO (spec_kyIndex.l0 k y0 y1 y2) (spec_kyIndex.l0 (k + 1) y0 y1 y2))
  | 0 => fun _ _ _ r h => by simp [spec_kyIndex.l0] at h
  | k + 1 => by
    have ih0 := spec_kyIndex.mono_l k
    · intro y0 y1 y2
      unfold spec_kyIndex.l0
      repeat' first
      | (with_reducible exact ih0 _ _ _)
      | (with_reducible exact LeO.refl _)
      | (with_reducible exact LeO.none _)
      | (with_reducible refine LeO.ite ?_ ?_)
      | (with_reducible refine LeO.bind ?_ (fun _ => ?_))
      | exact ih0 _ _ _
      | exact LeO.none _
      | refine LeO.ite ?_ ?_
      | refine LeO.bind ?_ (fun _ => ?_)
theorem spec_kyIndex.mono : ∀ a0 a1 k, LeO (spec_kyIndex.f k a0 a1) (spec_kyIndex.f (k + 1) a0 a1) := by
  intro a0 a1 k
  have ih0 := spec_kyIndex.mono_l k
  unfold spec_kyIndex.f
  repeat' first
      | (with_reducible exact ih0 _ _ _)
      | (with_reducible exact LeO.refl _)
      | (with_reducible exact LeO.none _)
      | (with_reducible refine LeO.ite ?_ ?_)
      | (with_reducible refine LeO.bind ?_ (fun _ => ?_))
      | exact ih0 _ _ _
      | exact LeO.none _
      | refine LeO.ite ?_ ?_
      | refine LeO.bind ?_ (fun _ => ?_)
set_option maxHeartbeats 8000000 in
set_option maxRecDepth 100000 in
theorem spec_kyIndex.calls (k : Nat) (a0 : ByteArray) (a1 : ByteArray) (r : Int) (w : World) (h : spec_kyIndex.f k a0 a1 = some r) :
    Calls Try.prog 28 #[.string a0, .string a1] w fun e w' => e = .returned (.int .i64 r) ∧ Drawn0 w w' := by
  have H : (spec_kyIndex.l0 k a0 a1 0) = some r := h
  clear h
  have H' := Aside0.mk H
  clear H
  go_enter Try.func28, Try.ntmps28
  go_wp2
  go_loopg [5] k (fun kq v5 w' => ∃ (x5_1 : Int), v5 = .int .i64 x5_1 ∧ Aside0 (spec_kyIndex.l0 kq a0 a1 x5_1 = some r) ∧ Aside0 (kq ≤ k) ∧ Drawn0 w w')
  case atStart => exact ⟨(0), (by first | rfl | (simp; done) | (simp [*]; done)), H', ⟨Nat.le_refl _⟩, by repeat (first | exact Drawn0.refl _ | apply Drawn0.step)⟩
  case round =>
    clear H'
    try clear c2
    try clear p2
    obtain ⟨x5_1, rfl, HA, HK1, ⟨m1, rfl⟩⟩ := hrel
    cases gk with
    | zero => exact absurd HA.out (by simp [spec_kyIndex.l0])
    | succ k1 =>
      have H := HA.out
      clear HA
      simp only [spec_kyIndex.l0] at H
      by_cases c3 : (wrap64 (x5_1 + (a1.size : Int))) ≤ (a0.size : Int)
      · rw [if_pos c3] at H
        have c3b0 : decide ((wrap64 (x5_1 + (a1.size : Int))) ≤ (a0.size : Int)) = true := decide_eq_true c3
        clear c3
        by_cases c4 : 0 ≤ x5_1
        · rw [if_pos c4] at H
          have c4b0 := eq_true c4
          have c4b1 : decide (0 ≤ x5_1) = true := decide_eq_true c4
          clear c4
          by_cases c5 : x5_1 ≤ (wrap64 (x5_1 + (a1.size : Int)))
          · rw [if_pos c5] at H
            have c5b0 := eq_true c5
            have c5b1 : decide (x5_1 ≤ (wrap64 (x5_1 + (a1.size : Int)))) = true := decide_eq_true c5
            have c6b0 := eq_true (of_decide_eq_true (by first | (with_reducible assumption) | assumption) : (wrap64 (x5_1 + (a1.size : Int))) ≤ (a0.size : Int))
            by_cases c7 : (a0.extract (x5_1 : Int).toNat ((wrap64 (x5_1 + (a1.size : Int))) : Int).toNat).toList = a1.toList
            · rw [if_pos c7] at H
              have c7b0 : ((a0.extract (x5_1 : Int).toNat ((wrap64 (x5_1 + (a1.size : Int))) : Int).toNat).toList == a1.toList) = true := beq_iff_eq.mpr c7
              have c7b1 : ((a0.extract (x5_1 : Int).toNat ((wrap64 (x5_1 + (a1.size : Int))) : Int).toNat).toList != a1.toList) = false := bne_eq_false_iff_eq.mpr c7
              clear c7
              obtain rfl := Option.some.inj H
              go_wp2
              go_ret
              exact ⟨by first | rfl | (simp; done) | (simp [*]; done), by repeat (first | exact Drawn0.refl _ | apply Drawn0.step)⟩
            · rw [if_neg c7] at H
              have c7b0 : ((a0.extract (x5_1 : Int).toNat ((wrap64 (x5_1 + (a1.size : Int))) : Int).toNat).toList == a1.toList) = false := beq_eq_false_iff_ne.mpr c7
              have c7b1 : ((a0.extract (x5_1 : Int).toNat ((wrap64 (x5_1 + (a1.size : Int))) : Int).toNat).toList != a1.toList) = true := bne_iff_ne.mpr c7
              have H' := Aside0.mk H
              clear H
              go_wp2
              go_roundg k1
              case measure => have := HK1.out; omega
              case rel => exact ⟨(wrap64 (x5_1 + 1)), (by first | rfl | (simp; done) | (simp [*]; done)), H', ⟨by have := HK1.out; omega⟩, by repeat (first | exact Drawn0.refl _ | apply Drawn0.step)⟩
          · rw [if_neg c5] at H
            exact absurd H (by simp)
        · rw [if_neg c4] at H
          exact absurd H (by simp)
      · rw [if_neg c3] at H
        have c3b0 : decide ((wrap64 (x5_1 + (a1.size : Int))) ≤ (a0.size : Int)) = false := decide_eq_false c3
        clear c3
        obtain rfl := Option.some.inj H
        go_wp2
        go_ret
        exact ⟨by first | rfl | (simp; done) | (simp [*]; done), by repeat (first | exact Drawn0.refl _ | apply Drawn0.step)⟩

end Go.Proofs.Ytdomnigegpigiab.PFnGvkBack

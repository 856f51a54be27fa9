/- Tables: what is right. -/
import Derived.Test.YtogfpbnbojhpoaaFL
namespace Go.Proofs.YtogfpbnbojhpoaaV
open Go.RowKit
set_option linter.unusedSimpArgs false
set_option linter.unusedVariables false
theorem nodes_mk (k : Int) (b : Bool) (i : Int) (f : Nat) (t : ByteArray) (keys : List ByteArray) (list : List RV) : nodes (.mk k b i f t keys list) = 1 + (list.map nodes).sum := by rw [nodes]
theorem nodes_pos (v : RV) : 1 ≤ nodes v := by
  obtain ⟨k, b, i, f, t, keys, list⟩ := v
  rw [nodes_mk]; omega
def S (l : List RV) (j : Nat) : Nat := ((l.take j).map nodes).sum
theorem S_zero (l : List RV) : S l 0 = 0 := by simp [S]
theorem S_succ (l : List RV) (j : Nat) (h : j < l.length) : S l (j + 1) = S l j + nodes l[j] := by
  unfold S
  rw [List.take_succ_eq_append_getElem h, List.map_append, List.sum_append]
  simp only [List.map_cons, List.map_nil, List.sum_cons, List.sum_nil, Nat.add_zero]
theorem S_all (l : List RV) : S l l.length = (l.map nodes).sum := by unfold S; rw [List.take_length]
theorem S_ge (l : List RV) : ∀ j, j ≤ l.length → j ≤ S l j
  | 0, _ => Nat.zero_le _
  | j + 1, h => by
    have h1 := S_ge l j (by omega)
    have h2 := nodes_pos (l[j]'(by omega))
    rw [S_succ l j (by omega)]
    omega
theorem erase_mono {A B : View} (h : A ≤ B) (m : Nat) : A.erase m ≤ B.erase m := by
  intro k o hk
  unfold View.erase at *
  split at hk
  · cases hk
  · rename_i hne
    rw [if_neg hne]
    exact h k o hk
theorem le_erase_set {A B : View} {m : Nat} {o : Obj} (h : A ≤ B.erase m) : A ≤ (B.set m o).erase m := by
  intro k x hk
  have := h k x hk
  unfold View.erase at *
  split at this
  · cases this
  · rename_i hne
    rw [if_neg hne, set_other hne]
    exact this
theorem erase_at {A : View} {m k : Nat} (h : k ≠ m) : A.erase m k = A k := if_neg h
theorem ne_of_none {A : View} {k m : Nat} {o : Obj} (h : A k = some o) (hm : A m = none) : k ≠ m := fun hx => by rw [hx, hm] at h; cases h
def Rp (v : RV) (lv left m : Nat) (A : View) (r : Value) (A' : View) : Prop :=
  ∃ q, r = .bool q ∧ A.erase m ≤ A'.erase m ∧ (q = true → Good v lv ∧ nodes v ≤ left ∧ A' m = some (.cells #[.int .i64 ((left - nodes v : Nat) : Int)] 3 (0, 0)))
theorem Rp.no {v : RV} {lv left m : Nat} {A A' : View} (h : A.erase m ≤ A'.erase m) : Rp v lv left m A (.bool false) A' := ⟨false, rfl, h, fun h => by cases h⟩
def R62 (v : RV) : Prop := ∀ (A : View) (c : Array Value) (lv m left : Nat), IsRV (A.erase m) v c → A m = some (.cells #[.int .i64 (left : Int)] 3 (0, 0)) → left ≤ 300 → lv ≤ 50 →
  VCalls Try.prog 62 #[.agg c, .int .i64 lv, .pointer (some ⟨m, 0, none⟩)] A fun r A' => Rp v lv left m A r A'
set_option maxHeartbeats 4000000 in
theorem right62_step (k : Int) (b : Bool) (i : Int) (f : Nat) (t : ByteArray) (keys : List ByteArray) (list : List RV) (ih : ∀ j (h : j < list.length), R62 list[j]) : R62 (.mk k b i f t keys list) := by
  intro A c lv m left hc hm hl hlv
  rw [IsRV] at hc
  obtain ⟨ks, ls, rfl, hks, hkl, ⟨bl, cl, rfl⟩, hel⟩ := hc
  obtain ⟨bk, ck, rfl⟩ := hks.slice
  refine xcalls Try.func62 rfl (by simp [Try.ntmps62]) ?_
  simp only [Try.f62]
  generalize hN0 : rvc k b i f t (.slice bk keys.length ck) (.slice bl list.length cl) = cs
  refine xc_step fun C hC => ?_
  simp [go_sem, xnew, Value.cells]
  intro n hn
  subst hC
  have dmn : m ≠ n := ne_of_none hm hn
  have hM : (A.set n (.cells cs 27)) m = some (.cells #[.int .i64 (left : Int)] 3 (0, 0)) := by rw [set_other dmn]; exact hm
  have cm := cell_of hM (i := 0) rfl
  have hw : IntKind.i64.wrap ((left : Int) - 1) = (left : Int) - 1 := wrap_in (by omega) (by omega)
  have hst : xstore Try.prog 3 (.pointer (some ⟨m, 0, none⟩)) (.int .i64 ((left : Int) - 1)) (A.set n (.cells cs 27)) = some ((A.set n (.cells cs 27)).set m (.cells #[.int .i64 ((left : Int) - 1)] 3 (0, 0))) := xstore_field ti3 hM (by simp) rfl
  refine xc_step fun C hC => ?_
  rw [xc_seq]
  refine xc_step fun C2 hC2 => ?_
  simp [go_sem, xnil, vload, cm, xbin, eqPlain, hw, hst]
  subst hC2
  have L : A.erase m ≤ ((A.set n (.cells cs 27)).set m (.cells #[.int .i64 ((left : Int) - 1)] 3 (0, 0))).erase m := le_erase_set (erase_mono (le_set hn) m)
  have hN : ((A.set n (.cells cs 27)).set m (.cells #[.int .i64 ((left : Int) - 1)] 3 (0, 0))) n = some (.cells cs 27 (0, 0)) := by rw [set_other dmn.symm, set_at]
  have hM2 := set_at (A.set n (.cells cs 27)) m (.cells #[.int .i64 ((left : Int) - 1)] 3 (0, 0))
  clear hst cm hM
  generalize (A.set n (.cells cs 27)).set m (.cells #[.int .i64 ((left : Int) - 1)] 3 (0, 0)) = B at L hN hM2
  subst hN0
  have cm := cell_of hM2 (i := 0) rfl
  have c0 := cell_of hN (i := 0) rfl
  have c3 := cell_of hN (i := 3) rfl
  have c5 := cell_of hN (i := 5) rfl
  have c6 := cell_of hN (i := 6) rfl
  refine xc_reg 30 rfl fun K hK => ?_
  simp only [show (List.range 30).map (·, true) = [(0, true), (1, true), (2, true), (3, true), (4, true), (5, true), (6, true), (7, true), (8, true), (9, true), (10, true), (11, true), (12, true), (13, true), (14, true), (15, true), (16, true), (17, true), (18, true), (19, true), (20, true), (21, true), (22, true), (23, true), (24, true), (25, true), (26, true), (27, true), (28, true), (29, true)] from rfl, rslv_cons, rslv_nil, List.getElem?_toArray, List.getElem?_cons_zero, List.getElem?_cons_succ, gres]
  by_cases p1 : left = 0
  · have q1 : (left : Int) < 1 := by omega
    (repeat (refine seqX_hide fun R hR => ?_; simp [go_sem, xfieldAt, xlen, xnil, vload, xbin, eqPlain, wantR, undef, cm, q1, p1]; subst hR))
    rw [seqX_nil]
    refine hK _ _ _ ?_
    simp [go_sem]
    exact Rp.no L
  have q1 : ¬ (left : Int) - 1 < 0 := by omega
  have q1' : ¬ (left : Int) < 1 := by omega
  by_cases p2 : lv = 0
  · have q2 : (lv : Int) < 1 := by omega
    (repeat (refine seqX_hide fun R hR => ?_; simp [go_sem, xfieldAt, xlen, xnil, vload, xbin, eqPlain, wantR, undef, cm, q1, q1', q2, p1, p2]; subst hR))
    rw [seqX_nil]
    refine hK _ _ _ ?_
    simp [go_sem]
    exact Rp.no L
  have q2 : ¬ (lv : Int) < 1 := by omega
  have base : ∀ (hk6 : k < 6 → list = []), k < 6 → nodes (.mk k b i f t keys list) = 1 := by
    intro h1 h2
    rw [nodes_mk, h1 h2]; rfl
  have none_in : ∀ (hk6 : k < 6 → list = []), k < 6 → ∀ j (h : j < list.length), Good (list[j]) (lv - 1) := by
    intro h1 h2 j h
    have := h1 h2
    subst this
    exact absurd h (by simp)
  have tail : ∀ (hk6 : k < 6 → list = []) (hk7 : k ≠ 7 → keys = []) (e' : Env), e' 1 = .int .i64 lv → e' 2 = .pointer (some ⟨m, 0, none⟩) → e' 3 = .pointer (some ⟨n, 0, none⟩) → e' 44 = .bool false → K e' [] B := by
    intro hk6 hk7 e' g1 g2 g3 g44
    refine hK _ _ _ ?_
    clear hK
    simp [go_sem, g44]
    subst hC
    refine xc_step fun C hC => ?_
    have tail2 : ∀ (e' : Env), e' 1 = .int .i64 lv → e' 2 = .pointer (some ⟨m, 0, none⟩) → e' 3 = .pointer (some ⟨n, 0, none⟩) → Kinds k f keys list.length →
        xc Try.prog 104 C (xend Try.prog 104 [ResultVar.tmp 6] fun r A' => Rp (.mk k b i f t keys list) lv left m A r A') e' [] B := by
      clear g1 g2 g3 g44
      intro e' g1 g2 g3 hkk
      subst hC
      refine xc_step fun C hC => ?_
      simp [go_sem, g3, xfieldAt, vload, c6, xlen]
      refine vloopK (fun k' e ds A' => ∃ j : Nat, k' = list.length - j ∧ j ≤ list.length ∧ ds = [] ∧ e 1 = .int .i64 lv ∧ e 2 = .pointer (some ⟨m, 0, none⟩) ∧ e 91 = .slice bl list.length cl ∧ e 92 = .int .i64 list.length ∧ e 93 = .int .i64 j ∧
          A.erase m ≤ A'.erase m ∧ 1 + S list j ≤ left ∧ A' m = some (.cells #[.int .i64 ((left - (1 + S list j) : Nat) : Int)] 3 (0, 0)) ∧ ∀ i (h : i < list.length), i < j → Good (list[i]) (lv - 1)) list.length
        ⟨0, by omega, by omega, rfl, by simp [go_sem, g1], by simp [go_sem, g2], by simp [go_sem], by simp [go_sem], by simp [go_sem], L, by rw [S_zero]; omega, by rw [S_zero, hM2]; congr 5; omega, fun i h hi => by omega⟩ ?_
      clear g1 g2 g3 hM2 hN L cm c0 c3 c5 c6
      rintro k' e ds B ⟨j, rfl, hjl, rfl, g1, g2, g91, g92, g93, L, hS, hM, hG⟩ J X hJ hX
      refine xc_sound _ ?_
      by_cases hj : j < list.length
      · obtain ⟨a, cap, c', f1, u1, hc'⟩ := hel j hj
        simp only [Value.slice.injEq] at f1
        obtain ⟨rfl, -, rfl⟩ := f1
        have LB : A.erase m ≤ B := View.le_trans L (erase_le _ _)
        have u1 := le_cells LB _ _ _ u1
        have hjS := S_ge list j (by omega)
        have hw := wrap_nat (i := j) (by omega)
        have hwl : IntKind.i64.wrap ((lv : Int) - 1) = ((lv - 1 : Nat) : Int) := by rw [wrap_in (by omega) (by omega)]; omega
        refine xc_step fun C3 hC3 => ?_
        simp [go_sem, g92, g93, xbin, eqPlain, hj]
        subst hC3
        refine xc_step fun C3 hC3 => ?_
        simp [go_sem]
        subst hC3
        refine xc_step fun C3 hC3 => ?_
        rw [xc_seq, xc_block]
        refine xc_step fun C4 hC4 => ?_
        simp [go_sem, g91, g93, xindexAt, hj, vload, u1, xnew, zeroOf, Value.cells]
        intro m2 hm2
        have d2 : m ≠ m2 := ne_of_none hM hm2
        have hst := xstore_agg (P := Try.prog) (vs := c') ti27 hc'.size (set_at B m2 (.cells #[.int .i64 0, .bool false, .int .i64 0, .float .f64 0, .string ⟨#[]⟩, .slice none 0 0, .slice none 0 0] 27)) (by rw [hc'.size]; rfl) hc'.one
        rw [set_set] at hst
        have gm2 := cells_block (set_at B m2 (.cells c' 27)) hc'.size
        have hM2 : (B.set m2 (.cells c' 27)) m = some (.cells #[.int .i64 ((left - (1 + S list j) : Nat) : Int)] 3 (0, 0)) := by rw [set_other d2]; exact hM
        have L2 : A.erase m ≤ (B.set m2 (.cells c' 27)).erase m := View.le_trans L (erase_mono (le_set hm2) m)
        simp [hst, onS_some]
        subst hC4
        clear hst hm2
        generalize B.set m2 (.cells c' 27) = B2 at gm2 hM2 L2
        simp [go_sem, g1, g2, vload, gm2, xbin, eqPlain, hwl]
        refine (ih j hj B2 c' (lv - 1) m (left - (1 + S list j)) (hc'.le L2) hM2 (by omega) (by omega)).mono ?_
        rintro _ B3 ⟨q, rfl, L3, hq⟩
        have L3 := View.le_trans L2 L3
        cases q with
        | false =>
          simp [go_sem, xunop]
          refine hX _ _ _ _ ?_
          simp [go_sem]
          exact Rp.no L3
        | true =>
          obtain ⟨hg, hn, hM3⟩ := hq rfl
          have hSs := S_succ list j hj
          simp [go_sem, xunop]
          subst hC3
          simp [go_sem, g93, xbin, eqPlain, hw]
          refine hJ (list.length - (j + 1)) _ _ _ (by omega) ⟨j + 1, rfl, by omega, rfl, by simp [go_sem, g1], by simp [go_sem, g2], by simp [go_sem, g91], by simp [go_sem, g92], by simp [go_sem], L3, by omega, ?_, fun i h hi => ?_⟩
          · rw [hM3, hSs]
            congr 5
            omega
          · rcases Nat.lt_or_eq_of_le (Nat.le_of_lt_succ hi) with hi | hi
            · exact hG i h hi
            · subst hi; exact hg
      · have hj' : j = list.length := by omega
        subst hj'
        refine xc_step fun C3 hC3 => ?_
        simp [go_sem, g92, g93, xbin, eqPlain]
        subst hC3
        refine xc_step fun C3 hC3 => ?_
        simp [go_sem]
        refine hX _ _ _ _ ?_
        simp [go_sem]
        subst hC
        simp [go_sem]
        rw [S_all] at hS hM
        refine ⟨true, rfl, L, fun _ => ⟨?_, by rw [nodes_mk]; omega, by rw [nodes_mk, hM]⟩⟩
        rw [Good]
        exact ⟨by omega, hk6, hk7, hkk, fun i h => hG i h h⟩
    rw [xc_seq]
    refine xc_step fun C2 hC2 => ?_
    simp [go_sem, g3, xfieldAt, vload, c0]
    subst hC2
    have yes : k < 6 → Kinds k f keys list.length → Rp (.mk k b i f t keys list) lv left m A (.bool true) B := by
      intro h6 hkk
      refine ⟨true, rfl, L, fun _ => ⟨?_, by rw [base hk6 h6]; omega, ?_⟩⟩
      · rw [Good]
        exact ⟨by omega, hk6, hk7, hkk, none_in hk6 h6⟩
      · rw [base hk6 h6, hM2]
        congr 5
        omega
    by_cases z0 : k = 0
    · subst z0
      simp [go_sem, xbin, eqPlain]
      exact yes (by omega) (.inl rfl)
    by_cases z1 : k = 1
    · subst z1
      simp [go_sem, xbin, eqPlain]
      exact yes (by omega) (.inr (.inl rfl))
    by_cases z2 : k = 2
    · subst z2
      simp [go_sem, xbin, eqPlain]
      exact yes (by omega) (.inr (.inr (.inl rfl)))
    by_cases z5 : k = 5
    · subst z5
      simp [go_sem, xbin, eqPlain]
      exact yes (by omega) (.inr (.inr (.inr (.inl rfl))))
    by_cases z4 : k = 4
    · subst z4
      simp [go_sem, xbin, eqPlain, g3, xfieldAt, vload, c3]
      cases hs : (FloatKind.format .f64).sub f f with
      | some r =>
        simp [go_sem]
        cases hb : ((FloatKind.format .f64).order r 0 == some .eq) with
        | true => exact yes (by omega) (.inr (.inr (.inr (.inr (.inl ⟨rfl, fine_of_sub hs⟩)))))
        | false => exact Rp.no L
      | none =>
        simp only [Option.map_none, ocv_none]
        refine xfsub (a := f) (b := f) (by simp [go_sem]) (by simp [go_sem]) hs fun r hr => ?_
        simp [go_sem, xbin, eqPlain, nan_order hr]
        exact Rp.no L
    have y0 : (k == 0) = false := by simp [z0]
    have y1 : (k == 1) = false := by simp [z1]
    have y2 : (k == 2) = false := by simp [z2]
    have y5 : (k == 5) = false := by simp [z5]
    have y4 : (k == 4) = false := by simp [z4]
    by_cases z7 : k = 7
    · subst z7
      rw [xc_block]
      refine xc_step fun C2 hC2 => ?_
      simp [go_sem, xbin, eqPlain]
      subst hC2
      refine xc_iffalse (by simp [go_sem]) ?_
      refine xc_step fun C2 hC2 => ?_
      simp [go_sem, xbin, eqPlain]
      subst hC2
      refine xc_iffalse (by simp [go_sem]) ?_
      refine xc_step fun C2 hC2 => ?_
      simp [go_sem, xbin, eqPlain]
      subst hC2
      refine xc_iftrue (by simp [go_sem]) ?_
      refine xc_step fun C2 hC2 => ?_
      simp [go_sem]
      refine vloopK (fun k' e ds A' => ∃ j : Nat, k' = keys.length - j ∧ ds = [] ∧ A' = B ∧ e 1 = .int .i64 lv ∧ e 2 = .pointer (some ⟨m, 0, none⟩) ∧ e 3 = .pointer (some ⟨n, 0, none⟩) ∧ e 7 = .int .i64 ((j : Int) + 1) ∧
          ∀ i (h : i + 1 < keys.length), i < j → Op.bytesLess (keys[i]'(by omega)).toList keys[i + 1].toList = true) keys.length
        ⟨0, by omega, rfl, rfl, by simp [go_sem, g1], by simp [go_sem, g2], by simp [go_sem, g3], by simp [go_sem], fun i h hi => by omega⟩ ?_
      clear g1 g2 g3 g44
      rintro k' e ds B ⟨j, rfl, rfl, rfl, g1, g2, g3, g7, hr⟩ J X hJ hX
      refine xc_sound _ ?_
      by_cases hj : j + 1 < keys.length
      · have hj' : (j : Int) + 1 < (keys.length : Int) := by omega
        obtain ⟨a1, q1, f1, u1⟩ := hks.at' (i := j) (by omega)
        obtain ⟨a2, q2, f2, u2⟩ := hks.at' (i := j + 1) hj
        simp only [Value.slice.injEq] at f1 f2
        obtain ⟨rfl, -, rfl⟩ := f1
        simp only [Option.some.injEq] at f2
        obtain ⟨rfl, -, -⟩ := f2
        have LB : A.erase m ≤ B := View.le_trans L (erase_le _ _)
        have u1 := le_cell LB u1
        have u2 := le_cell LB u2
        have u2' : B.cell? ⟨a1.block, a1.off + (j + 1), none⟩ = some (.string keys[j + 1]) := by have := u2; rw [Addr.add, if_neg (by omega)] at this; exact this
        have hw0 : IntKind.i64.wrap (j : Int) = j := wrap_in (by omega) (by omega)
        have hw2 : IntKind.i64.wrap ((j : Int) + 1 + 1) = ((j + 1 : Nat) : Int) + 1 := by rw [wrap_in (by omega) (by omega)]; omega
        have hm1 : (j : Int) + 1 - 1 = j := by omega
        have hj0 : j < keys.length := by omega
        have hjz : (0 : Int) ≤ (j : Int) + 1 := by omega
        have hjt : ((j : Int) + 1).toNat = j + 1 := by omega
        refine xc_step fun C3 hC3 => ?_
        simp [go_sem, g3, g7, xfieldAt, vload, c5, xlen, xbin, eqPlain, hj, hj']
        subst hC3
        refine xc_step fun C3 hC3 => ?_
        rw [xc_seq, xc_block]
        refine xc_step fun C4 hC4 => ?_
        rw [xc_seq, xc_draws]
        refine vdrawK [(0, true), (1, true), (2, true), (3, true), (4, true), (5, true), (6, true), (7, true), (8, true), (9, true), (10, true), (11, true)] B mixed (by kernel_rfl) (View.le_refl _) fun K hK => ?_
        simp only [rslv_cons, rslv_nil, List.getElem?_toArray, List.getElem?_cons_zero, List.getElem?_cons_succ, gres]
        cases hb : Op.bytesLess keys[j].toList keys[j + 1].toList with
        | true =>
          simp [go_sem, g3, g7, xfieldAt, vload, c5, xbin, eqPlain, hm1, hw0, xindexAt, hj0, hj, hj', hjz, hjt, u1, u2, u2', hb]
          refine hK _ _ _ ?_
          clear hK
          simp [go_sem]
          subst hC4
          simp [go_sem]
          subst hC3
          simp [go_sem, g7, xbin, eqPlain, hw2]
          refine hJ (keys.length - (j + 1)) _ _ _ (by omega) ⟨j + 1, rfl, rfl, rfl, by simp [go_sem, g1], by simp [go_sem, g2], by simp [go_sem, g3], by simp [go_sem], fun i h hi => ?_⟩
          rcases Nat.lt_or_eq_of_le (Nat.le_of_lt_succ hi) with hi | hi
          · exact hr i h hi
          · subst hi; exact hb
        | false =>
          simp [go_sem, g3, g7, xfieldAt, vload, c5, xbin, eqPlain, hm1, hw0, xindexAt, hj0, hj, hj', hjz, hjt, u1, u2, u2', hb]
          refine hK _ _ _ ?_
          clear hK
          simp [go_sem]
          subst hC4
          simp [go_sem]
          refine hX _ _ _ _ ?_
          simp [go_sem]
          exact Rp.no L
      · have hj' : ¬ (j : Int) + 1 < (keys.length : Int) := by omega
        have hris : Rising keys := fun i h => hr i h (by omega)
        refine xc_step fun C3 hC3 => ?_
        simp [go_sem, g3, g7, xfieldAt, vload, c5, xlen, xbin, eqPlain, hj, hj']
        refine hX _ _ _ _ ?_
        simp [go_sem]
        subst hC2
        by_cases hlen : keys.length = list.length
        · have hn1 : ((keys.length : Int) != (list.length : Int)) = false := by simp [hlen]
          simp [go_sem, g3, xfieldAt, vload, c5, c6, xlen, xbin, eqPlain, hn1]
          exact tail2 _ (by simp [go_sem, g1]) (by simp [go_sem, g2]) (by simp [go_sem, g3]) (.inr (.inr (.inr (.inr (.inr (.inr ⟨rfl, hris, hlen⟩))))))
        · have hn1 : ((keys.length : Int) != (list.length : Int)) = true := by simp; omega
          simp [go_sem, g3, xfieldAt, vload, c5, c6, xlen, xbin, eqPlain, hn1]
          exact Rp.no L
    have y7 : (k == 7) = false := by simp [z7]
    by_cases z6 : k = 6
    · subst z6
      simp [go_sem, xbin, eqPlain]
      exact tail2 _ (by simp [go_sem, g1]) (by simp [go_sem, g2]) (by simp [go_sem, g3]) (.inr (.inr (.inr (.inr (.inr (.inl rfl))))))
    have y6 : (k == 6) = false := by simp [z6]
    simp [go_sem, xbin, eqPlain, y0, y1, y2, y5, y4, y7, y6]
    exact Rp.no L
  by_cases p34 : k < 6 ∧ 0 < list.length
  · obtain ⟨p3, p4⟩ := p34
    have p4' : (0 : Int) < (list.length : Int) := by omega
    (repeat (refine seqX_hide fun R hR => ?_; simp [go_sem, xfieldAt, xlen, xnil, vload, xbin, eqPlain, wantR, undef, cm, q1, q1', q2, p1, p2, c0, c6, p3, p4, p4']; subst hR))
    rw [seqX_nil]
    refine hK _ _ _ ?_
    simp [go_sem]
    exact Rp.no L
  by_cases p3 : k < 6
  · have p4 : list = [] := by
      cases list with
      | nil => rfl
      | cons x xs => exact absurd ⟨p3, by simp⟩ p34
    subst p4
    have p5 : (k != 7) = true := by simp; omega
    by_cases p6 : 0 < keys.length
    · (repeat (refine seqX_hide fun R hR => ?_; simp [go_sem, xfieldAt, xlen, xnil, vload, xbin, eqPlain, wantR, undef, cm, q1, q1', q2, p1, p2, c0, c5, c6, p3, p5, p6]; subst hR))
      rw [seqX_nil]
      refine hK _ _ _ ?_
      simp [go_sem]
      exact Rp.no L
    · have p7 : keys = [] := by
        cases keys with
        | nil => rfl
        | cons x xs => exact absurd (by simp) p6
      subst p7
      (repeat (refine seqX_hide fun R hR => ?_; simp [go_sem, xfieldAt, xlen, xnil, vload, xbin, eqPlain, wantR, undef, cm, q1, q1', q2, p1, p2, c0, c5, c6, p3, p5]; subst hR))
      rw [seqX_nil]
      exact tail (fun _ => rfl) (fun _ => rfl) _ (by simp [go_sem]) (by simp [go_sem]) (by simp [go_sem]) (by simp [go_sem])
  · by_cases p5 : k = 7
    · have p5' : (k != 7) = false := by simp [p5]
      (repeat (refine seqX_hide fun R hR => ?_; simp [go_sem, xfieldAt, xlen, xnil, vload, xbin, eqPlain, wantR, undef, cm, q1, q1', q2, p1, p2, c0, c5, c6, p3, p5']; subst hR))
      rw [seqX_nil]
      exact tail (fun h => absurd h p3) (fun h => absurd p5 h) _ (by simp [go_sem]) (by simp [go_sem]) (by simp [go_sem]) (by simp [go_sem])
    have p5' : (k != 7) = true := by simp [p5]
    by_cases p6 : 0 < keys.length
    · (repeat (refine seqX_hide fun R hR => ?_; simp [go_sem, xfieldAt, xlen, xnil, vload, xbin, eqPlain, wantR, undef, cm, q1, q1', q2, p1, p2, c0, c5, c6, p3, p5', p6]; subst hR))
      rw [seqX_nil]
      refine hK _ _ _ ?_
      simp [go_sem]
      exact Rp.no L
    · have p7 : keys = [] := by
        cases keys with
        | nil => rfl
        | cons x xs => exact absurd (by simp) p6
      subst p7
      (repeat (refine seqX_hide fun R hR => ?_; simp [go_sem, xfieldAt, xlen, xnil, vload, xbin, eqPlain, wantR, undef, cm, q1, q1', q2, p1, p2, c0, c5, c6, p3, p5']; subst hR))
      rw [seqX_nil]
      exact tail (fun h => absurd h p3) (fun _ => rfl) _ (by simp [go_sem]) (by simp [go_sem]) (by simp [go_sem]) (by simp [go_sem])
theorem right62 : ∀ (v : RV), R62 v
  | .mk k b i f t keys list => right62_step k b i f t keys list fun j h => right62 (list[j])
termination_by v => SizeOf.sizeOf v
decreasing_by
  have := List.sizeOf_lt_of_mem (List.getElem_mem h)
  simp
  omega
def Rq (v : RV) (r : Value) : Prop := ∃ q, r = .bool q ∧ (q = true → Good v 50 ∧ nodes v ≤ 300)
theorem right34 (A : View) (v : RV) (c : Array Value) (hc : IsRV A v c) : VCalls Try.prog 34 #[.agg c, .int .i64 300] A fun r A' => Rq v r ∧ A ≤ A' := by
  refine xcalls Try.func34 rfl (by simp [Try.ntmps34]) ?_
  simp only [Try.f34]
  refine xc_step fun C hC => ?_
  simp [go_sem, xnew, Value.cells]
  intro n hn
  subst hC
  have hN := set_at A n (.cells c 27)
  have L : A ≤ A.set n (.cells c 27) := le_set hn
  generalize A.set n (.cells c 27) = B at hN L
  refine xc_step fun C hC => ?_
  simp [go_sem, xnew, Value.cells, zeroOf]
  intro m hm
  have hst : xstore Try.prog 3 (.pointer (some ⟨m, 0, none⟩)) (.int .i64 300) (B.set m (.cells #[.int .i64 0] 3)) = some ((B.set m (.cells #[.int .i64 0] 3)).set m (.cells #[.int .i64 300] 3 (0, 0))) := xstore_field ti3 (set_at _ _ _) (by simp) rfl
  rw [set_set] at hst
  simp [hst, onS_some]
  subst hC
  have hNm := ne_of_none hN hm
  have hN2 : (B.set m (.cells #[.int .i64 300] 3)) n = some (.cells c 27 (0, 0)) := by rw [set_other hNm]; exact hN
  have gn := cells_block hN2 hc.size
  have hB : B ≤ (B.set m (.cells #[.int .i64 300] 3)).erase m := le_erase (le_set hm) hm
  simp [go_sem, vload, gn]
  refine VCalls.mono (right62 v (B.set m (.cells #[.int .i64 300] 3)) c 50 m 300 (hc.le (View.le_trans L hB)) (set_at _ _ _) (by omega) (by omega)) ?_
  rintro r A' ⟨q, rfl, h2, h3⟩
  exact ⟨⟨q, rfl, fun hq => ⟨(h3 hq).1, (h3 hq).2.1⟩⟩, View.le_trans L (View.le_trans hB (View.le_trans h2 (erase_le _ _)))⟩
end Go.Proofs.YtogfpbnbojhpoaaV

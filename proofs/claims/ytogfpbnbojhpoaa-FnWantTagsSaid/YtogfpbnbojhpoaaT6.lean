/- Tables: what values become. -/
import Derived.Test.YtogfpbnbojhpoaaTB
import Derived.Test.YtogfpbnbojhpoaaTM
import Derived.Sort.Walk0
namespace Go.Proofs.YtogfpbnbojhpoaaV
open Go.RowKit
set_option linter.unusedSimpArgs false
set_option linter.unusedVariables false
theorem S_mono (l : List RV) : ∀ i j, i ≤ j → S l i ≤ S l j := by
  intro i j h
  induction j with
  | zero => have : i = 0 := by omega
            subst this; exact Nat.le_refl _
  | succ j ih =>
    rcases Nat.lt_or_eq_of_le h with h | h
    · refine Nat.le_trans (ih (by omega)) ?_
      unfold S
      by_cases hj : j < l.length
      · rw [List.take_succ_eq_append_getElem hj, List.map_append, List.sum_append]; omega
      · rw [List.take_of_length_le (by omega), List.take_of_length_le (by omega)]; exact Nat.le_refl _
    · subst h; exact Nat.le_refl _
theorem own_fresh {A : View} {b : Nat} {e : TypeId} {size : Nat} (hb : A b = none) : Own A (A.set b (.cells #[] e (0, 0))) e size (.slice (some ⟨b, 0, none⟩) 0 0) 0 [] := by
  refine ⟨?_, .inr ⟨_, _, rfl, hb⟩⟩
  simp [sliceIn, View.set, View.cells?]
/-- A value as the packages have it. -/
def AnyV (A : View) : RV → Value → Prop
  | .mk k b i f t keys list, x =>
    (k = 0 ∧ x = .nilIface) ∨ (k = 1 ∧ x = .iface 4 (.bool b)) ∨ (k = 2 ∧ x = .iface 2 (.int .i64 i)) ∨ (k = 4 ∧ x = .iface 23 (.float .f64 f)) ∨ (k = 5 ∧ x = .iface 9 (.string t)) ∨
    (k = 6 ∧ ∃ sl vals, x = .iface 93 sl ∧ Row A 1 sl list.length vals ∧ vals.length = list.length ∧ ∀ j (h : j < list.length), ∃ y, vals[j]? = some y ∧ AnyV A (list[j]) y) ∨
    (k = 7 ∧ ∃ r vals, x = .iface 63 (.map (some r)) ∧ MapP A r (keys.zip vals) ∧ vals.length = keys.length ∧ ∀ j (h : j < list.length), ∃ y, vals[j]? = some y ∧ AnyV A (list[j]) y)
termination_by v => SizeOf.sizeOf v
decreasing_by
  all_goals
    have := List.sizeOf_lt_of_mem (List.getElem_mem h)
    simp
    omega
theorem AnyV.le {A B : View} (hle : A ≤ B) : ∀ (v : RV) (x : Value), AnyV A v x → AnyV B v x
  | .mk k b i f t keys list, x, h => by
    rw [AnyV] at h ⊢
    rcases h with h | h | h | h | h | h | h
    · exact .inl h
    · exact .inr (.inl h)
    · exact .inr (.inr (.inl h))
    · exact .inr (.inr (.inr (.inl h)))
    · exact .inr (.inr (.inr (.inr (.inl h))))
    · obtain ⟨hk, sl, vals, h1, h2, h3, h4⟩ := h
      refine .inr (.inr (.inr (.inr (.inr (.inl ⟨hk, sl, vals, h1, h2.le hle, h3, fun j hj => ?_⟩)))))
      obtain ⟨y, h5, h6⟩ := h4 j hj
      exact ⟨y, h5, AnyV.le hle _ _ h6⟩
    · obtain ⟨hk, r, vals, h1, h2, h3, h4⟩ := h
      refine .inr (.inr (.inr (.inr (.inr (.inr ⟨hk, r, vals, h1, h2.le hle, h3, fun j hj => ?_⟩)))))
      obtain ⟨y, h5, h6⟩ := h4 j hj
      exact ⟨y, h5, AnyV.le hle _ _ h6⟩
termination_by v => SizeOf.sizeOf v
decreasing_by
  all_goals
    have := List.sizeOf_lt_of_mem (List.getElem_mem hj)
    simp
    omega
theorem AnyV.one {A : View} {v : RV} {x : Value} (h : AnyV A v x) : one x = true := by
  obtain ⟨k, b, i, f, t, keys, list⟩ := v
  rw [AnyV] at h
  rcases h with ⟨_, rfl⟩ | ⟨_, rfl⟩ | ⟨_, rfl⟩ | ⟨_, rfl⟩ | ⟨_, rfl⟩ | ⟨_, sl, vals, rfl, _⟩ | ⟨_, r, vals, rfl, _⟩ <;> rfl
theorem MapP.congr {A B : View} {r : Nat} {kv : List (ByteArray × Value)} (h : A r = B r) (m : MapP A r kv) : MapP B r kv := by
  obtain ⟨es, c, h1, h2⟩ := m
  exact ⟨es, c, by rw [← h]; exact h1, h2⟩
theorem rising_lt {keys : List ByteArray} (h : Rising keys) : ∀ (j i : Nat) (hj : j < keys.length) (hi : i < j), (keys[i]'(by omega)).toList < keys[j].toList := by
  intro j
  induction j with
  | zero => intro i hj hi; omega
  | succ j ih =>
    intro i hj hi
    have h1 := h j hj
    rw [Go.Proofs.bytesLess_eq, decide_eq_true_iff] at h1
    rcases Nat.lt_or_eq_of_le (Nat.le_of_lt_succ hi) with h2 | h2
    · exact List.lt_trans (ih i (by omega) h2) h1
    · subst h2; exact h1
theorem rising_ne {keys : List ByteArray} (h : Rising keys) {i j : Nat} (hj : j < keys.length) (hi : i < j) : keys[i]'(by omega) ≠ keys[j] := by
  intro hx
  have := rising_lt h j i hj hi
  rw [hx] at this
  exact absurd this (List.lt_irrefl _)
theorem AnyV.iface {A : View} {v : RV} {x : Value} (h : AnyV A v x) : x = .nilIface ∨ ∃ t y, x = .iface t y := by
  obtain ⟨k, b, i, f, t, keys, list⟩ := v
  rw [AnyV] at h
  rcases h with ⟨_, rfl⟩ | ⟨_, rfl⟩ | ⟨_, rfl⟩ | ⟨_, rfl⟩ | ⟨_, rfl⟩ | ⟨_, sl, vals, rfl, _⟩ | ⟨_, r, vals, rfl, _⟩
  · exact .inl rfl
  all_goals exact .inr ⟨_, _, rfl⟩
theorem own_move {D B D' B' : View} {e : TypeId} {size n : Nat} {u : Value} {cs : List Value} (h : Own D B e size u n cs) (hk : ∀ k o, D k = none → blockOf u = some k → B k = some o → D' k = none ∧ B' k = some o) : Own D' B' e size u n cs := by
  obtain ⟨h1, ⟨rfl, rfl⟩ | ⟨a, cap, rfl, hn⟩⟩ := h
  · exact ⟨h1, .inl ⟨rfl, rfl⟩⟩
  · obtain ⟨c, h3, _⟩ := sliceIn_block h1
    obtain ⟨h4, h5⟩ := hk _ _ hn rfl h3
    exact ⟨by rw [← h1]; exact sliceIn_congr (by rw [h5, h3]), .inr ⟨a, cap, rfl, h4⟩⟩
theorem own_type_ne {D B : View} {e e2 : TypeId} {size n m : Nat} {u : Value} {cs : List Value} {c : Array Value} {f : Nat × Nat} (h : Own D B e size u n cs) (hm : B m = some (.cells c e2 f)) (hne : e ≠ e2) : blockOf u ≠ some m := by
  obtain ⟨h1, ⟨rfl, rfl⟩ | ⟨a, cap, rfl, hn⟩⟩ := h
  · simp [blockOf]
  · obtain ⟨c', h3, _⟩ := sliceIn_block h1
    intro hx
    simp only [blockOf, Option.some.injEq] at hx
    rw [hx, hm] at h3
    simp only [Option.some.injEq, Obj.cells.injEq] at h3
    exact hne h3.2.1.symm
def Gp (v : RV) (n m : Nat) (A : View) (r : Value) (A' : View) : Prop :=
  ∃ x, r = .tuple #[x, .bool true] ∧ A.erase m ≤ A'.erase m ∧ AnyV (A'.erase m) v x ∧ A' m = some (.cells #[.int .i64 ((n + nodes v : Nat) : Int)] 3 (0, 0))
def A63 (v : RV) : Prop := ∀ (A : View) (c : Array Value) (lv d m n : Nat), IsRV (A.erase m) v c → A m = some (.cells #[.int .i64 (n : Int)] 3 (0, 0)) → Good v lv → d + lv ≤ 60 → n + nodes v ≤ 2000 →
  VCalls Try.prog 63 #[.agg c, .int .i64 d, .pointer (some ⟨m, 0, none⟩)] A fun r A' => Gp v n m A r A'
set_option maxRecDepth 20000 in
set_option maxHeartbeats 4000000 in
theorem any63_step (k : Int) (b : Bool) (i : Int) (f : Nat) (t : ByteArray) (keys : List ByteArray) (list : List RV) (ih : ∀ j (h : j < list.length), A63 list[j]) : A63 (.mk k b i f t keys list) := by
  intro A c lv d m n hc hm hG hd hnn
  rw [IsRV] at hc
  obtain ⟨ks, ls, rfl, hks, hkl, ⟨bl, cl, rfl⟩, hel⟩ := hc
  obtain ⟨bk, ck, rfl⟩ := hks.slice
  rw [Good] at hG
  obtain ⟨hlv, hk6, hk7, hkk, hGs⟩ := hG
  rw [nodes_mk] at hnn
  refine xcalls Try.func63 rfl (by simp [Try.ntmps63]) ?_
  simp only [Try.f63]
  generalize hN0 : rvc k b i f t (.slice bk keys.length ck) (.slice bl list.length cl) = cs
  refine xc_step fun C hC => ?_
  simp [go_sem, xnew, Value.cells]
  intro q hq
  subst hC
  have dmq : m ≠ q := ne_of_none hm hq
  have hM : (A.set q (.cells cs 27)) m = some (.cells #[.int .i64 (n : Int)] 3 (0, 0)) := by rw [set_other dmq]; exact hm
  have cm := cell_of hM (i := 0) rfl
  have hw : IntKind.i64.wrap ((n : Int) + 1) = (n : Int) + 1 := wrap_in (by omega) (by omega)
  have hst : xstore Try.prog 3 (.pointer (some ⟨m, 0, none⟩)) (.int .i64 ((n : Int) + 1)) (A.set q (.cells cs 27)) = some ((A.set q (.cells cs 27)).set m (.cells #[.int .i64 ((n : Int) + 1)] 3 (0, 0))) := xstore_field ti3 hM (by simp) rfl
  refine xc_step fun C hC => ?_
  rw [xc_seq]
  refine xc_step fun C2 hC2 => ?_
  simp [go_sem, xnil, vload, cm, xbin, eqPlain, hw, hst]
  subst hC2
  have L : A.erase m ≤ ((A.set q (.cells cs 27)).set m (.cells #[.int .i64 ((n : Int) + 1)] 3 (0, 0))).erase m := le_erase_set (erase_mono (le_set hq) m)
  have hN : ((A.set q (.cells cs 27)).set m (.cells #[.int .i64 ((n : Int) + 1)] 3 (0, 0))) q = some (.cells cs 27 (0, 0)) := by rw [set_other dmq.symm, set_at]
  have hM2 := set_at (A.set q (.cells cs 27)) m (.cells #[.int .i64 ((n : Int) + 1)] 3 (0, 0))
  clear hst cm hM
  generalize (A.set q (.cells cs 27)).set m (.cells #[.int .i64 ((n : Int) + 1)] 3 (0, 0)) = B at L hN hM2
  subst hN0
  have cm := cell_of hM2 (i := 0) rfl
  have c0 := cell_of hN (i := 0) rfl
  have c1 := cell_of hN (i := 1) rfl
  have c2 := cell_of hN (i := 2) rfl
  have c3 := cell_of hN (i := 3) rfl
  have c4 := cell_of hN (i := 4) rfl
  have c5 := cell_of hN (i := 5) rfl
  have c6 := cell_of hN (i := 6) rfl
  have q1 : ¬ (60 : Int) < d := by omega
  have q1' : ¬ 60 < d := by omega
  have q2 : ¬ (2000 : Int) < (n : Int) + 1 := by omega
  have q2' : ¬ 2000 < n + 1 := by omega
  have q2'' : ¬ 1999 < n := by omega
  simp [go_sem, cm, vload, xnil, xbin, eqPlain, gval, undef, q1, q1', q2, q2', q2'']
  subst hC
  refine xc_step fun C hC => ?_
  rw [xc_seq]
  refine xc_step fun C2 hC2 => ?_
  simp [go_sem, xfieldAt, vload, c0]
  subst hC2
  have fin : k < 6 → ∀ x, AnyV (B.erase m) (.mk k b i f t keys list) x → Gp (.mk k b i f t keys list) n m A (.tuple #[x, .bool true]) B := by
    intro h6 x hx
    refine ⟨x, rfl, L, hx, ?_⟩
    rw [hM2, nodes_mk, hk6 h6]
    congr 5
  rcases hkk with rfl | rfl | rfl | rfl | ⟨rfl, hf⟩ | rfl | ⟨rfl, hris, hlen⟩
  · simp [go_sem, xbin, eqPlain]
    refine fin (by omega) _ ?_
    rw [AnyV]; exact .inl ⟨rfl, rfl⟩
  · simp [go_sem, xbin, eqPlain, xfieldAt, vload, c1, xmkIface]
    refine fin (by omega) _ ?_
    rw [AnyV]; exact .inr (.inl ⟨rfl, rfl⟩)
  · simp [go_sem, xbin, eqPlain, xfieldAt, vload, c2, xmkIface]
    refine fin (by omega) _ ?_
    rw [AnyV]; exact .inr (.inr (.inl ⟨rfl, rfl⟩))
  · simp [go_sem, xbin, eqPlain, xfieldAt, vload, c4, xmkIface]
    refine fin (by omega) _ ?_
    rw [AnyV]; exact .inr (.inr (.inr (.inr (.inl ⟨rfl, rfl⟩))))
  · simp [go_sem, xbin, eqPlain, xfieldAt, vload, c3, xmkIface]
    refine fin (by omega) _ ?_
    rw [AnyV]; exact .inr (.inr (.inr (.inl ⟨rfl, rfl⟩)))
  · rw [xc_block]
    refine xc_step fun C2 hC2 => ?_
    simp [go_sem, xbin, eqPlain]
    subst hC2
    refine xc_iffalse (by simp [go_sem]) ?_
    refine xc_step fun C2 hC2 => ?_
    simp [go_sem, xbin, eqPlain]
    subst hC2
    refine xc_iffalse (by simp [go_sem]) ?_
    refine xc_step fun C2 hC2 => ?_
    simp [go_sem, xbin, eqPlain]
    subst hC2
    refine xc_iffalse (by simp [go_sem]) ?_
    refine xc_step fun C2 hC2 => ?_
    simp [go_sem, xbin, eqPlain]
    subst hC2
    refine xc_iffalse (by simp [go_sem]) ?_
    refine xc_step fun C2 hC2 => ?_
    simp [go_sem, xbin, eqPlain]
    subst hC2
    refine xc_iffalse (by simp [go_sem]) ?_
    refine xc_step fun C2 hC2 => ?_
    simp [go_sem, xbin, eqPlain]
    subst hC2
    refine xc_iftrue (by simp [go_sem]) ?_
    refine xc_step fun C2 hC2 => ?_
    simp [go_sem, xnew, Value.cells, Instr.fill, zerosB]
    intro b0 hb0
    subst hC2
    have hO := own_down (own_fresh (e := 20) (size := 1) hb0) (View.le_trans L (erase_le _ _))
    have LB : B ≤ B.set b0 (.cells #[] 20) := le_set hb0
    have hM3 := LB _ _ hM2
    have c6 := le_cell LB c6
    have LD : A.erase m ≤ B.set b0 (.cells #[] 20) := View.le_trans (View.le_trans L (erase_le _ _)) LB
    generalize B.set b0 (.cells #[] 20) = B1 at hO hM3 c6 LD
    clear LB hb0 c0 c1 c2 c3 c4 c5 cm hN hM2
    refine xc_step fun C2 hC2 => ?_
    simp [go_sem, xfieldAt, vload, c6, xlen]
    refine vloopK (fun k' e ds A' => ∃ (j : Nat) (D : View) (u : Value) (vals : List Value), k' = list.length - j ∧ j ≤ list.length ∧ ds = [] ∧ e 1 = .int .i64 d ∧ e 2 = .pointer (some ⟨m, 0, none⟩) ∧ e 59 = .slice bl list.length cl ∧ e 60 = .int .i64 list.length ∧ e 61 = .int .i64 j ∧ e 8 = u ∧
        A.erase m ≤ D ∧ D ≤ A' ∧ D m = none ∧ A' m = some (.cells #[.int .i64 ((n + 1 + S list j : Nat) : Int)] 3 (0, 0)) ∧ Own D A' 20 1 u j vals ∧ vals.length = j ∧ ∀ i (h : i < list.length), i < j → ∃ y, vals[i]? = some y ∧ AnyV D (list[i]) y) list.length
      ⟨0, A.erase m, _, [], by omega, by omega, rfl, by simp [go_sem], by simp [go_sem], by simp [go_sem], by simp [go_sem], by simp [go_sem], by simp [go_sem], View.le_refl _, LD, if_pos rfl, by rw [S_zero, hM3]; congr 5, hO, rfl, fun i h hi => by omega⟩ ?_
    clear hM3 hO LD c6
    rintro k' e ds B ⟨j, D, u, vals, rfl, hjl, rfl, g1, g2, g59, g60, g61, g8, hAD, hDB, hDm, hM, hO, hvl, hvs⟩ J X hJ hX
    refine xc_sound _ ?_
    by_cases hj : j < list.length
    · obtain ⟨a, cap, c', f1, u1, hc'⟩ := hel j hj
      simp only [Value.slice.injEq] at f1
      obtain ⟨rfl, -, rfl⟩ := f1
      have u1 := le_cells (View.le_trans hAD hDB) _ _ _ u1
      have hjS := S_ge list j (by omega)
      have hSs := S_succ list j hj
      have hSl : S list (j + 1) ≤ (list.map nodes).sum := by
        rw [← S_all]
        exact S_mono list (j + 1) list.length hj
      have hw := wrap_nat (i := j) (by omega)
      have hwd : IntKind.i64.wrap ((d : Int) + 1) = ((d + 1 : Nat) : Int) := wrap_nat (by omega)
      refine xc_step fun C3 hC3 => ?_
      simp [go_sem, g60, g61, xbin, eqPlain, hj]
      subst hC3
      refine xc_step fun C3 hC3 => ?_
      simp [go_sem]
      subst hC3
      refine xc_step fun C3 hC3 => ?_
      rw [xc_seq, xc_block]
      refine xc_step fun C4 hC4 => ?_
      simp [go_sem, g59, g61, xindexAt, hj, vload, u1, xnew, zeroOf, Value.cells]
      intro m2 hm2
      have d2 : m ≠ m2 := ne_of_none hM hm2
      have hst := xstore_agg (P := Try.prog) (vs := c') ti27 hc'.size (set_at B m2 (.cells #[.int .i64 0, .bool false, .int .i64 0, .float .f64 0, .string ⟨#[]⟩, .slice none 0 0, .slice none 0 0] 27)) (by rw [hc'.size]; rfl) hc'.one
      rw [set_set] at hst
      have gm2 := cells_block (set_at B m2 (.cells c' 27)) hc'.size
      have hM2 : (B.set m2 (.cells c' 27)) m = some (.cells #[.int .i64 ((n + 1 + S list j : Nat) : Int)] 3 (0, 0)) := by rw [set_other d2]; exact hM
      have L2 : B ≤ B.set m2 (.cells c' 27) := le_set hm2
      simp [hst, onS_some]
      subst hC4
      clear hst hm2
      generalize B.set m2 (.cells c' 27) = B2 at gm2 hM2 L2
      have hE : D.set m (.cells #[.int .i64 ((n + 1 + S list j : Nat) : Int)] 3 (0, 0)) ≤ B2 := by
        intro x o hx
        by_cases hxm : x = m
        · subst hxm; rw [set_at] at hx; rw [hM2]; exact hx
        · rw [set_other hxm] at hx; exact L2 _ _ (hDB _ _ hx)
      have hDE : D ≤ (D.set m (.cells #[.int .i64 ((n + 1 + S list j : Nat) : Int)] 3 (0, 0))).erase m := le_erase_set (le_erase (View.le_refl _) hDm)
      refine xc_step fun C4 hC4 => ?_
      simp [go_sem, g1, g2, vload, gm2, xbin, eqPlain, hwd]
      refine (calls_base (ih j hj (D.set m (.cells #[.int .i64 ((n + 1 + S list j : Nat) : Int)] 3 (0, 0))) c' _ (d + 1) m (n + 1 + S list j) (hc'.le (View.le_trans hAD hDE)) (set_at _ _ _) (hGs j hj) (by omega) (by omega)) hE).mono ?_
      rintro _ B3 ⟨D2, ⟨x, rfl, hED, hx, hM4⟩, hDB3, hkeep⟩
      have hDD : D ≤ D2.erase m := View.le_trans hDE hED
      have hum := own_type_ne hO hM (by decide)
      have hO3 : Own (D2.erase m) B3 20 1 u j vals := own_move hO fun k o h1 h2 h3 => by
        have hkm : k ≠ m := fun hx => hum (by rw [h2, hx])
        have h4 := hkeep k o (by rw [set_other hkm]; exact h1) (L2 _ _ h3)
        exact ⟨by rw [erase_at hkm]; exact h4.1, h4.2⟩
      have hM5 := hDB3 _ _ hM4
      have hD3 : D2.erase m ≤ B3 := View.le_trans (erase_le _ _) hDB3
      simp [go_sem]
      subst hC4
      clear hkeep hM2 gm2 hM hE
      refine xc_step fun C4 hC4 => ?_
      simp [go_sem, xunop]
      subst hC4
      have hj2 : j + 1 ≤ 2001 := by omega
      have hb16 : (j + 1) * 16 ≤ 140737488355328 := Nat.le_trans (Nat.mul_le_mul_right 16 hj2) (by decide)
      rcases hx.iface with rfl | ⟨ty, w0, rfl⟩ <;>
      · have hum3 := own_type_ne hO3 hM5 (by decide)
        simp [go_sem, g8, xnew, Instr.fill, zerosB, Value.cells]
        intro b3 hb3
        have hmb := ne_of_none hM5 hb3
        refine xappend_own ti93 ti93 (fun k => by simp) ti20 rfl (by decide) (hO3.le (le_set hb3)) (View.le_trans hD3 (le_set hb3)) appended_one (by simp) (by simp [Go.Proofs.YtogfpbnbojhpoaaV.one]) hb16 fun v' A4 h1' h2' h3' => ?_
        have hM6 : A4 m = some (.cells #[.int .i64 ((n + 1 + S list j + nodes list[j] : Nat) : Int)] 3 (0, 0)) := (eraseB_some (h3' m _ ((eraseB_apart hum3).trans ((set_other hmb).trans hM5)))).2
        try simp [go_sem]
        subst hC3
        simp [go_sem, g61, xbin, eqPlain, hw]
        have hlt : list.length - (j + 1) < list.length - j := by omega
        have hle1 : j + 1 ≤ list.length := hj
        refine hJ (list.length - (j + 1)) _ _ _ hlt ⟨j + 1, D2.erase m, v', vals ++ [_], rfl, hle1, rfl, by simp [go_sem, g1], by simp [go_sem, g2], by simp [go_sem, g59], by simp [go_sem, g60], by simp [go_sem], by simp [go_sem], View.le_trans hAD hDD, h1', if_pos rfl, ?_, h2', by simp [hvl], fun i h hi => ?_⟩
        · rw [hM6, hSs]
          congr 5
          omega
        · rcases Nat.lt_or_eq_of_le (Nat.le_of_lt_succ hi) with hi | hi
          · obtain ⟨y, h5, h6⟩ := hvs i h hi
            exact ⟨y, by rw [List.getElem?_append_left (by omega)]; exact h5, h6.le hDD⟩
          · subst hi
            refine ⟨_, ?_, hx⟩
            rw [List.getElem?_append_right (by omega), hvl]
            simp
    · have hj' : j = list.length := by omega
      subst hj'
      have hum := own_type_ne hO hM (by decide)
      have hD : D ≤ B.erase m := le_erase hDB hDm
      have hO2 : Own D (B.erase m) 20 1 u list.length vals := own_move hO fun k o h1 h2 h3 => ⟨h1, by rw [erase_at (fun hx => hum (by rw [h2, hx]))]; exact h3⟩
      refine xc_step fun C3 hC3 => ?_
      simp [go_sem, g60, g61, xbin, eqPlain]
      subst hC3
      refine xc_step fun C3 hC3 => ?_
      simp [go_sem]
      refine hX _ _ _ _ ?_
      simp [go_sem]
      subst hC2
      simp [go_sem, g8, xmkIface]
      refine ⟨_, rfl, View.le_trans hAD hD, ?_, ?_⟩
      · rw [AnyV]
        refine .inr (.inr (.inr (.inr (.inr (.inl ⟨rfl, u, vals, rfl, hO2.row, hvl, fun j h => ?_⟩)))))
        obtain ⟨y, h5, h6⟩ := hvs j h h
        exact ⟨y, h5, h6.le hD⟩
      · rw [hM, nodes_mk, S_all]
        congr 5
        omega
  · rw [xc_block]
    refine xc_step fun C2 hC2 => ?_
    simp [go_sem, xbin, eqPlain]
    subst hC2
    refine xc_iffalse (by simp [go_sem]) ?_
    refine xc_step fun C2 hC2 => ?_
    simp [go_sem, xbin, eqPlain]
    subst hC2
    refine xc_iffalse (by simp [go_sem]) ?_
    refine xc_step fun C2 hC2 => ?_
    simp [go_sem, xbin, eqPlain]
    subst hC2
    refine xc_iffalse (by simp [go_sem]) ?_
    refine xc_step fun C2 hC2 => ?_
    simp [go_sem, xbin, eqPlain]
    subst hC2
    refine xc_iffalse (by simp [go_sem]) ?_
    refine xc_step fun C2 hC2 => ?_
    simp [go_sem, xbin, eqPlain]
    subst hC2
    refine xc_iffalse (by simp [go_sem]) ?_
    refine xc_step fun C2 hC2 => ?_
    simp [go_sem, xbin, eqPlain]
    subst hC2
    refine xc_iffalse (by simp [go_sem]) ?_
    refine xc_step fun C2 hC2 => ?_
    simp [go_sem, xbin, eqPlain]
    subst hC2
    refine xc_iftrue (by simp [go_sem]) ?_
    have hn1 : ((keys.length : Int) != (list.length : Int)) = false := by simp [hlen]
    refine xc_step fun C2 hC2 => ?_
    simp [go_sem, xfieldAt, vload, c5, c6, xlen, xbin, eqPlain, hn1]
    subst hC2
    refine xc_step fun C2 hC2 => ?_
    simp [go_sem, xnew]
    intro r hr
    subst hC2
    have LB : B ≤ B.set r (.map #[] 0) := le_set hr
    have hP := MapP.new (A := B) (r := r)
    have hM3 := LB _ _ hM2
    have hN3 := LB _ _ hN
    have LA : A.erase m ≤ B := View.le_trans L (erase_le _ _)
    have hrA : A.erase m r = none := none_le LA hr
    have hqA : A.erase m q = none := by rw [erase_at dmq.symm]; exact hq
    have LD : A.erase m ≤ B.set r (.map #[] 0) := View.le_trans LA LB
    have drm : r ≠ m := (ne_of_none hM2 hr).symm
    have drq : r ≠ q := (ne_of_none hN hr).symm
    generalize B.set r (.map #[] 0) = B1 at hP hM3 hN3 LD
    clear LB LA hr c0 c1 c2 c3 c4 cm hN hM2 c5 c6
    have c5 := cell_of hN3 (i := 5) rfl
    refine xc_step fun C2 hC2 => ?_
    simp [go_sem, xfieldAt, vload, c5, xlen]
    refine vloopK (fun k' e ds A' => ∃ (j : Nat) (D : View) (vals : List Value), k' = list.length - j ∧ j ≤ list.length ∧ ds = [] ∧ e 1 = .int .i64 d ∧ e 2 = .pointer (some ⟨m, 0, none⟩) ∧ e 3 = .pointer (some ⟨q, 0, none⟩) ∧ e 13 = .map (some r) ∧ e 93 = .slice bk keys.length ck ∧ e 94 = .int .i64 keys.length ∧ e 95 = .int .i64 j ∧
        A.erase m ≤ D ∧ D ≤ A' ∧ D m = none ∧ D r = none ∧ D q = none ∧ A' m = some (.cells #[.int .i64 ((n + 1 + S list j : Nat) : Int)] 3 (0, 0)) ∧ A' q = some (.cells (rvc 7 b i f t (.slice bk keys.length ck) (.slice bl list.length cl)) 27 (0, 0)) ∧ MapP A' r ((keys.take j).zip vals) ∧ vals.length = j ∧ ∀ i (h : i < list.length), i < j → ∃ y, vals[i]? = some y ∧ AnyV D (list[i]) y) list.length
      ⟨0, A.erase m, [], by omega, by omega, rfl, by simp [go_sem], by simp [go_sem], by simp [go_sem], by simp [go_sem], by simp [go_sem], by simp [go_sem], by simp [go_sem], View.le_refl _, LD, if_pos rfl, hrA, hqA, by rw [S_zero, hM3]; congr 5, hN3, by simpa using hP, rfl, fun i h hi => by omega⟩ ?_
    clear hM3 hN3 hP LD c5 hrA hqA
    rintro k' e ds B ⟨j, D, vals, rfl, hjl, rfl, g1, g2, g3, g13, g93, g94, g95, hAD, hDB, hDm, hDr, hDq, hM, hN, hP, hvl, hvs⟩ J X hJ hX
    refine xc_sound _ ?_
    by_cases hj : j < list.length
    · obtain ⟨a, cap, c', f1, u1, hc'⟩ := hel j hj
      simp only [Value.slice.injEq] at f1
      obtain ⟨rfl, -, rfl⟩ := f1
      have hjk : j < keys.length := by omega
      obtain ⟨ak, capk, f2, u2⟩ := hks.at' hjk
      simp only [Value.slice.injEq] at f2
      obtain ⟨rfl, -, rfl⟩ := f2
      have u1 := le_cells (View.le_trans hAD hDB) _ _ _ u1
      have u2 := le_cell (View.le_trans hAD hDB) u2
      have hjS := S_ge list j (by omega)
      have hSs := S_succ list j hj
      have hSl : S list (j + 1) ≤ (list.map nodes).sum := by
        rw [← S_all]
        exact S_mono list (j + 1) list.length hj
      have hw := wrap_nat (i := j) (by omega)
      have hwd : IntKind.i64.wrap ((d : Int) + 1) = ((d + 1 : Nat) : Int) := wrap_nat (by omega)
      have c5 := cell_of hN (i := 5) rfl
      have c6 := cell_of hN (i := 6) rfl
      refine xc_step fun C3 hC3 => ?_
      simp [go_sem, g94, g95, xbin, eqPlain, hjk]
      subst hC3
      refine xc_step fun C3 hC3 => ?_
      simp [go_sem]
      subst hC3
      refine xc_step fun C3 hC3 => ?_
      rw [xc_seq, xc_block]
      refine xc_step fun C4 hC4 => ?_
      simp [go_sem, g93, g95, xindexAt, hjk, vload, u2]
      subst hC4
      have hE : D.set m (.cells #[.int .i64 ((n + 1 + S list j : Nat) : Int)] 3 (0, 0)) ≤ B := by
        intro x o hx
        by_cases hxm : x = m
        · subst hxm; rw [set_at] at hx; rw [hM]; exact hx
        · rw [set_other hxm] at hx; exact hDB _ _ hx
      have hDE : D ≤ (D.set m (.cells #[.int .i64 ((n + 1 + S list j : Nat) : Int)] 3 (0, 0))).erase m := le_erase_set (le_erase (View.le_refl _) hDm)
      refine xc_step fun C4 hC4 => ?_
      simp [go_sem, g1, g2, g3, xfieldAt, vload, c6, xindexAt, hj, u1, xbin, eqPlain, hwd]
      refine (calls_base (ih j hj (D.set m (.cells #[.int .i64 ((n + 1 + S list j : Nat) : Int)] 3 (0, 0))) c' _ (d + 1) m (n + 1 + S list j) (hc'.le (View.le_trans hAD hDE)) (set_at _ _ _) (hGs j hj) (by omega) (by omega)) hE).mono ?_
      rintro _ B3 ⟨D2, ⟨x, rfl, hED, hx, hM4⟩, hDB3, hkeep⟩
      have hDD : D ≤ D2.erase m := View.le_trans hDE hED
      have hM5 := hDB3 _ _ hM4
      have hD3 : D2.erase m ≤ B3 := View.le_trans (erase_le _ _) hDB3
      have hq3 := hkeep q _ (by rw [set_other dmq.symm]; exact hDq) hN
      obtain ⟨es0, cc0, hr0, hrest⟩ := id hP
      have hr3 := hkeep r _ (by rw [set_other drm]; exact hDr) hr0
      have hP3 : MapP B3 r ((keys.take j).zip vals) := MapP.congr (by rw [hr0, hr3.2]) hP
      simp [go_sem]
      subst hC4
      clear hkeep hM hE c5 c6 hP
      have c5 := cell_of hq3.2 (i := 5) rfl
      have hdist : ∀ p ∈ (keys.take j).zip vals, p.1 ≠ keys[j] := by
        intro p hp hx
        have h1 := (List.of_mem_zip hp).1
        obtain ⟨i, hi, h2⟩ := List.getElem_of_mem h1
        rw [List.length_take] at hi
        rw [List.getElem_take] at h2
        exact rising_ne hris hjk (i := i) (by omega) (by rw [h2]; exact hx)
      obtain ⟨o, ho, hP4⟩ := hP3.insert (P := Try.prog) (t := 63) (s := keys[j]) (v := x) (by kernel_rfl) hdist
      refine xc_step fun C4 hC4 => ?_
      have tl : ∀ e' : Env, e' 1 = .int .i64 d → e' 2 = .pointer (some ⟨m, 0, none⟩) → e' 3 = .pointer (some ⟨q, 0, none⟩) → e' 13 = .map (some r) → e' 93 = .slice (some ak) keys.length ck → e' 94 = .int .i64 keys.length → e' 95 = .int .i64 j → e' 15 = .string keys[j] → e' 16 = x →
          xc Try.prog 134 C4 (inB 4 (thenQ (xc Try.prog 134 C3 (thenQ J X)) (thenQ J X))) e' [] B3 := by
        clear g1 g2 g3 g13 g93 g94 g95
        intro e' g1 g2 g3 g13 g93 g94 g95 g15 g16
        subst hC4
        simp [go_sem, g13, g15, g16, ho]
        subst hC3
        simp [go_sem, g95, xbin, eqPlain, hw]
        have hlt : list.length - (j + 1) < list.length - j := by omega
        have hle1 : j + 1 ≤ list.length := hj
        have hDr' : D2.erase m r = none := by rw [erase_at drm]; exact hr3.1
        have hDq' : D2.erase m q = none := by rw [erase_at dmq.symm]; exact hq3.1
        refine hJ (list.length - (j + 1)) _ _ _ hlt ⟨j + 1, D2.erase m, vals ++ [x], rfl, hle1, rfl, by simp [go_sem, g1], by simp [go_sem, g2], by simp [go_sem, g3], by simp [go_sem, g13], by simp [go_sem, g93], by simp [go_sem, g94], by simp [go_sem], View.le_trans hAD hDD, le_set' hD3 hDr', if_pos rfl, hDr', hDq', ?_, ?_, ?_, by simp [hvl], fun i h hi => ?_⟩
        · rw [set_other drm.symm, hM5, hSs]
          congr 5
          omega
        · rw [set_other drq.symm]; exact hq3.2
        · rw [List.take_succ_eq_append_getElem hjk, List.zip_append (by rw [List.length_take, hvl]; omega)]
          exact hP4
        · rcases Nat.lt_or_eq_of_le (Nat.le_of_lt_succ hi) with hi | hi
          · obtain ⟨y, h5, h6⟩ := hvs i h hi
            exact ⟨y, by rw [List.getElem?_append_left (by omega)]; exact h5, h6.le hDD⟩
          · subst hi
            refine ⟨x, ?_, hx⟩
            rw [List.getElem?_append_right (by omega), hvl]
            simp
      rw [xc_seq]
      refine xc_reg 16 rfl fun K hK => ?_
      simp only [show (List.range 16).map (·, true) = [(0, true), (1, true), (2, true), (3, true), (4, true), (5, true), (6, true), (7, true), (8, true), (9, true), (10, true), (11, true), (12, true), (13, true), (14, true), (15, true)] from rfl, rslv_cons, rslv_nil, List.getElem?_toArray, List.getElem?_cons_zero, List.getElem?_cons_succ, gres]
      by_cases hj0 : j = 0
      · have hj1 : ¬ (0 : Int) < j := by omega
        have hj2 : ¬ 0 < j := by omega
        (repeat (refine seqX_hide fun R hR => ?_; simp [go_sem, xfieldAt, xlen, xnil, vload, xbin, eqPlain, wantR, undef, xunop, hj1, hj2]; subst hR))
        rw [seqX_nil]
        refine hK _ _ _ ?_
        simp [go_sem]
        exact tl _ (by simp [go_sem, g1]) (by simp [go_sem, g2]) (by simp [go_sem, g3]) (by simp [go_sem, g13]) (by simp [go_sem, g93]) (by simp [go_sem, g94]) (by simp [go_sem, g95]) (by simp [go_sem]) (by simp [go_sem])
      · have hj1 : (0 : Int) < j := by omega
        have hj2 : 0 < j := by omega
        have hjm : j - 1 < keys.length := by omega
        obtain ⟨a3, cap3, f3, u3⟩ := hks.at' hjm
        simp only [Value.slice.injEq, Option.some.injEq] at f3
        obtain ⟨rfl, -, -⟩ := f3
        have u3 := le_cell (View.le_trans hAD (View.le_trans hDD hD3)) u3
        have hwm : IntKind.i64.wrap ((j : Int) - 1) = ((j - 1 : Nat) : Int) := by rw [wrap_in (by omega) (by omega)]; omega
        have hb : Op.bytesLess keys[j - 1].toList keys[j].toList = true := by
          have := hris (j - 1) (by omega)
          simpa only [show j - 1 + 1 = j by omega] using this
        (repeat (refine seqX_hide fun R hR => ?_; simp [go_sem, xfieldAt, xlen, xnil, vload, xbin, eqPlain, wantR, undef, xunop, g3, c5, hj1, hj2, hwm, xindexAt, hjm, u3, hb]; subst hR))
        rw [seqX_nil]
        refine hK _ _ _ ?_
        simp [go_sem]
        exact tl _ (by simp [go_sem, g1]) (by simp [go_sem, g2]) (by simp [go_sem, g3]) (by simp [go_sem, g13]) (by simp [go_sem, g93]) (by simp [go_sem, g94]) (by simp [go_sem, g95]) (by simp [go_sem]) (by simp [go_sem])
    · have hj' : j = list.length := by omega
      subst hj'
      have hD : D ≤ B.erase m := le_erase hDB hDm
      have hnk : ¬ list.length < keys.length := by omega
      refine xc_step fun C3 hC3 => ?_
      simp [go_sem, g94, g95, xbin, eqPlain, hnk]
      subst hC3
      refine xc_step fun C3 hC3 => ?_
      simp [go_sem]
      refine hX _ _ _ _ ?_
      simp [go_sem]
      subst hC2
      simp [go_sem, g13, xmkIface]
      refine ⟨_, rfl, View.le_trans hAD hD, ?_, ?_⟩
      · rw [AnyV]
        refine .inr (.inr (.inr (.inr (.inr (.inr ⟨rfl, r, vals, rfl, ?_, by omega, fun j h => ?_⟩)))))
        · rw [← hlen, List.take_length] at hP
          exact MapP.congr (erase_at drm).symm hP
        · obtain ⟨y, h5, h6⟩ := hvs j h h
          exact ⟨y, h5, h6.le hD⟩
      · rw [hM, nodes_mk, S_all]
        congr 5
        omega
theorem any63 : ∀ (v : RV), A63 v
  | .mk k b i f t keys list => any63_step k b i f t keys list fun j h => any63 (list[j])
termination_by v => SizeOf.sizeOf v
decreasing_by
  have := List.sizeOf_lt_of_mem (List.getElem_mem h)
  simp
  omega
end Go.Proofs.YtogfpbnbojhpoaaV

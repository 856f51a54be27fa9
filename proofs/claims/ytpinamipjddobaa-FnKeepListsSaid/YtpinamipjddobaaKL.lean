/- Trees: spec.Text, MapNode, Field. -/
import Derived.Test.YtpinamipjddobaaKI0
namespace Go.Proofs.YtpinamipjddobaaV
open Go.RowKit
set_option linter.unusedSimpArgs false
set_option linter.unusedVariables false
/-- A text's node. -/
def tn (s : ByteArray) : Tr := .mk 8 0 tStr s e0 e0 e0 e0 0 0 (-1) []
theorem Parts.push2 {k : Nat} {cs d : List Value} {α : Type} {l : List α} {Q : α → Array Value → Prop} {x y : α} {c1 c2 : Array Value} (h : Parts k cs l Q) (hl : cs.length = l.length * k) (h1 : c1.size = k) (h2 : c2.size = k) (hx : Q x c1) (hy : Q y c2) (hd : d = c1.toList ++ c2.toList) : Parts k (cs ++ d) (l ++ [x, y]) Q := by
  subst hd
  have e : c1.toList.length = k := Array.length_toList.trans h1
  have := (h.push hl h1 hx).push (by rw [List.length_append, List.length_append, e, hl, List.length_singleton, Nat.add_mul, Nat.one_mul]) h2 hy
  rw [List.append_assoc, List.append_assoc] at this
  exact this
theorem appended_block {P : Program} {A : View} {q n size cap : Nat} {c : Array Value} {e : TypeId} (h : A q = some (.cells c e (0, 0))) (hn : c.size = n * size) : appended P A size (.slice (some ⟨q, 0, none⟩) n cap) = some (c.toList, n) := by
  rw [appended, cells_block h hn]
  rfl
def pairsT : List ByteArray → List Tr → List Tr
  | s :: l, t :: ts => tn s :: t :: pairsT l ts
  | _, _ => []
theorem pairsT_len : ∀ (l : List ByteArray) (ts : List Tr), l.length = ts.length → (pairsT l ts).length = 2 * l.length
  | [], [], _ => rfl
  | s :: l, t :: ts, h => by
    rw [pairsT, List.length_cons, List.length_cons, pairsT_len l ts (by simpa using h), List.length_cons]
    omega
  | [], _ :: _, h => by cases h
  | _ :: _, [], h => by cases h
theorem pairsT_take : ∀ (l : List ByteArray) (ts : List Tr) (i : Nat) (h1 : i < l.length) (h2 : i < ts.length), pairsT (l.take (i + 1)) (ts.take (i + 1)) = pairsT (l.take i) (ts.take i) ++ [tn l[i], ts[i]]
  | s :: l, t :: ts, 0, _, _ => by simp [pairsT]
  | s :: l, t :: ts, i + 1, h1, h2 => by
    rw [List.take_succ_cons, List.take_succ_cons, pairsT, pairsT_take l ts i (by simpa using h1) (by simpa using h2), List.take_succ_cons, List.take_succ_cons, pairsT]
    rfl
/-- The mapping of such keys and values. -/
def mapN (l : List ByteArray) (ts : List Tr) : Tr := .mk 4 0 tMap e0 e0 e0 e0 e0 0 0 (-1) (pairsT l ts)
set_option maxRecDepth 20000 in
theorem text16 (A : View) (s : ByteArray) : VCalls Try.prog 22 #[.string s] A fun r A' => r = .agg (trc 8 0 tStr s e0 e0 e0 e0 0 0 (-1) (.slice none 0 0)) ∧ A ≤ A' := by
  refine xcalls Try.func22 rfl (by simp [Try.ntmps22]) ?_
  simp only [Try.f22]
  have hP : Priv A (addrs []) := Priv.nil A
  show xc _ _ _ _ _ _ (ov A [])
  refine xc_two fun N1 hN1 => ?_
  refine xc_reg2 fun K hK => ?_
  simp only [rall, rsl, gres]
  refine seqX_hide2 fun R hR => ?_
  simp [go_sem]
  intro q2 hq2
  replace hP := hP.cons hq2
  clear hq2
  refine hR _ _ _ ?_; clear hR R
  rw [seqX_nil]
  refine hK _ _ _ ?_; clear hK K
  refine hN1 _ _ _ ?_
  refine xc_two fun N2 hN2 => ?_
  refine xc_reg2 fun K hK => ?_
  simp only [rall, rsl, gres]
  iterate 2 (refine seqX_hide2 fun R hR => ?_; simp [go_sem]; refine hR _ _ _ ?_; clear hR R)
  refine seqX_hide2 fun R hR => ?_
  simp [go_sem]
  refine hR _ _ _ ?_; clear hR R
  rw [seqX_nil]
  refine hK _ _ _ ?_; clear hK K
  refine hN2 _ _ _ ?_
  simp [go_sem]
  refine ⟨⟨rfl, rfl⟩, ?_⟩
  exact le_ov hP
theorem text_is (A : View) (s : ByteArray) : IsTr A (tn s) (trc 8 0 tStr s e0 e0 e0 e0 0 0 (-1) (.slice none 0 0)) := IsTr.of (Elems.nil _ _ _)
set_option maxRecDepth 20000 in
set_option maxHeartbeats 400000 in
theorem mapNode15 (A : View) (l : List ByteArray) (ts : List Tr) (u w : Value) (hu : Texts A u l) (hw : Trs A w ts) (hl : l.length = ts.length) (hb : l.length ≤ 1000000) : VCalls Try.prog 33 #[u, w] A fun r A' => ∃ c, r = .agg c ∧ IsTr A' (mapN l ts) c ∧ A ≤ A' := by
  obtain ⟨ub, uc, rfl⟩ := hu.slice
  obtain ⟨wb, wc, rfl⟩ := hw.slice
  refine xcalls Try.func33 rfl (by simp [Try.ntmps33]) ?_
  simp only [Try.f33]
  have hP : Priv A (addrs []) := Priv.nil A
  show xc _ _ _ _ _ _ (ov A [])
  refine xc_two fun N1 hN1 => ?_
  refine xc_reg2 fun K hK => ?_
  simp only [rall, rsl, gres]
  refine seqX_hide2 fun R hR => ?_
  simp [go_sem]
  intro q4 hq4
  replace hP := hP.cons hq4
  clear hq4
  refine hR _ _ _ ?_; clear hR R
  rw [seqX_nil]
  refine hK _ _ _ ?_; clear hK K
  refine hN1 _ _ _ ?_
  refine xc_two fun N2 hN2 => ?_
  refine xc_reg2 fun K hK => ?_
  simp only [rall, rsl, gres]
  (refine seqX_hide2 fun R hR => ?_; simp [go_sem]; refine hR _ _ _ ?_; clear hR R)
  refine seqX_hide2 fun R hR => ?_
  simp [go_sem]
  intro q5 hq5
  replace hP := hP.cons hq5
  clear hq5
  have d54 : q5 ≠ q4 := (hP.ne q4 (by simp [addrs])).1
  have d45 : q4 ≠ q5 := (hP.ne q4 (by simp [addrs])).2
  refine hR _ _ _ ?_; clear hR R
  refine seqX_hide2 fun R hR => ?_
  simp [go_sem, d54, d45]
  refine hR _ _ _ ?_; clear hR R
  rw [seqX_nil]
  refine hK _ _ _ ?_; clear hK K
  refine hN2 _ _ _ ?_
  refine xc_two fun N3 hN3 => ?_
  refine xc_two fun N4 hN4 => ?_
  refine xc_reg2 fun K hK => ?_
  simp only [rall, rsl, gres]
  iterate 3 (refine seqX_hide2 fun R hR => ?_; simp [go_sem, d54, d45]; refine hR _ _ _ ?_; clear hR R)
  rw [seqX_nil]
  refine hK _ _ _ ?_; clear hK K
  refine hN4 _ _ _ ?_
  rw [xc_block]
  rw [xc_loop]
  refine vloopK (fun k' e ds A' => ∃ (i : Nat) (D : View) (kv : Value) (cs : List Value) (ks : List Tr), k' = l.length - i ∧ ds = [] ∧ A' = ov D [(q5, .cells (trc 4 0 tMap e0 e0 e0 e0 e0 0 0 (-1) kv) 24 (0, 0)), (q4, .cells (trc 0 0 e0 e0 e0 e0 e0 e0 0 0 0 (.slice none 0 0)) 24 (0, 0))] ∧ Priv D [q5, q4] ∧ e 0 = .slice ub l.length uc ∧ e 1 = .slice wb ts.length wc ∧ e 4 = .pointer (some ⟨q4, 0, none⟩) ∧ e 5 = .pointer (some ⟨q5, 0, none⟩) ∧ e 9 = .slice ub l.length uc ∧ e 10 = .int .i64 l.length ∧ e 11 = .int .i64 i ∧ (i ≤ l.length) ∧ (A ≤ eraseB D kv) ∧ (Own (eraseB D kv) D 24 12 kv ks.length cs) ∧ (Parts 12 cs ks (IsTr (eraseB D kv))) ∧ (ks = pairsT (l.take i) (ts.take i))) _ ⟨0, A, .slice none 0 0, [], [], rfl, rfl, rfl, hP, by simp [go_sem, d54, d45], by simp [go_sem, d54, d45], by simp [go_sem, d54, d45], by simp [go_sem, d54, d45], by simp [go_sem, d54, d45], by simp [go_sem, d54, d45], by simp [go_sem, d54, d45], by omega, View.le_refl _, Own.nil _ _ _ _, Parts.nil _ _, rfl⟩ ?_
  clear hP
  rintro k' e ds _ ⟨i, D, kv, cs, ks, rfl, rfl, rfl, hP, g0, g1, g4, g5, g9, g10, g11, hil, hAD, hO, hpp, hks⟩ J1 X1 hJ1 hX1
  refine xc_sound _ ?_
  have hw1 : IntKind.i64.wrap ((i : Int) + 1) = ((i + 1 : Nat) : Int) := by rw [wrap_in (by omega) (by omega)]; omega
  obtain ⟨vb, vc, rfl⟩ := hO.shape
  have hkl := pairsT_len (l.take i) (ts.take i) (by rw [List.length_take, List.length_take, hl])
  rw [List.length_take, Nat.min_eq_left hil] at hkl
  rw [← hks] at hkl
  by_cases hi : i < l.length
  rotate_left
  · obtain rfl : i = l.length := by omega
    rw [List.take_length, hl, List.take_length] at hks
    subst hks
    refine xc_two fun N5 hN5 => ?_
    refine xc_reg2 fun K hK => ?_
    simp only [rall, rsl, gres]
    (refine seqX_hide2 fun R hR => ?_; simp [go_sem, d54, d45, g0, g1, g4, g5, g9, g10, g11, hi]; refine hR _ _ _ ?_; clear hR R)
    rw [seqX_nil]
    refine hK _ _ _ ?_; clear hK K
    refine hN5 _ _ _ ?_
    refine xc_two fun N6 hN6 => ?_
    refine xc_iffalse (by simp [go_sem, d54, d45, g0, g1, g4, g5, g9, g10, g11, hi]) ?_
    refine hX1 _ _ _ _ ?_
    refine hN3 _ _ _ ?_
    refine xc_two fun N7 hN7 => ?_
    refine xc_reg2 fun K hK => ?_
    simp only [rall, rsl, gres]
    (refine seqX_hide2 fun R hR => ?_; simp [go_sem, d54, d45, g0, g1, g4, g5, g9, g10, g11, hi]; refine hR _ _ _ ?_; clear hR R)
    refine seqX_hide2 fun R hR => ?_
    simp [go_sem, d54, d45, g0, g1, g4, g5, g9, g10, g11, hi]
    refine hR _ _ _ ?_; clear hR R
    rw [seqX_nil]
    refine hK _ _ _ ?_; clear hK K
    refine hN7 _ _ _ ?_
    simp [go_sem, d54, d45, g0, g1, g4, g5, g9, g10, g11, hi]
    refine ⟨IsTr.of (Elems.le (fun _ _ g => IsTr.le ?_ _ _ g) ?_ (hO.elems (hpp.le fun _ _ g => IsTr.le (eraseB_le _ _) _ _ g))), View.le_trans hAD (View.le_trans (eraseB_le _ _) ?_)⟩
    · exact le_ov hP
    · exact le_ov hP
    · exact le_ov hP
  obtain ⟨a0, ca0, f0, u0⟩ := hu.at' hi
  simp only [Value.slice.injEq] at f0
  obtain ⟨rfl, -, rfl⟩ := f0
  have hi2 : i < ts.length := by omega
  obtain ⟨bs', cap', f1, hel⟩ := hw
  simp only [Value.slice.injEq, true_and] at f1
  obtain ⟨rfl, rfl⟩ := f1
  obtain ⟨a1, ci, rfl, u1, hci0⟩ := hel i hi2
  have hii : (i : Int) < l.length := by omega
  have hii2 : (i : Int) < ts.length := by omega
  have u0e := le_cell hAD u0
  have u0 := le_cell (eraseB_le D _) u0e
  have u1e := le_cells hAD _ _ _ u1
  have u1 := le_cells (eraseB_le D _) _ _ _ u1e
  have hci := hci0.le hAD
  have hcz := hci.size
  have hco := hci.ones
  obtain ⟨k, st, tag, val, an, h, ln, f, row, col, al, kk, hkk⟩ := (ts[i]).ex
  obtain ⟨bb, bc0, hci1, -⟩ := (hkk ▸ hci).open
  subst hci1
  have hPe : Priv (eraseB D (.slice vb ks.length vc)) [q5, q4] := hP.anti (fun b _ h => none_le (eraseB_le D (.slice vb ks.length vc)) h)
  refine xc_two fun N5 hN5 => ?_
  refine xc_reg2 fun K hK => ?_
  simp only [rall, rsl, gres]
  (refine seqX_hide2 fun R hR => ?_; simp [go_sem, d54, d45, g0, g1, g4, g5, g9, g10, g11, hi, hii, hi2, hii2, hw1, hcz, hco, bc hP u0, bc hPe u0e, bcs hPe u1e, xindexAt, vload]; refine hR _ _ _ ?_; clear hR R)
  rw [seqX_nil]
  refine hK _ _ _ ?_; clear hK K
  refine hN5 _ _ _ ?_
  refine xc_two fun N6 hN6 => ?_
  refine xc_iftrue (by simp [go_sem, d54, d45, g0, g1, g4, g5, g9, g10, g11, hi, hii, hi2, hii2, hw1, hcz, hco, bc hP u0, bc hPe u0e, bcs hPe u1e, xindexAt, vload]) ?_
  refine hN6 _ _ _ ?_
  refine xc_two fun N7 hN7 => ?_
  rw [xc_block]
  refine xc_two fun N8 hN8 => ?_
  refine xc_reg2 fun K hK => ?_
  simp only [rall, rsl, gres]
  iterate 5 (refine seqX_hide2 fun R hR => ?_; simp [go_sem, d54, d45, g0, g1, g4, g5, g9, g10, g11, hi, hii, hi2, hii2, hw1, hcz, hco, bc hP u0, bc hPe u0e, bcs hPe u1e, xindexAt, vload]; refine hR _ _ _ ?_; clear hR R)
  rw [seqX_nil]
  refine hK _ _ _ ?_; clear hK K
  refine hN8 _ _ _ ?_
  rw [xc_draws]
  refine vdrawK [(0, true), (1, true), (2, true), (3, true), (4, true), (5, true), (6, true), (7, true), (8, true), (9, false), (10, true), (11, false)] (ov (eraseB D (.slice vb ks.length vc)) [(q5, .cells (trc 4 0 tMap e0 e0 e0 e0 e0 0 0 (-1) (.slice vb ks.length vc)) 24 (0, 0)), (q4, .cells (trc 0 0 e0 e0 e0 e0 e0 e0 0 0 0 (.slice none 0 0)) 24 (0, 0))]) mixed (by kernel_rfl) (ov_mono (eraseB_le _ _)) fun K hK => ?_
  simp only [rsl, gres]
  iterate 3 (refine seqR_hide fun R hR => ?_; simp [go_sem, d54, d45, g0, g1, g4, g5, g9, g10, g11, hi, hii, hi2, hii2, hw1, hcz, hco, bc hP u0, bc hPe u0e, bcs hPe u1e, xindexAt, vload]; refine hR _ _ _ ?_; clear hR R)
  refine seqR_hide fun R hR => ?_
  simp [go_sem, d54, d45, g0, g1, g4, g5, g9, g10, g11, hi, hii, hi2, hii2, hw1, hcz, hco, bc hP u0, bc hPe u0e, bcs hPe u1e, xindexAt, vload]
  refine call_sub hP (eraseB_le D (.slice vb ks.length vc)) (text16 _ l[i]) ?_
  clear hP
  rintro _ E D3 ⟨rfl, hAE⟩ hED hKp hmono hP
  have hDD := hmono hAE
  have hE3 := keep_erase hO hED hKp
  have hO3 := own_rebase (hO.le hDD)
  have u1d := le_cells (View.le_trans hAE hED) _ _ _ u1e
  refine ⟨ov_mono (View.le_trans hAE hED), hR _ _ _ ?_⟩; clear hR R
  iterate 4 (refine seqR_hide fun R hR => ?_; simp [go_sem, d54, d45, g0, g1, g4, g5, g9, g10, g11, hi, hii, hi2, hii2, hw1, hcz, hco, bcs hPe u1e, xindexAt, vload, bcs hP u1d, trc]; refine hR _ _ _ ?_; clear hR R)
  refine seqR_hide fun R hR => ?_
  simp [go_sem, d54, d45, g0, g1, g4, g5, g9, g10, g11, hi, hii, hi2, hii2, hw1, hcz, hco, bcs hPe u1e, xindexAt, vload, bcs hP u1d, trc]
  intro q24 hq24
  replace hP := hP.cons hq24
  clear hq24
  have d245 : q24 ≠ q5 := (hP.ne q5 (by simp [addrs])).1
  have d524 : q5 ≠ q24 := (hP.ne q5 (by simp [addrs])).2
  have d244 : q24 ≠ q4 := (hP.ne q4 (by simp [addrs])).1
  have d424 : q4 ≠ q24 := (hP.ne q4 (by simp [addrs])).2
  refine hR _ _ _ ?_; clear hR R
  refine seqR_hide fun R hR => ?_
  simp [go_sem, d54, d45, g0, g1, g4, g5, g9, g10, g11, hi, hii, hi2, hii2, hw1, hcz, hco, bcs hPe u1e, xindexAt, vload, bcs hP u1d, trc, d245, d524, d244, d424]
  have hci3 : IsTr (eraseB D (.slice vb ks.length vc)) ts[i] (trc k st tag val an h ln f row col al (.slice bb kk.length bc0)) := hci
  refine append_ov (m := 2) hP ti22 ti22 (fun k => by simp) ti24 rfl (by decide) hO3 (eraseB_le _ _) (appended_block (ov_at_here _ _ _ _) rfl) (by simp [isStr]) (fun v hv => List.all_eq_true.1 (show List.all _ one = true from rfl) v hv) (by omega) ?_
  clear hP
  rintro v4 D4 h4 hO4 h4e hP
  obtain ⟨xb, xc, rfl⟩ := hO4.shape
  refine hR _ _ _ ?_; clear hR R
  (refine seqR_hide fun R hR => ?_; simp [go_sem, d54, d45, g0, g1, g4, g5, g9, g10, g11, hi, hii, hi2, hii2, hw1, hcz, hco, bcs hPe u1e, xindexAt, vload, trc, d245, d524, d244, d424]; refine hR _ _ _ ?_; clear hR R)
  refine seqR_hide fun R hR => ?_
  simp [go_sem, d54, d45, g0, g1, g4, g5, g9, g10, g11, hi, hii, hi2, hii2, hw1, hcz, hco, bcs hPe u1e, xindexAt, vload, trc, d245, d524, d244, d424]
  refine hR _ _ _ ?_; clear hR R
  rw [seqR_nil]
  refine hK _ _ _ ?_; clear hK K
  refine hN7 _ _ _ ?_
  refine xc_reg2 fun K hK => ?_
  simp only [rall, rsl, gres]
  iterate 2 (refine seqX_hide2 fun R hR => ?_; simp [go_sem, d54, d45, g0, g1, g4, g5, g9, g10, g11, hi, hii, hi2, hii2, hw1, hcz, hco, bcs hPe u1e, xindexAt, vload, trc, d245, d524, d244, d424]; refine hR _ _ _ ?_; clear hR R)
  rw [seqX_nil]
  refine hK _ _ _ ?_; clear hK K
  refine sink_goal 0 hP rfl fun hPn lq24 nq24 => ?_
  clear hP; have hP := hPn; clear hPn
  simp only [List.eraseIdx_cons_zero, List.eraseIdx_cons_succ, addrs_cons, addrs_nil] at hP ⊢
  have hE5 := View.le_trans h4e (eraseB_mono lq24 (.slice xb (ks.length + 2) xc))
  have hE6 := View.le_trans hAE (View.le_trans hE3 hE5)
  have hkl2 : (ks ++ [tn l[i], ts[i]]).length = ks.length + 2 := by simp
  refine hJ1 (l.length - (i + 1)) _ _ _ (by omega) ⟨i + 1, _, .slice xb (ks.length + 2) xc, _, ks ++ [tn l[i], ts[i]], rfl, rfl, rfl, hP, by simp [go_sem, d54, d45, g0, g1, g4, g5, g9, g10, g11, hi, hii, hi2, hii2, hw1, hcz, hco, bcs hPe u1e, xindexAt, vload, trc, d245, d524, d244, d424], by simp [go_sem, d54, d45, g0, g1, g4, g5, g9, g10, g11, hi, hii, hi2, hii2, hw1, hcz, hco, bcs hPe u1e, xindexAt, vload, trc, d245, d524, d244, d424], by simp [go_sem, d54, d45, g0, g1, g4, g5, g9, g10, g11, hi, hii, hi2, hii2, hw1, hcz, hco, bcs hPe u1e, xindexAt, vload, trc, d245, d524, d244, d424], by simp [go_sem, d54, d45, g0, g1, g4, g5, g9, g10, g11, hi, hii, hi2, hii2, hw1, hcz, hco, bcs hPe u1e, xindexAt, vload, trc, d245, d524, d244, d424], by simp [go_sem, d54, d45, g0, g1, g4, g5, g9, g10, g11, hi, hii, hi2, hii2, hw1, hcz, hco, bcs hPe u1e, xindexAt, vload, trc, d245, d524, d244, d424], by simp [go_sem, d54, d45, g0, g1, g4, g5, g9, g10, g11, hi, hii, hi2, hii2, hw1, hcz, hco, bcs hPe u1e, xindexAt, vload, trc, d245, d524, d244, d424], by simp [go_sem, d54, d45, g0, g1, g4, g5, g9, g10, g11, hi, hii, hi2, hii2, hw1, hcz, hco, bcs hPe u1e, xindexAt, vload, trc, d245, d524, d244, d424], by omega, View.le_trans hAD hE6, by rw [hkl2]; exact own_rebase (hO4.le lq24), (hpp.le fun _ _ g => IsTr.le hE6 _ _ g).push2 (c1 := trc 8 0 tStr l[i] e0 e0 e0 e0 0 0 (-1) (.slice none 0 0)) (c2 := trc k st tag val an h ln f row col al (.slice bb kk.length bc0)) hO.clen rfl rfl (text_is _ _) (IsTr.le hE6 _ _ hci3) rfl, by rw [hks]; exact (pairsT_take l ts i hi hi2).symm⟩
end Go.Proofs.YtpinamipjddobaaV

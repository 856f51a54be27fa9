/- Charts: impl.wantsOf. -/
import Derived.Test.YtogfpbnbojhpoaaWE
import Derived.Test.YtogfpbnbojhpoaaV13
namespace Go.Proofs.YtogfpbnbojhpoaaV
open Go.RowKit
set_option linter.unusedSimpArgs false
set_option linter.unusedVariables false
abbrev ptr0 (p : Nat) : Value := .pointer (some ⟨p, 0, none⟩)
/-- The package's wants, with blocks of their own. -/
structure Given37 (A A' : View) (l : List Wt) (u : Value) (ps : List Nat) : Prop where
  low : A ≤ Er A' ps
  dep : Deps A' ps l
  row : Row (Er A' ps) 1 u ps.length (ps.map ptr0)
def Wof (A : View) (l : List Wt) (r : Value) (A' : View) : Prop := ∃ u ps, r = .tuple #[u, .bool true] ∧ Given37 A A' l u ps
theorem Own.er {A0 D : View} {u : Value} {ps : List Nat} {n : Nat} {cs : List Value} (h : Own A0 D 92 1 u n cs) (hps : ∀ q ∈ ps, A0 q ≠ none) : Row (Er D ps) 1 u n cs :=
  (own_move (D' := A0) (B' := Er D ps) h fun k o a _ c => ⟨a, by unfold Er; rw [if_neg (fun hx => hps k hx a)]; exact c⟩).row
theorem own_empty {A : View} {q : Nat} (hq : A q = none) (e : TypeId) : Own A (A.set q (.cells #[] e (0, 0))) e 1 (.slice (some ⟨q, 0, none⟩) 0 0) 0 [] := by
  refine ⟨?_, .inr ⟨_, _, rfl, hq⟩⟩
  simp [sliceIn, set_at]
  rfl
/-- Imports that were put, so far. -/
structure ImpUp (X : View) (l : List Imp) (cs : List Value) (i : Nat) : Prop where
  len : cs.length = i
  at' : ∀ k, k < i → ∃ x y, cs[k]? = some x ∧ l[k]? = some y ∧ IsImpV X y x
theorem ImpUp.push {X Y : View} {l : List Imp} {cs : List Value} {i : Nat} {x : Value} {y : Imp} (h : ImpUp X l cs i) (hle : X ≤ Y) (hy : l[i]? = some y) (hx : IsImpV Y y x) : ImpUp Y l (cs ++ [x]) (i + 1) := by
  refine ⟨by simp [h.len], fun k hk => ?_⟩
  have hl := h.len
  by_cases hki : k < i
  · obtain ⟨x', y', g1, g2, g3⟩ := h.at' k hki
    exact ⟨x', y', by rw [List.getElem?_append_left (by omega)]; exact g1, g2, g3.le hle⟩
  · have : k = i := by omega
    subst this
    exact ⟨x, y, by rw [← hl]; simp, hy, hx⟩
theorem ImpUp.all {X : View} {l : List Imp} {cs : List Value} {i : Nat} (h : ImpUp X l cs i) {v : Value} (hr : Row X 1 v i cs) (hi : i = l.length) : ImpVs X v l := by
  subst hi
  refine ⟨cs, hr, fun j hj => ?_⟩
  obtain ⟨x, y, g1, g2, g3⟩ := h.at' j hj
  rw [List.getElem?_eq_getElem hj] at g2
  cases g2
  exact ⟨x, g1, g3⟩
theorem in_er {D : View} {u : Value} {ps : List Nat} {ws : List Wt} (h : Deps (eraseB D u) ps ws) : ∀ q ∈ ps, D q ≠ none := fun q hq hn => h.in' q hq (none_le (eraseB_le D u) hn)
set_option maxRecDepth 20000 in
set_option maxHeartbeats 8000000 in
theorem wantsOf37 (A : View) (v : Value) (l : List Wt) (h : Wants A v l) (hl : l.length ≤ 20) (hv : ∀ w ∈ l, VOK w.ver ∧ w.ver.size ≤ 2147483648 ∧ w.tags.length ≤ 10 ∧ w.imps.length ≤ 10) :
    VCalls Try.prog 37 #[v] A (Wof A l) := by
  obtain ⟨bs, cp, rfl, hel⟩ := h
  refine xcalls Try.func37 rfl (by simp [Try.ntmps37]) ?_
  simp only [Try.f37]
  have hP : Priv A (addrs []) := Priv.nil A
  show xc _ _ _ _ _ _ (ov A [])
  refine xc_two fun N1 hN1 => ?_
  refine xc_reg1 2 rfl fun K hK => ?_
  simp only [show (List.range 2).map (·, true) = [(0, true), (1, true)] from rfl, rslv_cons, rslv_nil, List.getElem?_toArray, List.getElem?_cons_zero, List.getElem?_cons_succ, gres]
  iterate 2 (refine seqX_hide2 fun R hR => ?_; simp [go_sem]; refine hR _ _ _ ?_; clear hR R)
  rw [seqX_nil]
  refine hK _ _ _ ?_; clear hK K
  refine hN1 _ _ _ ?_
  refine xc_two fun N2 hN2 => ?_
  refine xc_reg1 1 rfl fun K hK => ?_
  simp only [show (List.range 1).map (·, true) = [(0, true)] from rfl, rslv_cons, rslv_nil, List.getElem?_toArray, List.getElem?_cons_zero, List.getElem?_cons_succ, gres]
  (refine seqX_hide2 fun R hR => ?_; simp [go_sem]; refine hR _ _ _ ?_; clear hR R)
  rw [seqX_nil]
  refine hK _ _ _ ?_; clear hK K
  refine hN2 _ _ _ ?_
  refine xc_two fun N3 hN3 => ?_
  refine xc_two fun N4 hN4 => ?_
  refine xc_reg1 3 rfl fun K hK => ?_
  simp only [show (List.range 3).map (·, true) = [(0, true), (1, true), (2, true)] from rfl, rslv_cons, rslv_nil, List.getElem?_toArray, List.getElem?_cons_zero, List.getElem?_cons_succ, gres]
  iterate 3 (refine seqX_hide2 fun R hR => ?_; simp [go_sem]; refine hR _ _ _ ?_; clear hR R)
  rw [seqX_nil]
  refine hK _ _ _ ?_; clear hK K
  refine hN4 _ _ _ ?_
  rw [xc_block]
  rw [xc_loop]
  refine vloopK (fun k' e ds A' => ∃ (j : Nat) (D : View) (uv : Value) (ps : List Nat), k' = l.length - j ∧ ds = [] ∧ A' = ov D [] ∧ Priv D [] ∧ e 0 = .slice bs l.length cp ∧ e 4 = uv ∧ e 10 = .slice bs l.length cp ∧ e 11 = .int .i64 l.length ∧ e 12 = .int .i64 j ∧ (j ≤ l.length) ∧ (A ≤ eraseB D uv) ∧ (Own (eraseB D uv) D 92 1 uv ps.length (ps.map ptr0)) ∧ (Deps (eraseB D uv) ps (l.take j)) ∧ (∀ p ∈ ps, A p = none)) _ ⟨0, A, nl, [], rfl, rfl, rfl, hP, by simp [go_sem], by simp [go_sem], by simp [go_sem], by simp [go_sem], by simp [go_sem], by omega, View.le_refl _, Own.nil _ _ _ _, Deps.nil _, fun p hp => by cases hp⟩ ?_
  clear hP
  rintro k' e ds A' ⟨j, D, uv, ps, rfl, rfl, hV, hP, g0, g4, g10, g11, g12, hjl, hAD, hO, hD, hpA⟩ J1 X1 hJ1 hX1
  refine xc_sound _ ?_
  replace hV := Eq.symm hV; subst hV; replace hP : Priv D (addrs []) := hP
  have hw1 := wrap_nat (i := j) (by omega)
  by_cases hj : j < l.length
  · obtain ⟨a, ci, rfl, u1, hci⟩ := hel j hj
    have hvj := hv _ (List.getElem_mem hj)
    have htk : l.take (j + 1) = l.take j ++ [l[j]] := List.take_succ_eq_append_getElem hj
    have hps : ps.length = j := by have := hD.len; rw [List.length_take] at this; omega
    generalize l[j] = w at hci htk hvj
    obtain ⟨tg, im, rfl, ht, hi⟩ := hci
    obtain ⟨b1, c1, rfl⟩ := ht.slice
    obtain ⟨b2, c2, rfl, heli⟩ := hi
    have hA2 := View.le_trans hAD (eraseB_le D uv)
    have u1 := le_cells hA2 _ _ _ u1
    refine xc_two fun N5 hN5 => ?_
    refine xc_reg1 1 rfl fun K hK => ?_
    simp only [show (List.range 1).map (·, true) = [(0, true)] from rfl, rslv_cons, rslv_nil, List.getElem?_toArray, List.getElem?_cons_zero, List.getElem?_cons_succ, gres]
    (refine seqX_hide2 fun R hR => ?_; simp [go_sem, g0, g4, g10, g11, g12, hj, hw1, bcs hP u1]; refine hR _ _ _ ?_; clear hR R)
    rw [seqX_nil]
    refine hK _ _ _ ?_; clear hK K
    refine hN5 _ _ _ ?_
    refine xc_two fun N6 hN6 => ?_
    refine xc_iftrue (by simp [go_sem, g0, g4, g10, g11, g12, hj, hw1, bcs hP u1]) ?_
    refine hN6 _ _ _ ?_
    refine xc_two fun N7 hN7 => ?_
    rw [xc_block]
    refine xc_two fun N8 hN8 => ?_
    refine xc_reg1 4 rfl fun K hK => ?_
    simp only [show (List.range 4).map (·, true) = [(0, true), (1, true), (2, true), (3, true)] from rfl, rslv_cons, rslv_nil, List.getElem?_toArray, List.getElem?_cons_zero, List.getElem?_cons_succ, gres]
    iterate 2 (refine seqX_hide2 fun R hR => ?_; simp [go_sem, g0, g4, g10, g11, g12, hj, hw1, bcs hP u1]; refine hR _ _ _ ?_; clear hR R)
    refine seqX_hide2 fun R hR => ?_
    simp [go_sem, g0, g4, g10, g11, g12, hj, hw1, bcs hP u1]
    intro q6 hq6
    replace hP := hP.cons hq6
    clear hq6
    refine hR _ _ _ ?_; clear hR R
    refine seqX_hide2 fun R hR => ?_
    simp [go_sem, g0, g4, g10, g11, g12, hj, hw1, bcs hP u1]
    refine hR _ _ _ ?_; clear hR R
    rw [seqX_nil]
    refine hK _ _ _ ?_; clear hK K
    refine hN8 _ _ _ ?_
    refine xc_two fun N9 hN9 => ?_
    refine xc_two fun N10 hN10 => ?_
    refine xc_reg1 15 rfl fun K hK => ?_
    simp only [show (List.range 15).map (·, true) = [(0, true), (1, true), (2, true), (3, true), (4, true), (5, true), (6, true), (7, true), (8, true), (9, true), (10, true), (11, true), (12, true), (13, true), (14, true)] from rfl, rslv_cons, rslv_nil, List.getElem?_toArray, List.getElem?_cons_zero, List.getElem?_cons_succ, gres]
    iterate 2 (refine seqX_hide2 fun R hR => ?_; simp [go_sem, g0, g4, g10, g11, g12, hj, hw1, bcs hP u1]; refine hR _ _ _ ?_; clear hR R)
    refine seqX_hide2 fun R hR => ?_
    simp [go_sem, g0, g4, g10, g11, g12, hj, hw1, bcs hP u1]
    refine call_same hP (plain64 D w.ver hvj.2.1 hvj.1) ?_
    rintro _ rfl
    have k1 : ¬ (40 : Int) < l.length := by omega
    have k2 : ¬ (40 : Nat) < l.length := by omega
    have k3 : ¬ (20 : Int) < w.imps.length := by omega
    have k4 : ¬ (20 : Nat) < w.imps.length := by omega
    refine hR _ _ _ ?_; clear hR R
    iterate 12 (refine seqX_hide2 fun R hR => ?_; simp [go_sem, g0, g4, g10, g11, g12, hj, hw1, bcs hP u1, k1, k2, k3, k4]; refine hR _ _ _ ?_; clear hR R)
    rw [seqX_nil]
    refine hK _ _ _ ?_; clear hK K
    refine hN10 _ _ _ ?_
    refine xc_iffalse (by simp [go_sem, g0, g4, g10, g11, g12, hj, hw1]) ?_
    refine hN9 _ _ _ ?_
    refine xc_two fun N11 hN11 => ?_
    rw [xc_draws]
    refine vdrawK [(0, true), (1, true), (2, true), (3, true), (4, true), (5, true), (6, true), (7, true), (8, true), (9, true), (10, true), (11, true), (12, true), (13, true), (14, true), (15, true), (16, true)] (ov D [(q6, .cells (wc w.name w.ver w.cond w.alias (.slice b1 w.tags.length c1) w.en (.slice b2 w.imps.length c2)) 34 (0, 0))]) mixed (by kernel_rfl) (View.le_refl _) fun K hK => ?_
    simp only [rslv_cons, rslv_nil, List.getElem?_toArray, List.getElem?_cons_zero, List.getElem?_cons_succ, gres]
    iterate 8 (refine seqR_hide fun R hR => ?_; simp [go_sem, g0, g4, g10, g11, g12, hj, hw1]; refine hR _ _ _ ?_; clear hR R)
    refine seqR_hide fun R hR => ?_
    simp [go_sem, g0, g4, g10, g11, g12, hj, hw1]
    intro q39 hq39
    replace hP := hP.cons hq39
    clear hq39
    have d396 : q39 ≠ q6 := (hP.ne q6 (by simp [addrs])).1
    have d639 : q6 ≠ q39 := (hP.ne q6 (by simp [addrs])).2
    refine hR _ _ _ ?_; clear hR R
    iterate 2 (refine seqR_hide fun R hR => ?_; simp [go_sem, g0, g4, g10, g11, g12, hj, hw1, d396, d639]; refine hR _ _ _ ?_; clear hR R)
    refine seqR_hide fun R hR => ?_
    simp [go_sem, g0, g4, g10, g11, g12, hj, hw1, d396, d639]
    obtain ⟨eq39, hPn, nq39⟩ := sinkI (A := D) (L := [(q39, .cells #[] 9 (0, 0)), (q6, .cells (wc w.name w.ver w.cond w.alias (.slice b1 w.tags.length c1) w.en (.slice b2 w.imps.length c2)) 34 (0, 0))]) 0 hP rfl
    rw [eq39]
    clear eq39 hP; have hP := hPn; clear hPn
    simp only [List.eraseIdx_cons_zero, List.eraseIdx_cons_succ, addrs_cons, addrs_nil] at hP ⊢
    have lq39 : D ≤ D.set q39 (.cells #[] 9 (0, 0)) := le_set nq39
    have hOt : Own D (D.set q39 (.cells #[] 9 (0, 0))) 9 1 (.slice (some ⟨q39, 0, none⟩) 0 0) 0 [] := own_empty nq39 9
    generalize D.set q39 (.cells #[] 9 (0, 0)) = D0 at hP hOt lq39 ⊢
    have hbx : (0 + w.tags.length) * 16 ≤ 140737488355328 := by have := hvj.2.2.1; omega
    refine append_ov hP ti24 ti24 (fun k => by simp) ti9 rfl (by decide) hOt lq39 (x := .slice b1 w.tags.length c1) (cs := w.tags.map .string) (m := w.tags.length) ?_ (fun h => by cases h) (fun v hv => by obtain ⟨s, _, rfl⟩ := List.mem_map.1 hv; rfl) hbx ?_
    · refine appended_row (ht.le (View.le_trans hA2 (View.le_trans lq39 ?_)))
      exact le_ov hP
    clear hP
    rintro tv D1 hD1 hOt1 - hP
    rw [Nat.zero_add, List.nil_append] at hOt1
    obtain ⟨tb, tc, rfl⟩ := hOt1.shape
    refine ⟨ov_mono hD1, hR _ _ _ ?_⟩; clear hR R
    iterate 3 (refine seqR_hide fun R hR => ?_; simp [go_sem, g0, g4, g10, g11, g12, hj, hw1, d396, d639]; refine hR _ _ _ ?_; clear hR R)
    refine seqR_hide fun R hR => ?_
    simp [go_sem, g0, g4, g10, g11, g12, hj, hw1, d396, d639]
    intro q46 hq46
    replace hP := hP.cons hq46
    clear hq46
    have d466 : q46 ≠ q6 := (hP.ne q6 (by simp [addrs])).1
    have d646 : q6 ≠ q46 := (hP.ne q6 (by simp [addrs])).2
    refine hR _ _ _ ?_; clear hR R
    (refine seqR_hide fun R hR => ?_; simp [go_sem, g0, g4, g10, g11, g12, hj, hw1, d396, d639, d466, d646]; refine hR _ _ _ ?_; clear hR R)
    rw [seqR_nil]
    refine hK _ _ _ ?_; clear hK K
    refine hN11 _ _ _ ?_
    refine xc_two fun N12 hN12 => ?_
    refine xc_two fun N13 hN13 => ?_
    refine xc_reg1 4 rfl fun K hK => ?_
    simp only [show (List.range 4).map (·, true) = [(0, true), (1, true), (2, true), (3, true)] from rfl, rslv_cons, rslv_nil, List.getElem?_toArray, List.getElem?_cons_zero, List.getElem?_cons_succ, gres]
    iterate 4 (refine seqX_hide2 fun R hR => ?_; simp [go_sem, g0, g4, g10, g11, g12, hj, hw1, d396, d639, d466, d646]; refine hR _ _ _ ?_; clear hR R)
    rw [seqX_nil]
    refine hK _ _ _ ?_; clear hK K
    refine hN13 _ _ _ ?_
    rw [xc_block]
    rw [xc_loop]
    refine vloopK (fun k' e ds A' => ∃ (i : Nat) (D2 : View) (iv : Value) (cs : List Value), k' = w.imps.length - i ∧ ds = [] ∧ A' = ov D2 [(q46, .cells (dc w.name w.ver w.cond w.alias (.slice tb w.tags.length tc) w.en iv) 95 (0, 0)), (q6, .cells (wc w.name w.ver w.cond w.alias (.slice b1 w.tags.length c1) w.en (.slice b2 w.imps.length c2)) 34 (0, 0))] ∧ Priv D2 [q46, q6] ∧ e 0 = .slice (some a) l.length cp ∧ e 4 = uv ∧ e 6 = .pointer (some ⟨q6, 0, none⟩) ∧ e 7 = .pointer (some ⟨q46, 0, none⟩) ∧ e 10 = .slice (some a) l.length cp ∧ e 11 = .int .i64 l.length ∧ e 12 = .int .i64 j ∧ e 48 = .slice b2 w.imps.length c2 ∧ e 49 = .int .i64 w.imps.length ∧ e 50 = .int .i64 i ∧ (i ≤ w.imps.length) ∧ (D1 ≤ eraseB D2 iv) ∧ (Own (eraseB D2 iv) D2 20 1 iv i cs) ∧ (ImpUp (Diff D (eraseB D2 iv)) w.imps cs i)) _ ⟨0, D1, nl, [], rfl, rfl, rfl, hP, by simp [go_sem, g0, g4, g10, g11, g12, hj, hw1, d396, d639, d466, d646], by simp [go_sem, g0, g4, g10, g11, g12, hj, hw1, d396, d639, d466, d646], by simp [go_sem, g0, g4, g10, g11, g12, hj, hw1, d396, d639, d466, d646], by simp [go_sem, g0, g4, g10, g11, g12, hj, hw1, d396, d639, d466, d646], by simp [go_sem, g0, g4, g10, g11, g12, hj, hw1, d396, d639, d466, d646], by simp [go_sem, g0, g4, g10, g11, g12, hj, hw1, d396, d639, d466, d646], by simp [go_sem, g0, g4, g10, g11, g12, hj, hw1, d396, d639, d466, d646], by simp [go_sem, g0, g4, g10, g11, g12, hj, hw1, d396, d639, d466, d646], by simp [go_sem, g0, g4, g10, g11, g12, hj, hw1, d396, d639, d466, d646], by simp [go_sem, g0, g4, g10, g11, g12, hj, hw1, d396, d639, d466, d646], by omega, View.le_refl _, Own.nil _ _ _ _, ⟨rfl, fun k h => absurd h (Nat.not_lt_zero _)⟩⟩ ?_
    clear g0 g4 g10 g11 g12
    clear hP
    rintro k' e ds _ ⟨i, D2, iv, cs, rfl, rfl, rfl, hP, g0, g4, g6, g7, g10, g11, g12, g48, g49, g50, hil, hD2, hOi, hcs⟩ J2 X2 hJ2 hX2
    refine xc_sound _ ?_
    have hw2 := wrap_nat (i := i) (by omega)
    have hDD2 := View.le_trans hD1 (View.le_trans hD2 (eraseB_le D2 iv))
    by_cases hi : i < w.imps.length
    · obtain ⟨a3, ck, rfl, u3, hck⟩ := heli i hi
      have hck : ck = impc w.imps[i] := hck
      subst hck
      have u3 := le_cells (View.le_trans hA2 hDD2) _ _ _ u3
      have hgi := List.getElem?_eq_getElem hi
      generalize w.imps[i] = x at u3 hgi
      obtain ⟨xn, xc, xp, xb⟩ := x
      cases xb with
      | true =>
        refine xc_two fun N14 hN14 => ?_
        refine xc_reg1 1 rfl fun K hK => ?_
        simp only [show (List.range 1).map (·, true) = [(0, true)] from rfl, rslv_cons, rslv_nil, List.getElem?_toArray, List.getElem?_cons_zero, List.getElem?_cons_succ, gres]
        (refine seqX_hide2 fun R hR => ?_; simp [go_sem, hj, hw1, d396, d639, d466, d646, g0, g4, g6, g7, g10, g11, g12, g48, g49, g50, hi, hw2, bcs hP u3, impc]; refine hR _ _ _ ?_; clear hR R)
        rw [seqX_nil]
        refine hK _ _ _ ?_; clear hK K
        refine hN14 _ _ _ ?_
        refine xc_two fun N15 hN15 => ?_
        refine xc_iftrue (by simp [go_sem, hj, hw1, d396, d639, d466, d646, g0, g4, g6, g7, g10, g11, g12, g48, g49, g50, hi, hw2, bcs hP u3, impc]) ?_
        refine hN15 _ _ _ ?_
        refine xc_two fun N16 hN16 => ?_
        rw [xc_block]
        refine xc_two fun N17 hN17 => ?_
        refine xc_reg1 4 rfl fun K hK => ?_
        simp only [show (List.range 4).map (·, true) = [(0, true), (1, true), (2, true), (3, true)] from rfl, rslv_cons, rslv_nil, List.getElem?_toArray, List.getElem?_cons_zero, List.getElem?_cons_succ, gres]
        iterate 2 (refine seqX_hide2 fun R hR => ?_; simp [go_sem, hj, hw1, d396, d639, d466, d646, g0, g4, g6, g7, g10, g11, g12, g48, g49, g50, hi, hw2, bcs hP u3, impc]; refine hR _ _ _ ?_; clear hR R)
        refine seqX_hide2 fun R hR => ?_
        simp [go_sem, hj, hw1, d396, d639, d466, d646, g0, g4, g6, g7, g10, g11, g12, g48, g49, g50, hi, hw2, bcs hP u3, impc]
        intro q9 hq9
        replace hP := hP.cons hq9
        clear hq9
        have d946 : q9 ≠ q46 := (hP.ne q46 (by simp [addrs])).1
        have d469 : q46 ≠ q9 := (hP.ne q46 (by simp [addrs])).2
        have d96 : q9 ≠ q6 := (hP.ne q6 (by simp [addrs])).1
        have d69 : q6 ≠ q9 := (hP.ne q6 (by simp [addrs])).2
        refine hR _ _ _ ?_; clear hR R
        refine seqX_hide2 fun R hR => ?_
        simp [go_sem, hj, hw1, d396, d639, d466, d646, g0, g4, g6, g7, g10, g11, g12, g48, g49, g50, hi, hw2, bcs hP u3, impc, d946, d469, d96, d69]
        refine hR _ _ _ ?_; clear hR R
        rw [seqX_nil]
        refine hK _ _ _ ?_; clear hK K
        refine hN17 _ _ _ ?_
        refine xc_two fun N18 hN18 => ?_
        refine xc_two fun N19 hN19 => ?_
        refine xc_reg1 2 rfl fun K hK => ?_
        simp only [show (List.range 2).map (·, true) = [(0, true), (1, true)] from rfl, rslv_cons, rslv_nil, List.getElem?_toArray, List.getElem?_cons_zero, List.getElem?_cons_succ, gres]
        iterate 2 (refine seqX_hide2 fun R hR => ?_; simp [go_sem, hj, hw1, d396, d639, d466, d646, g0, g4, g6, g7, g10, g11, g12, g48, g49, g50, hi, hw2, bcs hP u3, impc, d946, d469, d96, d69]; refine hR _ _ _ ?_; clear hR R)
        rw [seqX_nil]
        refine hK _ _ _ ?_; clear hK K
        refine hN19 _ _ _ ?_
        refine xc_iftrue (by simp [go_sem, hj, hw1, d396, d639, d466, d646, g0, g4, g6, g7, g10, g11, g12, g48, g49, g50, hi, hw2, bcs hP u3, impc, d946, d469, d96, d69]) ?_
        refine xc_two fun N20 hN20 => ?_
        rw [xc_draws]
        refine vdraw2 9 13 [(0, true), (1, true), (2, true), (3, true), (4, true), (5, true), (6, true), (7, true), (8, true), (9, true), (10, true), (11, true), (12, true), (13, true), (14, true), (15, true), (16, true), (17, false), (18, true), (19, true), (20, false)] [(0, true), (1, true), (2, true), (3, true), (4, true), (5, true), (6, true), (7, true), (8, true), (10, true), (11, true), (12, true), (13, true), (9, true), (14, true), (15, true), (16, true), (17, false), (18, true), (19, true), (20, false)] (ov (eraseB D2 iv) [(q9, .cells #[.string xn, .string xc, .string xp, .bool true] 61 (0, 0)), (q46, .cells (dc w.name w.ver w.cond w.alias (.slice tb w.tags.length tc) w.en iv) 95 (0, 0)), (q6, .cells (wc w.name w.ver w.cond w.alias (.slice b1 w.tags.length c1) w.en (.slice (some a3) w.imps.length c2)) 34 (0, 0))]) mixed (by kernel_rfl) (ov_mono (eraseB_le _ _)) (fun K hK => ?_) (fun K hK => ?_)
        · skip
          simp only [rslv_cons, rslv_nil, List.getElem?_toArray, List.getElem?_cons_zero, List.getElem?_cons_succ, gres]
          iterate 5 (refine seqR_hide fun R hR => ?_; simp [go_sem, hj, hw1, d396, d639, d466, d646, g0, g4, g6, g7, g10, g11, g12, g48, g49, g50, hi, hw2, bcs hP u3, impc, d946, d469, d96, d69]; refine hR _ _ _ ?_; clear hR R)
          refine seqR_hide fun R hR => ?_
          simp [go_sem, hj, hw1, d396, d639, d466, d646, g0, g4, g6, g7, g10, g11, g12, g48, g49, g50, hi, hw2, bcs hP u3, impc, d946, d469, d96, d69]
          intro q61 hq61
          replace hP := hP.cons hq61
          clear hq61
          have d619 : q61 ≠ q9 := (hP.ne q9 (by simp [addrs])).1
          have d961 : q9 ≠ q61 := (hP.ne q9 (by simp [addrs])).2
          have d6146 : q61 ≠ q46 := (hP.ne q46 (by simp [addrs])).1
          have d4661 : q46 ≠ q61 := (hP.ne q46 (by simp [addrs])).2
          have d616 : q61 ≠ q6 := (hP.ne q6 (by simp [addrs])).1
          have d661 : q6 ≠ q61 := (hP.ne q6 (by simp [addrs])).2
          refine hR _ _ _ ?_; clear hR R
          iterate 3 (refine seqR_hide fun R hR => ?_; simp [go_sem, hj, hw1, d396, d639, d466, d646, g0, g4, g6, g7, g10, g11, g12, g48, g49, g50, hi, hw2, bcs hP u3, impc, d946, d469, d96, d69, d619, d961, d6146, d4661, d616, d661]; refine hR _ _ _ ?_; clear hR R)
          refine seqR_hide fun R hR => ?_
          simp [go_sem, hj, hw1, d396, d639, d466, d646, g0, g4, g6, g7, g10, g11, g12, g48, g49, g50, hi, hw2, bcs hP u3, impc, d946, d469, d96, d69, d619, d961, d6146, d4661, d616, d661]
          refine mapset_goal 0 hP rfl MF.new (by simp [strMap, ti63, ti9]) ?_
          clear hP
          rintro o1 ho1 hP
          simp only [List.set_cons_zero, List.set_cons_succ, addrs_cons, addrs_nil] at hP ⊢
          refine ⟨push_le hP (ov_mono (eraseB_le _ _)), hR _ _ _ ?_⟩; clear hR R
          iterate 3 (refine seqR_hide fun R hR => ?_; simp [go_sem, hj, hw1, d396, d639, d466, d646, g0, g4, g6, g7, g10, g11, g12, g48, g49, g50, hi, hw2, bcs hP u3, impc, d946, d469, d96, d69, d619, d961, d6146, d4661, d616, d661]; refine hR _ _ _ ?_; clear hR R)
          refine seqR_hide fun R hR => ?_
          simp [go_sem, hj, hw1, d396, d639, d466, d646, g0, g4, g6, g7, g10, g11, g12, g48, g49, g50, hi, hw2, bcs hP u3, impc, d946, d469, d96, d69, d619, d961, d6146, d4661, d616, d661]
          refine mapset_goal 0 hP rfl ho1 (by simp [strMap, ti63, ti9]) ?_
          clear hP
          rintro o2 ho2 hP
          simp only [List.set_cons_zero, List.set_cons_succ, addrs_cons, addrs_nil] at hP ⊢
          refine ⟨push_le hP (ov_mono (eraseB_le _ _)), hR _ _ _ ?_⟩; clear hR R
          iterate 2 (refine seqR_hide fun R hR => ?_; simp [go_sem, hj, hw1, d396, d639, d466, d646, g0, g4, g6, g7, g10, g11, g12, g48, g49, g50, hi, hw2, bcs hP u3, impc, d946, d469, d96, d69, d619, d961, d6146, d4661, d616, d661]; refine hR _ _ _ ?_; clear hR R)
          refine seqR_hide fun R hR => ?_
          simp [go_sem, hj, hw1, d396, d639, d466, d646, g0, g4, g6, g7, g10, g11, g12, g48, g49, g50, hi, hw2, bcs hP u3, impc, d946, d469, d96, d69, d619, d961, d6146, d4661, d616, d661]
          intro q70 hq70
          replace hP := hP.cons hq70
          clear hq70
          have d7061 : q70 ≠ q61 := (hP.ne q61 (by simp [addrs])).1
          have d6170 : q61 ≠ q70 := (hP.ne q61 (by simp [addrs])).2
          have d709 : q70 ≠ q9 := (hP.ne q9 (by simp [addrs])).1
          have d970 : q9 ≠ q70 := (hP.ne q9 (by simp [addrs])).2
          have d7046 : q70 ≠ q46 := (hP.ne q46 (by simp [addrs])).1
          have d4670 : q46 ≠ q70 := (hP.ne q46 (by simp [addrs])).2
          have d706 : q70 ≠ q6 := (hP.ne q6 (by simp [addrs])).1
          have d670 : q6 ≠ q70 := (hP.ne q6 (by simp [addrs])).2
          refine hR _ _ _ ?_; clear hR R
          refine seqR_hide fun R hR => ?_
          simp [go_sem, hj, hw1, d396, d639, d466, d646, g0, g4, g6, g7, g10, g11, g12, g48, g49, g50, hi, hw2, bcs hP u3, impc, d946, d469, d96, d69, d619, d961, d6146, d4661, d616, d661, d7061, d6170, d709, d970, d7046, d4670, d706, d670]
          obtain ⟨eq61, hPn, nq61⟩ := sinkI (A := D2) (L := [(q70, .cells #[.iface 63 (.map (some q61))] 20 (0, 0)), (q61, o2), (q9, .cells #[.string xn, .string xc, .string xp, .bool true] 61 (0, 0)), (q46, .cells (dc w.name w.ver w.cond w.alias (.slice tb w.tags.length tc) w.en iv) 95 (0, 0)), (q6, .cells (wc w.name w.ver w.cond w.alias (.slice b1 w.tags.length c1) w.en (.slice (some a3) w.imps.length c2)) 34 (0, 0))]) 1 hP rfl
          rw [eq61]
          clear eq61 hP; have hP := hPn; clear hPn
          simp only [List.eraseIdx_cons_zero, List.eraseIdx_cons_succ, addrs_cons, addrs_nil] at hP ⊢
          have lq61 : D2 ≤ D2.set q61 o2 := le_set nq61
          have nD61 : D q61 = none := none_le hDD2 nq61
          have hb61 : (D2.set q61 o2) q61 = some o2 := set_at _ _ _
          generalize D2.set q61 o2 = D3 at hP lq61 hb61 ⊢
          refine append_ov (cs := [.iface 63 (.map (some q61))]) (m := 1) hP ti93 ti93 (fun k => by simp) ti20 rfl (by decide) (own_rebase (hOi.le lq61)) (eraseB_le _ _) (by simp [appended, View.cells?, go_sem]) (by simp [isStr]) (fun v hv => by rw [List.mem_singleton] at hv; subst hv; rfl) (by have := hvj.2.2.2; omega) ?_
          clear hP
          rintro v4 D4 h4 hO4 h4e hP
          obtain ⟨vb, vc, rfl⟩ := hO4.shape
          have hE4 := View.le_trans (eraseB_mono lq61 iv) h4e
          refine hR _ _ _ ?_; clear hR R
          iterate 2 (refine seqR_hide fun R hR => ?_; simp [go_sem, hj, hw1, d396, d639, d466, d646, g0, g4, g6, g7, g10, g11, g12, g48, g49, g50, hi, hw2, impc, d946, d469, d96, d69, d619, d961, d6146, d4661, d616, d661, d7061, d6170, d709, d970, d7046, d4670, d706, d670]; refine hR _ _ _ ?_; clear hR R)
          refine seqR_hide fun R hR => ?_
          simp [go_sem, hj, hw1, d396, d639, d466, d646, g0, g4, g6, g7, g10, g11, g12, g48, g49, g50, hi, hw2, impc, d946, d469, d96, d69, d619, d961, d6146, d4661, d616, d661, d7061, d6170, d709, d970, d7046, d4670, d706, d670]
          refine hR _ _ _ ?_; clear hR R
          rw [seqR_nil]
          refine hK _ _ _ ?_; clear hK K
          refine hN20 _ _ _ ?_
          refine hN16 _ _ _ ?_
          refine xc_reg1 2 rfl fun K hK => ?_
          simp only [show (List.range 2).map (·, true) = [(0, true), (1, true)] from rfl, rslv_cons, rslv_nil, List.getElem?_toArray, List.getElem?_cons_zero, List.getElem?_cons_succ, gres]
          iterate 2 (refine seqX_hide2 fun R hR => ?_; simp [go_sem, hj, hw1, d396, d639, d466, d646, g0, g4, g6, g7, g10, g11, g12, g48, g49, g50, hi, hw2, impc, d946, d469, d96, d69, d619, d961, d6146, d4661, d616, d661, d7061, d6170, d709, d970, d7046, d4670, d706, d670]; refine hR _ _ _ ?_; clear hR R)
          rw [seqX_nil]
          refine hK _ _ _ ?_; clear hK K
          refine sink_goal 0 hP rfl fun hPn lq70 nq70 => ?_
          clear hP; have hP := hPn; clear hPn
          simp only [List.eraseIdx_cons_zero, List.eraseIdx_cons_succ, addrs_cons, addrs_nil] at hP ⊢
          refine sink_goal 0 hP rfl fun hPn lq9 nq9 => ?_
          clear hP; have hP := hPn; clear hPn
          simp only [List.eraseIdx_cons_zero, List.eraseIdx_cons_succ, addrs_cons, addrs_nil] at hP ⊢
          have hs := View.le_trans lq70 lq9
          have hE5 := View.le_trans hE4 (eraseB_mono hs (.slice vb (i + 1) vc))
          refine hJ2 (w.imps.length - (i + 1)) _ _ _ (by omega) ⟨i + 1, _, .slice vb (i + 1) vc, cs ++ [.iface 63 (.map (some q61))], rfl, rfl, rfl, hP, by simp [go_sem, hj, hw1, d396, d639, d466, d646, g0, g4, g6, g7, g10, g11, g12, g48, g49, g50, hi, hw2, impc, d946, d469, d96, d69, d619, d961, d6146, d4661, d616, d661, d7061, d6170, d709, d970, d7046, d4670, d706, d670], by simp [go_sem, hj, hw1, d396, d639, d466, d646, g0, g4, g6, g7, g10, g11, g12, g48, g49, g50, hi, hw2, impc, d946, d469, d96, d69, d619, d961, d6146, d4661, d616, d661, d7061, d6170, d709, d970, d7046, d4670, d706, d670], by simp [go_sem, hj, hw1, d396, d639, d466, d646, g0, g4, g6, g7, g10, g11, g12, g48, g49, g50, hi, hw2, impc, d946, d469, d96, d69, d619, d961, d6146, d4661, d616, d661, d7061, d6170, d709, d970, d7046, d4670, d706, d670], by simp [go_sem, hj, hw1, d396, d639, d466, d646, g0, g4, g6, g7, g10, g11, g12, g48, g49, g50, hi, hw2, impc, d946, d469, d96, d69, d619, d961, d6146, d4661, d616, d661, d7061, d6170, d709, d970, d7046, d4670, d706, d670], by simp [go_sem, hj, hw1, d396, d639, d466, d646, g0, g4, g6, g7, g10, g11, g12, g48, g49, g50, hi, hw2, impc, d946, d469, d96, d69, d619, d961, d6146, d4661, d616, d661, d7061, d6170, d709, d970, d7046, d4670, d706, d670], by simp [go_sem, hj, hw1, d396, d639, d466, d646, g0, g4, g6, g7, g10, g11, g12, g48, g49, g50, hi, hw2, impc, d946, d469, d96, d69, d619, d961, d6146, d4661, d616, d661, d7061, d6170, d709, d970, d7046, d4670, d706, d670], by simp [go_sem, hj, hw1, d396, d639, d466, d646, g0, g4, g6, g7, g10, g11, g12, g48, g49, g50, hi, hw2, impc, d946, d469, d96, d69, d619, d961, d6146, d4661, d616, d661, d7061, d6170, d709, d970, d7046, d4670, d706, d670], by simp [go_sem, hj, hw1, d396, d639, d466, d646, g0, g4, g6, g7, g10, g11, g12, g48, g49, g50, hi, hw2, impc, d946, d469, d96, d69, d619, d961, d6146, d4661, d616, d661, d7061, d6170, d709, d970, d7046, d4670, d706, d670], by simp [go_sem, hj, hw1, d396, d639, d466, d646, g0, g4, g6, g7, g10, g11, g12, g48, g49, g50, hi, hw2, impc, d946, d469, d96, d69, d619, d961, d6146, d4661, d616, d661, d7061, d6170, d709, d970, d7046, d4670, d706, d670], by simp [go_sem, hj, hw1, d396, d639, d466, d646, g0, g4, g6, g7, g10, g11, g12, g48, g49, g50, hi, hw2, impc, d946, d469, d96, d69, d619, d961, d6146, d4661, d616, d661, d7061, d6170, d709, d970, d7046, d4670, d706, d670], by omega, View.le_trans hD2 hE5, own_rebase (hO4.le hs), ?_⟩
          refine hcs.push (Diff.le hE5) hgi (.inr ⟨rfl, q61, o2, _, rfl, Diff.at' nD61 (eraseB_mono hs (.slice vb (i + 1) vc) _ _ (h4e _ _ ?_)), ho2, rfl, rfl⟩)
          rw [eraseB_apart (own_block hOi nq61)]
          exact hb61
        · skip
          simp only [rslv_cons, rslv_nil, List.getElem?_toArray, List.getElem?_cons_zero, List.getElem?_cons_succ, gres]
          iterate 5 (refine seqR_hide fun R hR => ?_; simp [go_sem, hj, hw1, d396, d639, d466, d646, g0, g4, g6, g7, g10, g11, g12, g48, g49, g50, hi, hw2, bcs hP u3, impc, d946, d469, d96, d69]; refine hR _ _ _ ?_; clear hR R)
          refine seqR_hide fun R hR => ?_
          simp [go_sem, hj, hw1, d396, d639, d466, d646, g0, g4, g6, g7, g10, g11, g12, g48, g49, g50, hi, hw2, bcs hP u3, impc, d946, d469, d96, d69]
          intro q61 hq61
          replace hP := hP.cons hq61
          clear hq61
          have d619 : q61 ≠ q9 := (hP.ne q9 (by simp [addrs])).1
          have d961 : q9 ≠ q61 := (hP.ne q9 (by simp [addrs])).2
          have d6146 : q61 ≠ q46 := (hP.ne q46 (by simp [addrs])).1
          have d4661 : q46 ≠ q61 := (hP.ne q46 (by simp [addrs])).2
          have d616 : q61 ≠ q6 := (hP.ne q6 (by simp [addrs])).1
          have d661 : q6 ≠ q61 := (hP.ne q6 (by simp [addrs])).2
          refine hR _ _ _ ?_; clear hR R
          iterate 6 (refine seqR_hide fun R hR => ?_; simp [go_sem, hj, hw1, d396, d639, d466, d646, g0, g4, g6, g7, g10, g11, g12, g48, g49, g50, hi, hw2, bcs hP u3, impc, d946, d469, d96, d69, d619, d961, d6146, d4661, d616, d661]; refine hR _ _ _ ?_; clear hR R)
          refine seqR_hide fun R hR => ?_
          simp [go_sem, hj, hw1, d396, d639, d466, d646, g0, g4, g6, g7, g10, g11, g12, g48, g49, g50, hi, hw2, bcs hP u3, impc, d946, d469, d96, d69, d619, d961, d6146, d4661, d616, d661]
          refine mapset_goal 0 hP rfl MF.new (by simp [strMap, ti63, ti9]) ?_
          clear hP
          rintro o1 ho1 hP
          simp only [List.set_cons_zero, List.set_cons_succ, addrs_cons, addrs_nil] at hP ⊢
          refine ⟨push_le hP (ov_mono (eraseB_le _ _)), hR _ _ _ ?_⟩; clear hR R
          refine seqR_hide fun R hR => ?_
          simp [go_sem, hj, hw1, d396, d639, d466, d646, g0, g4, g6, g7, g10, g11, g12, g48, g49, g50, hi, hw2, bcs hP u3, impc, d946, d469, d96, d69, d619, d961, d6146, d4661, d616, d661]
          refine mapset_goal 0 hP rfl ho1 (by simp [strMap, ti63, ti9]) ?_
          clear hP
          rintro o2 ho2 hP
          simp only [List.set_cons_zero, List.set_cons_succ, addrs_cons, addrs_nil] at hP ⊢
          refine ⟨push_le hP (ov_mono (eraseB_le _ _)), hR _ _ _ ?_⟩; clear hR R
          iterate 2 (refine seqR_hide fun R hR => ?_; simp [go_sem, hj, hw1, d396, d639, d466, d646, g0, g4, g6, g7, g10, g11, g12, g48, g49, g50, hi, hw2, bcs hP u3, impc, d946, d469, d96, d69, d619, d961, d6146, d4661, d616, d661]; refine hR _ _ _ ?_; clear hR R)
          refine seqR_hide fun R hR => ?_
          simp [go_sem, hj, hw1, d396, d639, d466, d646, g0, g4, g6, g7, g10, g11, g12, g48, g49, g50, hi, hw2, bcs hP u3, impc, d946, d469, d96, d69, d619, d961, d6146, d4661, d616, d661]
          intro q70 hq70
          replace hP := hP.cons hq70
          clear hq70
          have d7061 : q70 ≠ q61 := (hP.ne q61 (by simp [addrs])).1
          have d6170 : q61 ≠ q70 := (hP.ne q61 (by simp [addrs])).2
          have d709 : q70 ≠ q9 := (hP.ne q9 (by simp [addrs])).1
          have d970 : q9 ≠ q70 := (hP.ne q9 (by simp [addrs])).2
          have d7046 : q70 ≠ q46 := (hP.ne q46 (by simp [addrs])).1
          have d4670 : q46 ≠ q70 := (hP.ne q46 (by simp [addrs])).2
          have d706 : q70 ≠ q6 := (hP.ne q6 (by simp [addrs])).1
          have d670 : q6 ≠ q70 := (hP.ne q6 (by simp [addrs])).2
          refine hR _ _ _ ?_; clear hR R
          refine seqR_hide fun R hR => ?_
          simp [go_sem, hj, hw1, d396, d639, d466, d646, g0, g4, g6, g7, g10, g11, g12, g48, g49, g50, hi, hw2, bcs hP u3, impc, d946, d469, d96, d69, d619, d961, d6146, d4661, d616, d661, d7061, d6170, d709, d970, d7046, d4670, d706, d670]
          obtain ⟨eq61, hPn, nq61⟩ := sinkI (A := D2) (L := [(q70, .cells #[.iface 63 (.map (some q61))] 20 (0, 0)), (q61, o2), (q9, .cells #[.string xn, .string xc, .string xp, .bool true] 61 (0, 0)), (q46, .cells (dc w.name w.ver w.cond w.alias (.slice tb w.tags.length tc) w.en iv) 95 (0, 0)), (q6, .cells (wc w.name w.ver w.cond w.alias (.slice b1 w.tags.length c1) w.en (.slice (some a3) w.imps.length c2)) 34 (0, 0))]) 1 hP rfl
          rw [eq61]
          clear eq61 hP; have hP := hPn; clear hPn
          simp only [List.eraseIdx_cons_zero, List.eraseIdx_cons_succ, addrs_cons, addrs_nil] at hP ⊢
          have lq61 : D2 ≤ D2.set q61 o2 := le_set nq61
          have nD61 : D q61 = none := none_le hDD2 nq61
          have hb61 : (D2.set q61 o2) q61 = some o2 := set_at _ _ _
          generalize D2.set q61 o2 = D3 at hP lq61 hb61 ⊢
          refine append_ov (cs := [.iface 63 (.map (some q61))]) (m := 1) hP ti93 ti93 (fun k => by simp) ti20 rfl (by decide) (own_rebase (hOi.le lq61)) (eraseB_le _ _) (by simp [appended, View.cells?, go_sem]) (by simp [isStr]) (fun v hv => by rw [List.mem_singleton] at hv; subst hv; rfl) (by have := hvj.2.2.2; omega) ?_
          clear hP
          rintro v4 D4 h4 hO4 h4e hP
          obtain ⟨vb, vc, rfl⟩ := hO4.shape
          have hE4 := View.le_trans (eraseB_mono lq61 iv) h4e
          refine hR _ _ _ ?_; clear hR R
          iterate 2 (refine seqR_hide fun R hR => ?_; simp [go_sem, hj, hw1, d396, d639, d466, d646, g0, g4, g6, g7, g10, g11, g12, g48, g49, g50, hi, hw2, impc, d946, d469, d96, d69, d619, d961, d6146, d4661, d616, d661, d7061, d6170, d709, d970, d7046, d4670, d706, d670]; refine hR _ _ _ ?_; clear hR R)
          refine seqR_hide fun R hR => ?_
          simp [go_sem, hj, hw1, d396, d639, d466, d646, g0, g4, g6, g7, g10, g11, g12, g48, g49, g50, hi, hw2, impc, d946, d469, d96, d69, d619, d961, d6146, d4661, d616, d661, d7061, d6170, d709, d970, d7046, d4670, d706, d670]
          refine hR _ _ _ ?_; clear hR R
          rw [seqR_nil]
          refine hK _ _ _ ?_; clear hK K
          refine hN20 _ _ _ ?_
          refine hN16 _ _ _ ?_
          refine xc_reg1 2 rfl fun K hK => ?_
          simp only [show (List.range 2).map (·, true) = [(0, true), (1, true)] from rfl, rslv_cons, rslv_nil, List.getElem?_toArray, List.getElem?_cons_zero, List.getElem?_cons_succ, gres]
          iterate 2 (refine seqX_hide2 fun R hR => ?_; simp [go_sem, hj, hw1, d396, d639, d466, d646, g0, g4, g6, g7, g10, g11, g12, g48, g49, g50, hi, hw2, impc, d946, d469, d96, d69, d619, d961, d6146, d4661, d616, d661, d7061, d6170, d709, d970, d7046, d4670, d706, d670]; refine hR _ _ _ ?_; clear hR R)
          rw [seqX_nil]
          refine hK _ _ _ ?_; clear hK K
          refine sink_goal 0 hP rfl fun hPn lq70 nq70 => ?_
          clear hP; have hP := hPn; clear hPn
          simp only [List.eraseIdx_cons_zero, List.eraseIdx_cons_succ, addrs_cons, addrs_nil] at hP ⊢
          refine sink_goal 0 hP rfl fun hPn lq9 nq9 => ?_
          clear hP; have hP := hPn; clear hPn
          simp only [List.eraseIdx_cons_zero, List.eraseIdx_cons_succ, addrs_cons, addrs_nil] at hP ⊢
          have hs := View.le_trans lq70 lq9
          have hE5 := View.le_trans hE4 (eraseB_mono hs (.slice vb (i + 1) vc))
          refine hJ2 (w.imps.length - (i + 1)) _ _ _ (by omega) ⟨i + 1, _, .slice vb (i + 1) vc, cs ++ [.iface 63 (.map (some q61))], rfl, rfl, rfl, hP, by simp [go_sem, hj, hw1, d396, d639, d466, d646, g0, g4, g6, g7, g10, g11, g12, g48, g49, g50, hi, hw2, impc, d946, d469, d96, d69, d619, d961, d6146, d4661, d616, d661, d7061, d6170, d709, d970, d7046, d4670, d706, d670], by simp [go_sem, hj, hw1, d396, d639, d466, d646, g0, g4, g6, g7, g10, g11, g12, g48, g49, g50, hi, hw2, impc, d946, d469, d96, d69, d619, d961, d6146, d4661, d616, d661, d7061, d6170, d709, d970, d7046, d4670, d706, d670], by simp [go_sem, hj, hw1, d396, d639, d466, d646, g0, g4, g6, g7, g10, g11, g12, g48, g49, g50, hi, hw2, impc, d946, d469, d96, d69, d619, d961, d6146, d4661, d616, d661, d7061, d6170, d709, d970, d7046, d4670, d706, d670], by simp [go_sem, hj, hw1, d396, d639, d466, d646, g0, g4, g6, g7, g10, g11, g12, g48, g49, g50, hi, hw2, impc, d946, d469, d96, d69, d619, d961, d6146, d4661, d616, d661, d7061, d6170, d709, d970, d7046, d4670, d706, d670], by simp [go_sem, hj, hw1, d396, d639, d466, d646, g0, g4, g6, g7, g10, g11, g12, g48, g49, g50, hi, hw2, impc, d946, d469, d96, d69, d619, d961, d6146, d4661, d616, d661, d7061, d6170, d709, d970, d7046, d4670, d706, d670], by simp [go_sem, hj, hw1, d396, d639, d466, d646, g0, g4, g6, g7, g10, g11, g12, g48, g49, g50, hi, hw2, impc, d946, d469, d96, d69, d619, d961, d6146, d4661, d616, d661, d7061, d6170, d709, d970, d7046, d4670, d706, d670], by simp [go_sem, hj, hw1, d396, d639, d466, d646, g0, g4, g6, g7, g10, g11, g12, g48, g49, g50, hi, hw2, impc, d946, d469, d96, d69, d619, d961, d6146, d4661, d616, d661, d7061, d6170, d709, d970, d7046, d4670, d706, d670], by simp [go_sem, hj, hw1, d396, d639, d466, d646, g0, g4, g6, g7, g10, g11, g12, g48, g49, g50, hi, hw2, impc, d946, d469, d96, d69, d619, d961, d6146, d4661, d616, d661, d7061, d6170, d709, d970, d7046, d4670, d706, d670], by simp [go_sem, hj, hw1, d396, d639, d466, d646, g0, g4, g6, g7, g10, g11, g12, g48, g49, g50, hi, hw2, impc, d946, d469, d96, d69, d619, d961, d6146, d4661, d616, d661, d7061, d6170, d709, d970, d7046, d4670, d706, d670], by simp [go_sem, hj, hw1, d396, d639, d466, d646, g0, g4, g6, g7, g10, g11, g12, g48, g49, g50, hi, hw2, impc, d946, d469, d96, d69, d619, d961, d6146, d4661, d616, d661, d7061, d6170, d709, d970, d7046, d4670, d706, d670], by omega, View.le_trans hD2 hE5, own_rebase (hO4.le hs), ?_⟩
          refine hcs.push (Diff.le hE5) hgi (.inr ⟨rfl, q61, o2, _, rfl, Diff.at' nD61 (eraseB_mono hs (.slice vb (i + 1) vc) _ _ (h4e _ _ ?_)), ho2, rfl, rfl⟩)
          rw [eraseB_apart (own_block hOi nq61)]
          exact hb61
      | false =>
        refine xc_two fun N14 hN14 => ?_
        refine xc_reg1 1 rfl fun K hK => ?_
        simp only [show (List.range 1).map (·, true) = [(0, true)] from rfl, rslv_cons, rslv_nil, List.getElem?_toArray, List.getElem?_cons_zero, List.getElem?_cons_succ, gres]
        (refine seqX_hide2 fun R hR => ?_; simp [go_sem, hj, hw1, d396, d639, d466, d646, g0, g4, g6, g7, g10, g11, g12, g48, g49, g50, hi, hw2, bcs hP u3, impc]; refine hR _ _ _ ?_; clear hR R)
        rw [seqX_nil]
        refine hK _ _ _ ?_; clear hK K
        refine hN14 _ _ _ ?_
        refine xc_two fun N15 hN15 => ?_
        refine xc_iftrue (by simp [go_sem, hj, hw1, d396, d639, d466, d646, g0, g4, g6, g7, g10, g11, g12, g48, g49, g50, hi, hw2, bcs hP u3, impc]) ?_
        refine hN15 _ _ _ ?_
        refine xc_two fun N16 hN16 => ?_
        rw [xc_block]
        refine xc_two fun N17 hN17 => ?_
        refine xc_reg1 4 rfl fun K hK => ?_
        simp only [show (List.range 4).map (·, true) = [(0, true), (1, true), (2, true), (3, true)] from rfl, rslv_cons, rslv_nil, List.getElem?_toArray, List.getElem?_cons_zero, List.getElem?_cons_succ, gres]
        iterate 2 (refine seqX_hide2 fun R hR => ?_; simp [go_sem, hj, hw1, d396, d639, d466, d646, g0, g4, g6, g7, g10, g11, g12, g48, g49, g50, hi, hw2, bcs hP u3, impc]; refine hR _ _ _ ?_; clear hR R)
        refine seqX_hide2 fun R hR => ?_
        simp [go_sem, hj, hw1, d396, d639, d466, d646, g0, g4, g6, g7, g10, g11, g12, g48, g49, g50, hi, hw2, bcs hP u3, impc]
        intro q9 hq9
        replace hP := hP.cons hq9
        clear hq9
        have d946 : q9 ≠ q46 := (hP.ne q46 (by simp [addrs])).1
        have d469 : q46 ≠ q9 := (hP.ne q46 (by simp [addrs])).2
        have d96 : q9 ≠ q6 := (hP.ne q6 (by simp [addrs])).1
        have d69 : q6 ≠ q9 := (hP.ne q6 (by simp [addrs])).2
        refine hR _ _ _ ?_; clear hR R
        refine seqX_hide2 fun R hR => ?_
        simp [go_sem, hj, hw1, d396, d639, d466, d646, g0, g4, g6, g7, g10, g11, g12, g48, g49, g50, hi, hw2, bcs hP u3, impc, d946, d469, d96, d69]
        refine hR _ _ _ ?_; clear hR R
        rw [seqX_nil]
        refine hK _ _ _ ?_; clear hK K
        refine hN17 _ _ _ ?_
        refine xc_two fun N18 hN18 => ?_
        refine xc_two fun N19 hN19 => ?_
        refine xc_reg1 2 rfl fun K hK => ?_
        simp only [show (List.range 2).map (·, true) = [(0, true), (1, true)] from rfl, rslv_cons, rslv_nil, List.getElem?_toArray, List.getElem?_cons_zero, List.getElem?_cons_succ, gres]
        iterate 2 (refine seqX_hide2 fun R hR => ?_; simp [go_sem, hj, hw1, d396, d639, d466, d646, g0, g4, g6, g7, g10, g11, g12, g48, g49, g50, hi, hw2, bcs hP u3, impc, d946, d469, d96, d69]; refine hR _ _ _ ?_; clear hR R)
        rw [seqX_nil]
        refine hK _ _ _ ?_; clear hK K
        refine hN19 _ _ _ ?_
        refine xc_iffalse (by simp [go_sem, hj, hw1, d396, d639, d466, d646, g0, g4, g6, g7, g10, g11, g12, g48, g49, g50, hi, hw2, bcs hP u3, impc, d946, d469, d96, d69]) ?_
        refine hN18 _ _ _ ?_
        rw [xc_draws]
        refine vdrawK [(0, true), (1, true), (2, true), (3, true), (4, true), (5, true), (6, true), (7, true), (8, true), (9, false), (10, true), (11, true), (12, false)] (ov (eraseB D2 iv) [(q9, .cells #[.string xn, .string xc, .string xp, .bool false] 61 (0, 0)), (q46, .cells (dc w.name w.ver w.cond w.alias (.slice tb w.tags.length tc) w.en iv) 95 (0, 0)), (q6, .cells (wc w.name w.ver w.cond w.alias (.slice b1 w.tags.length c1) w.en (.slice (some a3) w.imps.length c2)) 34 (0, 0))]) mixed (by kernel_rfl) (ov_mono (eraseB_le _ _)) fun K hK => ?_
        simp only [rslv_cons, rslv_nil, List.getElem?_toArray, List.getElem?_cons_zero, List.getElem?_cons_succ, gres]
        iterate 8 (refine seqR_hide fun R hR => ?_; simp [go_sem, hj, hw1, d396, d639, d466, d646, g0, g4, g6, g7, g10, g11, g12, g48, g49, g50, hi, hw2, bcs hP u3, impc, d946, d469, d96, d69]; refine hR _ _ _ ?_; clear hR R)
        refine seqR_hide fun R hR => ?_
        simp [go_sem, hj, hw1, d396, d639, d466, d646, g0, g4, g6, g7, g10, g11, g12, g48, g49, g50, hi, hw2, bcs hP u3, impc, d946, d469, d96, d69]
        intro q82 hq82
        replace hP := hP.cons hq82
        clear hq82
        have d829 : q82 ≠ q9 := (hP.ne q9 (by simp [addrs])).1
        have d982 : q9 ≠ q82 := (hP.ne q9 (by simp [addrs])).2
        have d8246 : q82 ≠ q46 := (hP.ne q46 (by simp [addrs])).1
        have d4682 : q46 ≠ q82 := (hP.ne q46 (by simp [addrs])).2
        have d826 : q82 ≠ q6 := (hP.ne q6 (by simp [addrs])).1
        have d682 : q6 ≠ q82 := (hP.ne q6 (by simp [addrs])).2
        refine hR _ _ _ ?_; clear hR R
        refine seqR_hide fun R hR => ?_
        simp [go_sem, hj, hw1, d396, d639, d466, d646, g0, g4, g6, g7, g10, g11, g12, g48, g49, g50, hi, hw2, bcs hP u3, impc, d946, d469, d96, d69, d829, d982, d8246, d4682, d826, d682]
        refine append_ov (cs := [.iface 9 (.string xn)]) (m := 1) hP ti93 ti93 (fun k => by simp) ti20 rfl (by decide) hOi (eraseB_le _ _) (by simp [appended, View.cells?, go_sem]) (by simp [isStr]) (fun v hv => by rw [List.mem_singleton] at hv; subst hv; rfl) (by have := hvj.2.2.2; omega) ?_
        clear hP
        rintro v4 D4 h4 hO4 h4e hP
        obtain ⟨vb, vc, rfl⟩ := hO4.shape
        refine hR _ _ _ ?_; clear hR R
        iterate 2 (refine seqR_hide fun R hR => ?_; simp [go_sem, hj, hw1, d396, d639, d466, d646, g0, g4, g6, g7, g10, g11, g12, g48, g49, g50, hi, hw2, impc, d946, d469, d96, d69, d829, d982, d8246, d4682, d826, d682]; refine hR _ _ _ ?_; clear hR R)
        refine seqR_hide fun R hR => ?_
        simp [go_sem, hj, hw1, d396, d639, d466, d646, g0, g4, g6, g7, g10, g11, g12, g48, g49, g50, hi, hw2, impc, d946, d469, d96, d69, d829, d982, d8246, d4682, d826, d682]
        refine hR _ _ _ ?_; clear hR R
        rw [seqR_nil]
        refine hK _ _ _ ?_; clear hK K
        refine hN16 _ _ _ ?_
        refine xc_reg1 2 rfl fun K hK => ?_
        simp only [show (List.range 2).map (·, true) = [(0, true), (1, true)] from rfl, rslv_cons, rslv_nil, List.getElem?_toArray, List.getElem?_cons_zero, List.getElem?_cons_succ, gres]
        iterate 2 (refine seqX_hide2 fun R hR => ?_; simp [go_sem, hj, hw1, d396, d639, d466, d646, g0, g4, g6, g7, g10, g11, g12, g48, g49, g50, hi, hw2, impc, d946, d469, d96, d69, d829, d982, d8246, d4682, d826, d682]; refine hR _ _ _ ?_; clear hR R)
        rw [seqX_nil]
        refine hK _ _ _ ?_; clear hK K
        refine sink_goal 0 hP rfl fun hPn lq82 nq82 => ?_
        clear hP; have hP := hPn; clear hPn
        simp only [List.eraseIdx_cons_zero, List.eraseIdx_cons_succ, addrs_cons, addrs_nil] at hP ⊢
        refine sink_goal 0 hP rfl fun hPn lq9 nq9 => ?_
        clear hP; have hP := hPn; clear hPn
        simp only [List.eraseIdx_cons_zero, List.eraseIdx_cons_succ, addrs_cons, addrs_nil] at hP ⊢
        have hs := View.le_trans lq82 lq9
        have hE5 := View.le_trans h4e (eraseB_mono hs (.slice vb (i + 1) vc))
        refine hJ2 (w.imps.length - (i + 1)) _ _ _ (by omega) ⟨i + 1, _, .slice vb (i + 1) vc, cs ++ [.iface 9 (.string xn)], rfl, rfl, rfl, hP, by simp [go_sem, hj, hw1, d396, d639, d466, d646, g0, g4, g6, g7, g10, g11, g12, g48, g49, g50, hi, hw2, impc, d946, d469, d96, d69, d829, d982, d8246, d4682, d826, d682], by simp [go_sem, hj, hw1, d396, d639, d466, d646, g0, g4, g6, g7, g10, g11, g12, g48, g49, g50, hi, hw2, impc, d946, d469, d96, d69, d829, d982, d8246, d4682, d826, d682], by simp [go_sem, hj, hw1, d396, d639, d466, d646, g0, g4, g6, g7, g10, g11, g12, g48, g49, g50, hi, hw2, impc, d946, d469, d96, d69, d829, d982, d8246, d4682, d826, d682], by simp [go_sem, hj, hw1, d396, d639, d466, d646, g0, g4, g6, g7, g10, g11, g12, g48, g49, g50, hi, hw2, impc, d946, d469, d96, d69, d829, d982, d8246, d4682, d826, d682], by simp [go_sem, hj, hw1, d396, d639, d466, d646, g0, g4, g6, g7, g10, g11, g12, g48, g49, g50, hi, hw2, impc, d946, d469, d96, d69, d829, d982, d8246, d4682, d826, d682], by simp [go_sem, hj, hw1, d396, d639, d466, d646, g0, g4, g6, g7, g10, g11, g12, g48, g49, g50, hi, hw2, impc, d946, d469, d96, d69, d829, d982, d8246, d4682, d826, d682], by simp [go_sem, hj, hw1, d396, d639, d466, d646, g0, g4, g6, g7, g10, g11, g12, g48, g49, g50, hi, hw2, impc, d946, d469, d96, d69, d829, d982, d8246, d4682, d826, d682], by simp [go_sem, hj, hw1, d396, d639, d466, d646, g0, g4, g6, g7, g10, g11, g12, g48, g49, g50, hi, hw2, impc, d946, d469, d96, d69, d829, d982, d8246, d4682, d826, d682], by simp [go_sem, hj, hw1, d396, d639, d466, d646, g0, g4, g6, g7, g10, g11, g12, g48, g49, g50, hi, hw2, impc, d946, d469, d96, d69, d829, d982, d8246, d4682, d826, d682], by simp [go_sem, hj, hw1, d396, d639, d466, d646, g0, g4, g6, g7, g10, g11, g12, g48, g49, g50, hi, hw2, impc, d946, d469, d96, d69, d829, d982, d8246, d4682, d826, d682], by omega, View.le_trans hD2 hE5, own_rebase (hO4.le hs), hcs.push (Diff.le hE5) hgi (.inl ⟨rfl, rfl⟩)⟩
    · skip
      refine xc_two fun N14 hN14 => ?_
      refine xc_reg1 1 rfl fun K hK => ?_
      simp only [show (List.range 1).map (·, true) = [(0, true)] from rfl, rslv_cons, rslv_nil, List.getElem?_toArray, List.getElem?_cons_zero, List.getElem?_cons_succ, gres]
      (refine seqX_hide2 fun R hR => ?_; simp [go_sem, hj, hw1, d396, d639, d466, d646, g0, g4, g6, g7, g10, g11, g12, g48, g49, g50, hi]; refine hR _ _ _ ?_; clear hR R)
      rw [seqX_nil]
      refine hK _ _ _ ?_; clear hK K
      refine hN14 _ _ _ ?_
      refine xc_two fun N15 hN15 => ?_
      refine xc_iffalse (by simp [go_sem, hj, hw1, d396, d639, d466, d646, g0, g4, g6, g7, g10, g11, g12, g48, g49, g50, hi]) ?_
      refine hX2 _ _ _ _ ?_
      refine hN12 _ _ _ ?_
      refine xc_reg1 5 rfl fun K hK => ?_
      simp only [show (List.range 5).map (·, true) = [(0, true), (1, true), (2, true), (3, true), (4, true)] from rfl, rslv_cons, rslv_nil, List.getElem?_toArray, List.getElem?_cons_zero, List.getElem?_cons_succ, gres]
      iterate 2 (refine seqX_hide2 fun R hR => ?_; simp [go_sem, hj, hw1, d396, d639, d466, d646, g0, g4, g6, g7, g10, g11, g12, g48, g49, g50, hi]; refine hR _ _ _ ?_; clear hR R)
      refine seqX_hide2 fun R hR => ?_
      simp [go_sem, hj, hw1, d396, d639, d466, d646, g0, g4, g6, g7, g10, g11, g12, g48, g49, g50, hi]
      intro q89 hq89
      replace hP := hP.cons hq89
      clear hq89
      have d8946 : q89 ≠ q46 := (hP.ne q46 (by simp [addrs])).1
      have d4689 : q46 ≠ q89 := (hP.ne q46 (by simp [addrs])).2
      have d896 : q89 ≠ q6 := (hP.ne q6 (by simp [addrs])).1
      have d689 : q6 ≠ q89 := (hP.ne q6 (by simp [addrs])).2
      refine hR _ _ _ ?_; clear hR R
      refine seqX_hide2 fun R hR => ?_
      simp [go_sem, hj, hw1, d396, d639, d466, d646, g0, g4, g6, g7, g10, g11, g12, g48, g49, g50, hi, d8946, d4689, d896, d689]
      have n46 : D2 q46 = none := hP.2.2.1
      have nD46 : D q46 = none := none_le hDD2 n46
      have him : i = w.imps.length := by omega
      obtain ⟨eq46, hPn, nq46⟩ := sinkI (A := D2) (L := [(q89, .cells #[ptr0 q46] 92 (0, 0)), (q46, .cells (dc w.name w.ver w.cond w.alias (.slice tb w.tags.length tc) w.en iv) 95 (0, 0)), (q6, .cells (wc w.name w.ver w.cond w.alias (.slice b1 w.tags.length c1) w.en (.slice b2 w.imps.length c2)) 34 (0, 0))]) 1 hP rfl
      rw [eq46]
      clear eq46 hP; have hP := hPn; clear hPn
      simp only [List.eraseIdx_cons_zero, List.eraseIdx_cons_succ, addrs_cons, addrs_nil] at hP ⊢
      have lq46 : D2 ≤ D2.set q46 (.cells (dc w.name w.ver w.cond w.alias (.slice tb w.tags.length tc) w.en iv) 95 (0, 0)) := le_set n46
      have hb46 : (D2.set q46 (.cells (dc w.name w.ver w.cond w.alias (.slice tb w.tags.length tc) w.en iv) 95 (0, 0))) q46 = some (.cells (dc w.name w.ver w.cond w.alias (.slice tb w.tags.length tc) w.en iv) 95 (0, 0)) := set_at _ _ _
      generalize D2.set q46 (.cells (dc w.name w.ver w.cond w.alias (.slice tb w.tags.length tc) w.en iv) 95 (0, 0)) = D3 at hP lq46 hb46 ⊢
      have hOu := hO.le (View.le_trans hDD2 lq46)
      refine append_ov (cs := [ptr0 q46]) (m := 1) hP ti66 ti66 (fun k => by simp) ti92 rfl (by decide) (own_rebase hOu) (eraseB_le _ _) (by simp [appended, View.cells?, go_sem]) (by simp [isStr]) (fun v hv => by rw [List.mem_singleton] at hv; subst hv; rfl) (by omega) ?_
      clear hP
      rintro v4 D4 h4 hO4 h4e hP
      refine hR _ _ _ ?_; clear hR R
      (refine seqX_hide2 fun R hR => ?_; simp [go_sem, hj, hw1, d396, d639, d466, d646, g0, g4, g6, g7, g10, g11, g12, g48, g49, g50, hi, d8946, d4689, d896, d689]; refine hR _ _ _ ?_; clear hR R)
      rw [seqX_nil]
      refine hK _ _ _ ?_; clear hK K
      refine hN7 _ _ _ ?_
      refine xc_reg1 2 rfl fun K hK => ?_
      simp only [show (List.range 2).map (·, true) = [(0, true), (1, true)] from rfl, rslv_cons, rslv_nil, List.getElem?_toArray, List.getElem?_cons_zero, List.getElem?_cons_succ, gres]
      iterate 2 (refine seqX_hide2 fun R hR => ?_; simp [go_sem, hj, hw1, d396, d639, d466, d646, g0, g4, g6, g7, g10, g11, g12, g48, g49, g50, hi, d8946, d4689, d896, d689]; refine hR _ _ _ ?_; clear hR R)
      rw [seqX_nil]
      refine hK _ _ _ ?_; clear hK K
      refine sink_goal 0 hP rfl fun hPn lq89 nq89 => ?_
      clear hP; have hP := hPn; clear hPn
      simp only [List.eraseIdx_cons_zero, List.eraseIdx_cons_succ, addrs_cons, addrs_nil] at hP ⊢
      refine sink_goal 0 hP rfl fun hPn lq6 nq6 => ?_
      clear hP; have hP := hPn; clear hPn
      simp only [List.eraseIdx_cons_zero, List.eraseIdx_cons_succ, addrs_cons, addrs_nil] at hP ⊢
      have hs := View.le_trans lq89 lq6
      have hE4 := View.le_trans (eraseB_mono (View.le_trans hDD2 lq46) uv) (View.le_trans h4e (eraseB_mono hs v4))
      refine hJ1 (l.length - (j + 1)) _ _ _ (by omega) ⟨j + 1, _, v4, ps ++ [q46], rfl, rfl, rfl, hP, by simp [go_sem, hj, hw1, d396, d639, d466, d646, g0, g4, g6, g7, g10, g11, g12, g48, g49, g50, hi, d8946, d4689, d896, d689], by simp [go_sem, hj, hw1, d396, d639, d466, d646, g0, g4, g6, g7, g10, g11, g12, g48, g49, g50, hi, d8946, d4689, d896, d689], by simp [go_sem, hj, hw1, d396, d639, d466, d646, g0, g4, g6, g7, g10, g11, g12, g48, g49, g50, hi, d8946, d4689, d896, d689], by simp [go_sem, hj, hw1, d396, d639, d466, d646, g0, g4, g6, g7, g10, g11, g12, g48, g49, g50, hi, d8946, d4689, d896, d689], by simp [go_sem, hj, hw1, d396, d639, d466, d646, g0, g4, g6, g7, g10, g11, g12, g48, g49, g50, hi, d8946, d4689, d896, d689], by omega, View.le_trans hAD hE4, by rw [List.length_append, List.map_append]; exact own_rebase (hO4.le hs), ?_, fun p hp => (List.mem_append.1 hp).elim (hpA p) (fun h => by rw [List.mem_singleton.1 h]; exact none_le hA2 nD46)⟩
      rw [htk]
      have hE6 := View.le_trans h4e (eraseB_mono hs v4)
      have hdf := View.le_trans (Diff.er (p := q46) hO (in_er hD) n46 lq46) (Er.le hE6 _)
      refine hD.push hE4 (none_le (eraseB_le _ _) nD46) (hE6 _ _ ?_) ⟨.slice tb w.tags.length tc, iv, rfl, ?_, ?_⟩
      · rw [eraseB_apart (own_block hO nD46)]; exact hb46
      · exact (hOt1.diff.le (Diff.le (View.le_trans hD2 (eraseB_le _ _)))).le hdf
      · refine (ImpUp.all (X := Diff D D2) ⟨hcs.len, fun k hk => ?_⟩ (own_down hOi (View.le_trans hD1 hD2)).diff him).le hdf
        obtain ⟨x, y, g1, g2, g3⟩ := hcs.at' k hk
        exact ⟨x, y, g1, g2, g3.le (Diff.le (eraseB_le _ _))⟩
  · skip
    rw [List.take_of_length_le (by omega)] at hD
    refine xc_two fun N5 hN5 => ?_
    refine xc_reg1 1 rfl fun K hK => ?_
    simp only [show (List.range 1).map (·, true) = [(0, true)] from rfl, rslv_cons, rslv_nil, List.getElem?_toArray, List.getElem?_cons_zero, List.getElem?_cons_succ, gres]
    (refine seqX_hide2 fun R hR => ?_; simp [go_sem, g0, g4, g10, g11, g12, hj]; refine hR _ _ _ ?_; clear hR R)
    rw [seqX_nil]
    refine hK _ _ _ ?_; clear hK K
    refine hN5 _ _ _ ?_
    refine xc_two fun N6 hN6 => ?_
    refine xc_iffalse (by simp [go_sem, g0, g4, g10, g11, g12]) ?_
    refine hX1 _ _ _ _ ?_
    refine hN3 _ _ _ ?_
    refine xc_two fun N7 hN7 => ?_
    refine xc_reg1 3 rfl fun K hK => ?_
    simp only [show (List.range 3).map (·, true) = [(0, true), (1, true), (2, true)] from rfl, rslv_cons, rslv_nil, List.getElem?_toArray, List.getElem?_cons_zero, List.getElem?_cons_succ, gres]
    iterate 3 (refine seqX_hide2 fun R hR => ?_; simp [go_sem, g0, g4, g10, g11, g12]; refine hR _ _ _ ?_; clear hR R)
    rw [seqX_nil]
    refine hK _ _ _ ?_; clear hK K
    refine hN7 _ _ _ ?_
    simp [go_sem, g0, g4, g10, g11, g12]
    refine ⟨uv, ps, rfl, fun b o hb => ?_, hD.le (eraseB_le _ _), hO.er hD.in'⟩
    unfold Er
    rw [if_neg (fun hx => by rw [hpA b hx] at hb; cases hb)]
    exact eraseB_le _ _ _ _ (hAD _ _ hb)
end Go.Proofs.YtogfpbnbojhpoaaV

/- Charts: impl.wantsBack. -/
import Derived.Test.YtogfpbnbojhpoaaWG
namespace Go.Proofs.YtogfpbnbojhpoaaV
open Go.RowKit
set_option linter.unusedSimpArgs false
set_option linter.unusedVariables false
theorem Own.clen {A0 A : View} {e : TypeId} {size n : Nat} {v : Value} {cs : List Value} (h : Own A0 A e size v n cs) : cs.length = n * size := by
  obtain ⟨b, c, rfl⟩ := h.shape
  exact sliceIn_length h.1
theorem Parts.le {k : Nat} {cs : List Value} {α : Type} {l : List α} {Q Q' : α → Array Value → Prop} (h : Parts k cs l Q) (hQ : ∀ x c, Q x c → Q' x c) : Parts k cs l Q' := fun j hj => let ⟨c, g1, g2, g3⟩ := h j hj; ⟨c, g1, g2, hQ _ _ g3⟩
set_option maxRecDepth 20000 in
theorem app_imp {D0 D : View} {L : List (Nat × Obj)} {u x : Value} {n : Nat} {vs : List Value} {c : Array Value} {K : Value → View → Prop} (i : Imp) (hP : Priv D (addrs L)) (hO : Own D0 D 61 4 u n vs) (hD : D0 ≤ D)
    (hx : appended Try.prog (ov D L) 4 x = some (c.toList, 1)) (hc : c = impc i) (hs : isStr x = false) (hn : n ≤ 1000000)
    (k : ∀ v' D', D0 ≤ D' → Own D0 D' 61 4 v' (n + 1) (vs ++ c.toList) → eraseB D u ≤ eraseB D' v' → Priv D' (addrs L) → K v' (ov D' L)) : xappend Try.prog 32 32 u x (ov D L) K := by
  refine append_ov hP ti32 ti32 (fun k => by simp) ti61 rfl (by decide) hO hD hx (fun h => absurd (hs.symm.trans h) (by decide)) (fun v hv => ?_) (by omega) k
  subst hc
  exact List.all_eq_true.1 (show (impc i).toList.all one = true from rfl) v hv
set_option maxRecDepth 20000 in
set_option maxHeartbeats 8000000 in
theorem wantsBack39 (A : View) (u : Value) (ps : List Nat) (l : List Wt) (hdep : Deps A ps l) (hrow : Row (Er A ps) 1 u ps.length (ps.map ptr0)) (hll : l.length ≤ 1000) (htl : ∀ w ∈ l, w.tags.length ≤ 1000 ∧ w.imps.length ≤ 1000 ∧ ∀ i ∈ w.imps, IR i) :
    VCalls Try.prog 39 #[u] A fun x A' => Wants A' x l ∧ A ≤ A' := by
  have hpl := hdep.len
  have hus : ∃ bs cp, u = .slice bs l.length cp := by
    rcases hrow with ⟨a, cap, rfl, -⟩ | ⟨rfl, hn, -⟩
    · exact ⟨some a, cap, by rw [hpl]⟩
    · exact ⟨none, 0, by rw [← hpl, hn]⟩
  obtain ⟨bs, cp, rfl⟩ := hus
  refine xcalls Try.func39 rfl (by simp [Try.ntmps39]) ?_
  simp only [Try.f39]
  have hP : Priv A (addrs []) := Priv.nil A
  show xc _ _ _ _ _ _ (ov A [])
  refine xc_two fun N1 hN1 => ?_
  refine xc_reg1 1 rfl fun K hK => ?_
  simp only [show (List.range 1).map (·, true) = [(0, true)] from rfl, rslv_cons, rslv_nil, List.getElem?_toArray, List.getElem?_cons_zero, List.getElem?_cons_succ, gres]
  (refine seqX_hide2 fun R hR => ?_; simp [go_sem]; refine hR _ _ _ ?_; clear hR R)
  rw [seqX_nil]
  refine hK _ _ _ ?_; clear hK K
  refine hN1 _ _ _ ?_
  refine xc_two fun N2 hN2 => ?_
  refine xc_reg1 1 rfl fun K hK => ?_
  simp only [show (List.range 1).map (·, true) = [(0, true)] from rfl, rslv_cons, rslv_nil, List.getElem?_toArray, List.getElem?_cons_zero, List.getElem?_cons_succ, gres]
  (refine seqX_hide2 fun R hR => ?_; simp [go_sem]; refine hR _ _ _ ?_; clear hR R)
  rw [seqX_nil]
  refine hK _ _ _ ?_; clear hK K
  refine hN2 _ _ _ ?_
  refine xc_two fun N3 hN3 => ?_
  refine xc_two fun N4 hN4 => ?_
  refine xc_reg1 3 rfl fun K hK => ?_
  simp only [show (List.range 3).map (·, true) = [(0, true), (1, true), (2, true)] from rfl, rslv_cons, rslv_nil, List.getElem?_toArray, List.getElem?_cons_zero, List.getElem?_cons_succ, gres]
  iterate 3 (refine seqX_hide2 fun R hR => ?_; simp [go_sem]; refine hR _ _ _ ?_; clear hR R)
  rw [seqX_nil]
  refine hK _ _ _ ?_; clear hK K
  refine hN4 _ _ _ ?_
  rw [xc_block]
  rw [xc_loop]
  refine vloopK (fun k' e ds A' => ∃ (j : Nat) (D : View) (uv : Value) (vs : List Value), k' = l.length - j ∧ ds = [] ∧ A' = ov D [] ∧ Priv D [] ∧ e 3 = uv ∧ e 16 = .slice bs l.length cp ∧ e 17 = .int .i64 l.length ∧ e 18 = .int .i64 j ∧ (j ≤ l.length) ∧ (A ≤ eraseB D uv) ∧ (Own (eraseB D uv) D 34 7 uv (l.take j).length vs) ∧ (Parts 7 vs (l.take j) (IsW (eraseB D uv)))) _ ⟨0, A, nl, [], rfl, rfl, rfl, hP, by simp [go_sem], by simp [go_sem], by simp [go_sem], by simp [go_sem], by omega, View.le_refl _, Own.nil _ _ _ _, Parts.nil _ _⟩ ?_
  clear hP
  rintro k' e ds A' ⟨j, D, uv, vs, rfl, rfl, hV, hP, g3, g16, g17, g18, hjl, hAD, hO, hp⟩ J1 X1 hJ1 hX1
  refine xc_sound _ ?_
  replace hV := Eq.symm hV; subst hV; replace hP : Priv D (addrs []) := hP
  have hw1 := wrap_nat (i := j) (by omega)
  by_cases hj : j < l.length
  · have hjp : j < ps.length := by omega
    have hA2 := View.le_trans hAD (eraseB_le D uv)
    obtain ⟨a, cap', f1, -, u1⟩ := Row.at1 (i := j) (u := ptr0 ps[j]) hrow (by simp [hjp])
    simp only [Value.slice.injEq] at f1
    obtain ⟨rfl, -, -⟩ := f1
    have u1 := le_cell (View.le_trans (Er.sub A ps) hA2) u1
    obtain ⟨c, hc, hd⟩ := hdep.dep j hjp
    have hc := hA2 _ _ hc
    have htk : l.take (j + 1) = l.take j ++ [l[j]] := List.take_succ_eq_append_getElem hj
    have htl1 := htl _ (List.getElem_mem hj)
    have hlj : (l.take j).length = j := by rw [List.length_take]; omega
    generalize l[j] = w at hd htl1 htk
    generalize ps[j] = p at hc u1
    obtain ⟨tg, iw, rfl, ht, hiv⟩ := hd
    obtain ⟨xs, hxr, hxs⟩ := hiv
    have ht := ht.le (Er.sub A ps)
    have hxr := hxr.le (Er.sub A ps)
    obtain ⟨b1, c1, rfl⟩ := ht.slice
    have hxs2 : ∃ b2 c2, iw = .slice b2 w.imps.length c2 := by
      rcases hxr with ⟨a, cap, rfl, -⟩ | ⟨rfl, hn, -⟩
      · exact ⟨some a, cap, rfl⟩
      · exact ⟨none, 0, by rw [hn]⟩
    obtain ⟨b2, c2, rfl⟩ := hxs2
    have e0 : D.cell? ⟨p, 0, none⟩ = some (.string w.name) := cell_of hc rfl
    have e1 : D.cell? ⟨p, 1, none⟩ = some (.string w.ver) := cell_of hc rfl
    have e3 : D.cell? ⟨p, 3, none⟩ = some (.string w.cond) := cell_of hc rfl
    have e4 : D.cell? ⟨p, 4, none⟩ = some (.slice b1 w.tags.length c1) := cell_of hc rfl
    have e5 : D.cell? ⟨p, 5, none⟩ = some (.bool w.en) := cell_of hc rfl
    have e6 : D.cell? ⟨p, 6, none⟩ = some (.slice b2 w.imps.length c2) := cell_of hc rfl
    have e7 : D.cell? ⟨p, 7, none⟩ = some (.string w.alias) := cell_of hc rfl
    refine xc_two fun N5 hN5 => ?_
    refine xc_reg1 1 rfl fun K hK => ?_
    simp only [show (List.range 1).map (·, true) = [(0, true)] from rfl, rslv_cons, rslv_nil, List.getElem?_toArray, List.getElem?_cons_zero, List.getElem?_cons_succ, gres]
    (refine seqX_hide2 fun R hR => ?_; simp [go_sem, g3, g16, g17, g18, hj, hw1, bc hP u1, bc hP e0, bc hP e1, bc hP e3, bc hP e4, bc hP e5, bc hP e6, bc hP e7]; refine hR _ _ _ ?_; clear hR R)
    rw [seqX_nil]
    refine hK _ _ _ ?_; clear hK K
    refine hN5 _ _ _ ?_
    refine xc_two fun N6 hN6 => ?_
    refine xc_iftrue (by simp [go_sem, g3, g16, g17, g18, hj, hw1, bc hP u1, bc hP e0, bc hP e1, bc hP e3, bc hP e4, bc hP e5, bc hP e6, bc hP e7]) ?_
    refine hN6 _ _ _ ?_
    refine xc_two fun N7 hN7 => ?_
    rw [xc_block]
    refine xc_two fun N8 hN8 => ?_
    refine xc_reg1 3 rfl fun K hK => ?_
    simp only [show (List.range 3).map (·, true) = [(0, true), (1, true), (2, true)] from rfl, rslv_cons, rslv_nil, List.getElem?_toArray, List.getElem?_cons_zero, List.getElem?_cons_succ, gres]
    iterate 3 (refine seqX_hide2 fun R hR => ?_; simp [go_sem, g3, g16, g17, g18, hj, hw1, bc hP u1, bc hP e0, bc hP e1, bc hP e3, bc hP e4, bc hP e5, bc hP e6, bc hP e7]; refine hR _ _ _ ?_; clear hR R)
    rw [seqX_nil]
    refine hK _ _ _ ?_; clear hK K
    refine hN8 _ _ _ ?_
    refine xc_two fun N9 hN9 => ?_
    rw [xc_draws]
    refine vdrawK [(0, true), (1, true), (2, true), (3, true), (4, true), (5, true), (6, true), (7, true), (8, true), (9, true), (10, true), (11, true), (12, true), (13, true), (14, true), (15, true), (16, true), (17, true), (18, true), (19, true), (20, true), (21, true), (22, false)] (ov D []) mixed (by kernel_rfl) (View.le_refl _) fun K hK => ?_
    simp only [rslv_cons, rslv_nil, List.getElem?_toArray, List.getElem?_cons_zero, List.getElem?_cons_succ, gres]
    iterate 21 (refine seqR_hide fun R hR => ?_; simp [go_sem, g3, g16, g17, g18, hj, hw1, bc hP u1, bc hP e0, bc hP e1, bc hP e3, bc hP e4, bc hP e5, bc hP e6, bc hP e7]; refine hR _ _ _ ?_; clear hR R)
    refine seqR_hide fun R hR => ?_
    simp [go_sem, g3, g16, g17, g18, hj, hw1, bc hP u1, bc hP e0, bc hP e1, bc hP e3, bc hP e4, bc hP e5, bc hP e6, bc hP e7]
    intro q6 hq6
    replace hP := hP.cons hq6
    clear hq6
    refine hR _ _ _ ?_; clear hR R
    refine seqR_hide fun R hR => ?_
    simp [go_sem, g3, g16, g17, g18, hj, hw1, bc hP u1, bc hP e0, bc hP e1, bc hP e3, bc hP e4, bc hP e5, bc hP e6, bc hP e7]
    refine hR _ _ _ ?_; clear hR R
    rw [seqR_nil]
    refine hK _ _ _ ?_; clear hK K
    refine hN9 _ _ _ ?_
    refine xc_two fun N10 hN10 => ?_
    rw [xc_draws]
    refine vdrawK [(0, true), (1, true), (2, true), (3, true), (4, true), (5, true), (6, false), (7, true), (8, false)] (ov D [(q6, .cells (wc w.name w.ver w.cond w.alias nl w.en nl) 34 (0, 0))]) mixed (by kernel_rfl) (View.le_refl _) fun K hK => ?_
    simp only [rslv_cons, rslv_nil, List.getElem?_toArray, List.getElem?_cons_zero, List.getElem?_cons_succ, gres]
    iterate 6 (refine seqR_hide fun R hR => ?_; simp [go_sem, g3, g16, g17, g18, hj, hw1, bc hP u1, bc hP e0, bc hP e1, bc hP e3, bc hP e4, bc hP e5, bc hP e6, bc hP e7]; refine hR _ _ _ ?_; clear hR R)
    refine seqR_hide fun R hR => ?_
    simp [go_sem, g3, g16, g17, g18, hj, hw1, bc hP u1, bc hP e0, bc hP e1, bc hP e3, bc hP e4, bc hP e5, bc hP e6, bc hP e7]
    refine append_ov hP ti24 ti24 (fun k => by simp) ti9 rfl (by decide) (Own.nil D D 9 1) (View.le_refl _) (x := .slice b1 w.tags.length c1) (cs := w.tags.map .string) (m := w.tags.length) ?_ (fun h => by cases h) (fun v hv => by obtain ⟨s, _, rfl⟩ := List.mem_map.1 hv; rfl) (by omega) ?_
    · refine appended_row (ht.le (View.le_trans hA2 ?_))
      exact le_ov hP
    clear hP
    rintro tv D1 hD1 hOt1 - hP
    rw [Nat.zero_add, List.nil_append] at hOt1
    obtain ⟨tb, tc, rfl⟩ := hOt1.shape
    have e6 := le_cell hD1 e6
    refine hR _ _ _ ?_; clear hR R
    (refine seqR_hide fun R hR => ?_; simp [go_sem, g3, g16, g17, g18, hj, hw1, bc hP e6]; refine hR _ _ _ ?_; clear hR R)
    refine seqR_hide fun R hR => ?_
    simp [go_sem, g3, g16, g17, g18, hj, hw1, bc hP e6]
    refine hR _ _ _ ?_; clear hR R
    rw [seqR_nil]
    refine hK _ _ _ ?_; clear hK K
    refine hN10 _ _ _ ?_
    refine xc_two fun N11 hN11 => ?_
    refine xc_two fun N12 hN12 => ?_
    refine xc_reg1 6 rfl fun K hK => ?_
    simp only [show (List.range 6).map (·, true) = [(0, true), (1, true), (2, true), (3, true), (4, true), (5, true)] from rfl, rslv_cons, rslv_nil, List.getElem?_toArray, List.getElem?_cons_zero, List.getElem?_cons_succ, gres]
    iterate 6 (refine seqX_hide2 fun R hR => ?_; simp [go_sem, g3, g16, g17, g18, hj, hw1, bc hP e6]; refine hR _ _ _ ?_; clear hR R)
    rw [seqX_nil]
    refine hK _ _ _ ?_; clear hK K
    refine hN12 _ _ _ ?_
    rw [xc_block]
    rw [xc_loop]
    refine vloopK (fun k' e ds A' => ∃ (i : Nat) (D2 : View) (iv : Value) (cs : List Value), k' = w.imps.length - i ∧ ds = [] ∧ A' = ov D2 [(q6, .cells (wc w.name w.ver w.cond w.alias (.slice tb w.tags.length tc) w.en iv) 34 (0, 0))] ∧ Priv D2 [q6] ∧ e 3 = uv ∧ e 6 = .pointer (some ⟨q6, 0, none⟩) ∧ e 16 = .slice (some a) l.length cp ∧ e 17 = .int .i64 l.length ∧ e 18 = .int .i64 j ∧ e 54 = .slice b2 w.imps.length c2 ∧ e 55 = .int .i64 w.imps.length ∧ e 56 = .int .i64 i ∧ (i ≤ w.imps.length) ∧ (D1 ≤ D2) ∧ (Own D1 D2 61 4 iv (w.imps.take i).length cs) ∧ (Parts 4 cs (w.imps.take i) (QI D1))) _ ⟨0, D1, nl, [], rfl, rfl, rfl, hP, by simp [go_sem, g3, g16, g17, g18, hj, hw1, bc hP e6], by simp [go_sem, g3, g16, g17, g18, hj, hw1, bc hP e6], by simp [go_sem, g3, g16, g17, g18, hj, hw1, bc hP e6], by simp [go_sem, g3, g16, g17, g18, hj, hw1, bc hP e6], by simp [go_sem, g3, g16, g17, g18, hj, hw1, bc hP e6], by simp [go_sem, g3, g16, g17, g18, hj, hw1, bc hP e6], by simp [go_sem, g3, g16, g17, g18, hj, hw1, bc hP e6], by simp [go_sem, g3, g16, g17, g18, hj, hw1, bc hP e6], by omega, View.le_refl _, Own.nil _ _ _ _, Parts.nil _ _⟩ ?_
    clear g3 g16 g17 g18
    clear hP
    rintro k' e ds _ ⟨i, D2, iv, cs, rfl, rfl, rfl, hP, g3, g6, g16, g17, g18, g54, g55, g56, hil, hD2, hOi, hcs⟩ J2 X2 hJ2 hX2
    refine xc_sound _ ?_
    have hw2 := wrap_nat (i := i) (by omega)
    have hDD2 := View.le_trans hD1 hD2
    by_cases hi : i < w.imps.length
    · obtain ⟨x, hx1, hx2⟩ := hxs i hi
      obtain ⟨a3, cap3, f3, -, u3⟩ := Row.at1 hxr hx1
      simp only [Value.slice.injEq] at f3
      obtain ⟨rfl, -, rfl⟩ := f3
      have u3 := le_cell (View.le_trans hA2 hDD2) u3
      have htk2 : w.imps.take (i + 1) = w.imps.take i ++ [w.imps[i]] := List.take_succ_eq_append_getElem hi
      have hir := htl1.2.2 _ (List.getElem_mem hi)
      have hli : (w.imps.take i).length = i := by rw [List.length_take]; omega
      have hcl : cs.length = (w.imps.take i).length * 4 := hOi.clen
      rw [hli] at hOi
      generalize w.imps[i] = im at hx2 htk2 hir
      obtain ⟨xn, xc, xp, xb⟩ := im
      have hgo : ∀ {D4 D5 : View} {v4 : Value} {c4 : Array Value}, D4 ≤ D5 → c4 = impc ⟨xn, xc, xp, xb⟩ → Own D1 D4 61 4 v4 (i + 1) (cs ++ c4.toList) → Own D1 D5 61 4 v4 (w.imps.take (i + 1)).length (cs ++ c4.toList) ∧ Parts 4 (cs ++ c4.toList) (w.imps.take (i + 1)) (QI D1) := by
        intro D4 D5 v4 c4 h5 hc4 hO4
        rw [htk2, List.length_append, hli]
        exact ⟨hO4.le h5, hcs.push hcl (by rw [hc4]; rfl) hc4⟩
      rcases hx2 with ⟨hb, rfl⟩ | ⟨hb, mr, om, fm, rfl, hm, hmf, hch, hpa⟩
      · obtain rfl : xb = false := hb
        obtain ⟨rfl, rfl⟩ : xc = ⟨#[]⟩ ∧ xp = ⟨#[]⟩ := hir.2 rfl
        refine xc_two fun N13 hN13 => ?_
        refine xc_reg1 1 rfl fun K hK => ?_
        simp only [show (List.range 1).map (·, true) = [(0, true)] from rfl, rslv_cons, rslv_nil, List.getElem?_toArray, List.getElem?_cons_zero, List.getElem?_cons_succ, gres]
        (refine seqX_hide2 fun R hR => ?_; simp [go_sem, hj, hw1, g3, g6, g16, g17, g18, g54, g55, g56, hi, hw2, bc hP u3]; refine hR _ _ _ ?_; clear hR R)
        rw [seqX_nil]
        refine hK _ _ _ ?_; clear hK K
        refine hN13 _ _ _ ?_
        refine xc_two fun N14 hN14 => ?_
        refine xc_iftrue (by simp [go_sem, hj, hw1, g3, g6, g16, g17, g18, g54, g55, g56, hi, hw2, bc hP u3]) ?_
        refine hN14 _ _ _ ?_
        refine xc_two fun N15 hN15 => ?_
        rw [xc_block]
        refine xc_two fun N16 hN16 => ?_
        refine xc_reg1 3 rfl fun K hK => ?_
        simp only [show (List.range 3).map (·, true) = [(0, true), (1, true), (2, true)] from rfl, rslv_cons, rslv_nil, List.getElem?_toArray, List.getElem?_cons_zero, List.getElem?_cons_succ, gres]
        iterate 3 (refine seqX_hide2 fun R hR => ?_; simp [go_sem, hj, hw1, g3, g6, g16, g17, g18, g54, g55, g56, hi, hw2, bc hP u3]; refine hR _ _ _ ?_; clear hR R)
        rw [seqX_nil]
        refine hK _ _ _ ?_; clear hK K
        refine hN16 _ _ _ ?_
        refine xc_two fun N17 hN17 => ?_
        refine xc_reg1 1 rfl fun K hK => ?_
        simp only [show (List.range 1).map (·, true) = [(0, true)] from rfl, rslv_cons, rslv_nil, List.getElem?_toArray, List.getElem?_cons_zero, List.getElem?_cons_succ, gres]
        (refine seqX_hide2 fun R hR => ?_; simp [go_sem, hj, hw1, g3, g6, g16, g17, g18, g54, g55, g56, hi, hw2, bc hP u3]; refine hR _ _ _ ?_; clear hR R)
        rw [seqX_nil]
        refine hK _ _ _ ?_; clear hK K
        refine hN17 _ _ _ ?_
        rw [xc_block]
        refine xc_two fun N18 hN18 => ?_
        refine xc_reg1 3 rfl fun K hK => ?_
        simp only [show (List.range 3).map (·, true) = [(0, true), (1, true), (2, true)] from rfl, rslv_cons, rslv_nil, List.getElem?_toArray, List.getElem?_cons_zero, List.getElem?_cons_succ, gres]
        iterate 3 (refine seqX_hide2 fun R hR => ?_; simp [go_sem, hj, hw1, g3, g6, g16, g17, g18, g54, g55, g56, hi, hw2, bc hP u3]; refine hR _ _ _ ?_; clear hR R)
        rw [seqX_nil]
        refine hK _ _ _ ?_; clear hK K
        refine hN18 _ _ _ ?_
        refine xc_iftrue (by simp [go_sem, hj, hw1, g3, g6, g16, g17, g18, g54, g55, g56, hi, hw2, bc hP u3]) ?_
        refine xc_two fun N19 hN19 => ?_
        refine xc_reg1 1 rfl fun K hK => ?_
        simp only [show (List.range 1).map (·, true) = [(0, true)] from rfl, rslv_cons, rslv_nil, List.getElem?_toArray, List.getElem?_cons_zero, List.getElem?_cons_succ, gres]
        (refine seqX_hide2 fun R hR => ?_; simp [go_sem, hj, hw1, g3, g6, g16, g17, g18, g54, g55, g56, hi, hw2, bc hP u3]; refine hR _ _ _ ?_; clear hR R)
        rw [seqX_nil]
        refine hK _ _ _ ?_; clear hK K
        refine hN19 _ _ _ ?_
        refine xc_reg1 8 rfl fun K hK => ?_
        simp only [show (List.range 8).map (·, true) = [(0, true), (1, true), (2, true), (3, true), (4, true), (5, true), (6, true), (7, true)] from rfl, rslv_cons, rslv_nil, List.getElem?_toArray, List.getElem?_cons_zero, List.getElem?_cons_succ, gres]
        iterate 4 (refine seqX_hide2 fun R hR => ?_; simp [go_sem, hj, hw1, g3, g6, g16, g17, g18, g54, g55, g56, hi, hw2, bc hP u3]; refine hR _ _ _ ?_; clear hR R)
        refine seqX_hide2 fun R hR => ?_
        simp [go_sem, hj, hw1, g3, g6, g16, g17, g18, g54, g55, g56, hi, hw2, bc hP u3]
        intro q68 hq68
        replace hP := hP.cons hq68
        clear hq68
        have d686 : q68 ≠ q6 := (hP.ne q6 (by simp [addrs])).1
        have d668 : q6 ≠ q68 := (hP.ne q6 (by simp [addrs])).2
        refine hR _ _ _ ?_; clear hR R
        refine seqX_hide2 fun R hR => ?_
        simp [go_sem, hj, hw1, g3, g6, g16, g17, g18, g54, g55, g56, hi, hw2, bc hP u3, d686, d668]
        refine app_imp (c := impc ⟨xn, ⟨#[]⟩, ⟨#[]⟩, false⟩) ⟨xn, ⟨#[]⟩, ⟨#[]⟩, false⟩ hP hOi hD2 (by simp [appended, go_sem, impc]) rfl rfl (by omega) ?_
        clear hP
        rintro v4 D4 h4 hO4 - hP
        obtain ⟨vb, vc, rfl⟩ := hO4.shape
        refine hR _ _ _ ?_; clear hR R
        (refine seqX_hide2 fun R hR => ?_; simp [go_sem, hj, hw1, g3, g6, g16, g17, g18, g54, g55, g56, hi, hw2, d686, d668]; refine hR _ _ _ ?_; clear hR R)
        refine seqX_hide2 fun R hR => ?_
        simp [go_sem, hj, hw1, g3, g6, g16, g17, g18, g54, g55, g56, hi, hw2, d686, d668]
        refine hR _ _ _ ?_; clear hR R
        rw [seqX_nil]
        refine hK _ _ _ ?_; clear hK K
        refine hN15 _ _ _ ?_
        refine xc_reg1 2 rfl fun K hK => ?_
        simp only [show (List.range 2).map (·, true) = [(0, true), (1, true)] from rfl, rslv_cons, rslv_nil, List.getElem?_toArray, List.getElem?_cons_zero, List.getElem?_cons_succ, gres]
        iterate 2 (refine seqX_hide2 fun R hR => ?_; simp [go_sem, hj, hw1, g3, g6, g16, g17, g18, g54, g55, g56, hi, hw2, d686, d668]; refine hR _ _ _ ?_; clear hR R)
        rw [seqX_nil]
        refine hK _ _ _ ?_; clear hK K
        refine sink_goal 0 hP rfl fun hPn lq68 nq68 => ?_
        clear hP; have hP := hPn; clear hPn
        simp only [List.eraseIdx_cons_zero, List.eraseIdx_cons_succ, addrs_cons, addrs_nil] at hP ⊢
        obtain ⟨g1, g2⟩ := hgo lq68 rfl hO4
        refine hJ2 (w.imps.length - (i + 1)) _ _ _ (by omega) ⟨i + 1, _, _, _, rfl, rfl, rfl, hP, by simp [go_sem, hj, hw1, g3, g6, g16, g17, g18, g54, g55, g56, hi, hw2, d686, d668], by simp [go_sem, hj, hw1, g3, g6, g16, g17, g18, g54, g55, g56, hi, hw2, d686, d668], by simp [go_sem, hj, hw1, g3, g6, g16, g17, g18, g54, g55, g56, hi, hw2, d686, d668], by simp [go_sem, hj, hw1, g3, g6, g16, g17, g18, g54, g55, g56, hi, hw2, d686, d668], by simp [go_sem, hj, hw1, g3, g6, g16, g17, g18, g54, g55, g56, hi, hw2, d686, d668], by simp [go_sem, hj, hw1, g3, g6, g16, g17, g18, g54, g55, g56, hi, hw2, d686, d668], by simp [go_sem, hj, hw1, g3, g6, g16, g17, g18, g54, g55, g56, hi, hw2, d686, d668], by simp [go_sem, hj, hw1, g3, g6, g16, g17, g18, g54, g55, g56, hi, hw2, d686, d668], by omega, View.le_trans h4 lq68, g1, g2⟩
      · obtain rfl : xb = true := hb
        obtain rfl : xn = ⟨#[]⟩ := hir.1 rfl
        have hm2 := hDD2 _ _ (hA2 _ _ (Er.sub A ps _ _ hm))
        unfold childK at hch
        unfold parentK at hpa
        refine xc_two fun N13 hN13 => ?_
        refine xc_reg1 1 rfl fun K hK => ?_
        simp only [show (List.range 1).map (·, true) = [(0, true)] from rfl, rslv_cons, rslv_nil, List.getElem?_toArray, List.getElem?_cons_zero, List.getElem?_cons_succ, gres]
        (refine seqX_hide2 fun R hR => ?_; simp [go_sem, hj, hw1, g3, g6, g16, g17, g18, g54, g55, g56, hi, hw2, bc hP u3, mlk ti63 ti9 (z := .nilIface) (by simp [zeroOf, ti20]) hP hm2 hmf, hch, hpa]; refine hR _ _ _ ?_; clear hR R)
        rw [seqX_nil]
        refine hK _ _ _ ?_; clear hK K
        refine hN13 _ _ _ ?_
        refine xc_two fun N14 hN14 => ?_
        refine xc_iftrue (by simp [go_sem, hj, hw1, g3, g6, g16, g17, g18, g54, g55, g56, hi, hw2, bc hP u3, mlk ti63 ti9 (z := .nilIface) (by simp [zeroOf, ti20]) hP hm2 hmf, hch, hpa]) ?_
        refine hN14 _ _ _ ?_
        refine xc_two fun N15 hN15 => ?_
        rw [xc_block]
        refine xc_two fun N16 hN16 => ?_
        refine xc_reg1 3 rfl fun K hK => ?_
        simp only [show (List.range 3).map (·, true) = [(0, true), (1, true), (2, true)] from rfl, rslv_cons, rslv_nil, List.getElem?_toArray, List.getElem?_cons_zero, List.getElem?_cons_succ, gres]
        iterate 3 (refine seqX_hide2 fun R hR => ?_; simp [go_sem, hj, hw1, g3, g6, g16, g17, g18, g54, g55, g56, hi, hw2, bc hP u3, mlk ti63 ti9 (z := .nilIface) (by simp [zeroOf, ti20]) hP hm2 hmf, hch, hpa]; refine hR _ _ _ ?_; clear hR R)
        rw [seqX_nil]
        refine hK _ _ _ ?_; clear hK K
        refine hN16 _ _ _ ?_
        refine xc_two fun N17 hN17 => ?_
        refine xc_reg1 1 rfl fun K hK => ?_
        simp only [show (List.range 1).map (·, true) = [(0, true)] from rfl, rslv_cons, rslv_nil, List.getElem?_toArray, List.getElem?_cons_zero, List.getElem?_cons_succ, gres]
        (refine seqX_hide2 fun R hR => ?_; simp [go_sem, hj, hw1, g3, g6, g16, g17, g18, g54, g55, g56, hi, hw2, bc hP u3, mlk ti63 ti9 (z := .nilIface) (by simp [zeroOf, ti20]) hP hm2 hmf, hch, hpa]; refine hR _ _ _ ?_; clear hR R)
        rw [seqX_nil]
        refine hK _ _ _ ?_; clear hK K
        refine hN17 _ _ _ ?_
        rw [xc_block]
        refine xc_two fun N18 hN18 => ?_
        refine xc_reg1 3 rfl fun K hK => ?_
        simp only [show (List.range 3).map (·, true) = [(0, true), (1, true), (2, true)] from rfl, rslv_cons, rslv_nil, List.getElem?_toArray, List.getElem?_cons_zero, List.getElem?_cons_succ, gres]
        iterate 3 (refine seqX_hide2 fun R hR => ?_; simp [go_sem, hj, hw1, g3, g6, g16, g17, g18, g54, g55, g56, hi, hw2, bc hP u3, mlk ti63 ti9 (z := .nilIface) (by simp [zeroOf, ti20]) hP hm2 hmf, hch, hpa]; refine hR _ _ _ ?_; clear hR R)
        rw [seqX_nil]
        refine hK _ _ _ ?_; clear hK K
        refine hN18 _ _ _ ?_
        refine xc_iffalse (by simp [go_sem, hj, hw1, g3, g6, g16, g17, g18, g54, g55, g56, hi, hw2, bc hP u3, mlk ti63 ti9 (z := .nilIface) (by simp [zeroOf, ti20]) hP hm2 hmf, hch, hpa]) ?_
        refine xc_two fun N19 hN19 => ?_
        refine xc_reg1 3 rfl fun K hK => ?_
        simp only [show (List.range 3).map (·, true) = [(0, true), (1, true), (2, true)] from rfl, rslv_cons, rslv_nil, List.getElem?_toArray, List.getElem?_cons_zero, List.getElem?_cons_succ, gres]
        iterate 3 (refine seqX_hide2 fun R hR => ?_; simp [go_sem, hj, hw1, g3, g6, g16, g17, g18, g54, g55, g56, hi, hw2, bc hP u3, mlk ti63 ti9 (z := .nilIface) (by simp [zeroOf, ti20]) hP hm2 hmf, hch, hpa]; refine hR _ _ _ ?_; clear hR R)
        rw [seqX_nil]
        refine hK _ _ _ ?_; clear hK K
        refine hN19 _ _ _ ?_
        refine xc_iffalse (by simp [go_sem, hj, hw1, g3, g6, g16, g17, g18, g54, g55, g56, hi, hw2, bc hP u3, mlk ti63 ti9 (z := .nilIface) (by simp [zeroOf, ti20]) hP hm2 hmf, hch, hpa]) ?_
        refine xc_two fun N20 hN20 => ?_
        refine xc_reg1 3 rfl fun K hK => ?_
        simp only [show (List.range 3).map (·, true) = [(0, true), (1, true), (2, true)] from rfl, rslv_cons, rslv_nil, List.getElem?_toArray, List.getElem?_cons_zero, List.getElem?_cons_succ, gres]
        iterate 3 (refine seqX_hide2 fun R hR => ?_; simp [go_sem, hj, hw1, g3, g6, g16, g17, g18, g54, g55, g56, hi, hw2, bc hP u3, mlk ti63 ti9 (z := .nilIface) (by simp [zeroOf, ti20]) hP hm2 hmf, hch, hpa]; refine hR _ _ _ ?_; clear hR R)
        rw [seqX_nil]
        refine hK _ _ _ ?_; clear hK K
        refine hN20 _ _ _ ?_
        refine xc_iftrue (by simp [go_sem, hj, hw1, g3, g6, g16, g17, g18, g54, g55, g56, hi, hw2, bc hP u3, mlk ti63 ti9 (z := .nilIface) (by simp [zeroOf, ti20]) hP hm2 hmf, hch, hpa]) ?_
        refine xc_two fun N21 hN21 => ?_
        refine xc_reg1 1 rfl fun K hK => ?_
        simp only [show (List.range 1).map (·, true) = [(0, true)] from rfl, rslv_cons, rslv_nil, List.getElem?_toArray, List.getElem?_cons_zero, List.getElem?_cons_succ, gres]
        (refine seqX_hide2 fun R hR => ?_; simp [go_sem, hj, hw1, g3, g6, g16, g17, g18, g54, g55, g56, hi, hw2, bc hP u3, mlk ti63 ti9 (z := .nilIface) (by simp [zeroOf, ti20]) hP hm2 hmf, hch, hpa]; refine hR _ _ _ ?_; clear hR R)
        rw [seqX_nil]
        refine hK _ _ _ ?_; clear hK K
        refine hN21 _ _ _ ?_
        refine xc_two fun N22 hN22 => ?_
        refine xc_reg1 8 rfl fun K hK => ?_
        simp only [show (List.range 8).map (·, true) = [(0, true), (1, true), (2, true), (3, true), (4, true), (5, true), (6, true), (7, true)] from rfl, rslv_cons, rslv_nil, List.getElem?_toArray, List.getElem?_cons_zero, List.getElem?_cons_succ, gres]
        iterate 8 (refine seqX_hide2 fun R hR => ?_; simp [go_sem, hj, hw1, g3, g6, g16, g17, g18, g54, g55, g56, hi, hw2, bc hP u3, mlk ti63 ti9 (z := .nilIface) (by simp [zeroOf, ti20]) hP hm2 hmf, hch, hpa]; refine hR _ _ _ ?_; clear hR R)
        rw [seqX_nil]
        refine hK _ _ _ ?_; clear hK K
        refine hN22 _ _ _ ?_
        refine xc_two fun N23 hN23 => ?_
        refine xc_reg1 8 rfl fun K hK => ?_
        simp only [show (List.range 8).map (·, true) = [(0, true), (1, true), (2, true), (3, true), (4, true), (5, true), (6, true), (7, true)] from rfl, rslv_cons, rslv_nil, List.getElem?_toArray, List.getElem?_cons_zero, List.getElem?_cons_succ, gres]
        iterate 8 (refine seqX_hide2 fun R hR => ?_; simp [go_sem, hj, hw1, g3, g6, g16, g17, g18, g54, g55, g56, hi, hw2, bc hP u3, mlk ti63 ti9 (z := .nilIface) (by simp [zeroOf, ti20]) hP hm2 hmf, hch, hpa]; refine hR _ _ _ ?_; clear hR R)
        rw [seqX_nil]
        refine hK _ _ _ ?_; clear hK K
        refine hN23 _ _ _ ?_
        refine xc_reg1 9 rfl fun K hK => ?_
        simp only [show (List.range 9).map (·, true) = [(0, true), (1, true), (2, true), (3, true), (4, true), (5, true), (6, true), (7, true), (8, true)] from rfl, rslv_cons, rslv_nil, List.getElem?_toArray, List.getElem?_cons_zero, List.getElem?_cons_succ, gres]
        iterate 5 (refine seqX_hide2 fun R hR => ?_; simp [go_sem, hj, hw1, g3, g6, g16, g17, g18, g54, g55, g56, hi, hw2, bc hP u3, mlk ti63 ti9 (z := .nilIface) (by simp [zeroOf, ti20]) hP hm2 hmf, hch, hpa]; refine hR _ _ _ ?_; clear hR R)
        refine seqX_hide2 fun R hR => ?_
        simp [go_sem, hj, hw1, g3, g6, g16, g17, g18, g54, g55, g56, hi, hw2, bc hP u3, mlk ti63 ti9 (z := .nilIface) (by simp [zeroOf, ti20]) hP hm2 hmf, hch, hpa]
        intro q104 hq104
        replace hP := hP.cons hq104
        clear hq104
        have d1046 : q104 ≠ q6 := (hP.ne q6 (by simp [addrs])).1
        have d6104 : q6 ≠ q104 := (hP.ne q6 (by simp [addrs])).2
        refine hR _ _ _ ?_; clear hR R
        refine seqX_hide2 fun R hR => ?_
        simp [go_sem, hj, hw1, g3, g6, g16, g17, g18, g54, g55, g56, hi, hw2, bc hP u3, mlk ti63 ti9 (z := .nilIface) (by simp [zeroOf, ti20]) hP hm2 hmf, hch, hpa, d1046, d6104]
        refine app_imp (c := impc ⟨⟨#[]⟩, xc, xp, true⟩) ⟨⟨#[]⟩, xc, xp, true⟩ hP hOi hD2 (by simp [appended, go_sem, impc]) rfl rfl (by omega) ?_
        clear hP
        rintro v4 D4 h4 hO4 - hP
        obtain ⟨vb, vc, rfl⟩ := hO4.shape
        refine hR _ _ _ ?_; clear hR R
        (refine seqX_hide2 fun R hR => ?_; simp [go_sem, hj, hw1, g3, g6, g16, g17, g18, g54, g55, g56, hi, hw2, hch, hpa, d1046, d6104]; refine hR _ _ _ ?_; clear hR R)
        refine seqX_hide2 fun R hR => ?_
        simp [go_sem, hj, hw1, g3, g6, g16, g17, g18, g54, g55, g56, hi, hw2, hch, hpa, d1046, d6104]
        refine hR _ _ _ ?_; clear hR R
        rw [seqX_nil]
        refine hK _ _ _ ?_; clear hK K
        refine hN15 _ _ _ ?_
        refine xc_reg1 2 rfl fun K hK => ?_
        simp only [show (List.range 2).map (·, true) = [(0, true), (1, true)] from rfl, rslv_cons, rslv_nil, List.getElem?_toArray, List.getElem?_cons_zero, List.getElem?_cons_succ, gres]
        iterate 2 (refine seqX_hide2 fun R hR => ?_; simp [go_sem, hj, hw1, g3, g6, g16, g17, g18, g54, g55, g56, hi, hw2, hch, hpa, d1046, d6104]; refine hR _ _ _ ?_; clear hR R)
        rw [seqX_nil]
        refine hK _ _ _ ?_; clear hK K
        refine sink_goal 0 hP rfl fun hPn lq104 nq104 => ?_
        clear hP; have hP := hPn; clear hPn
        simp only [List.eraseIdx_cons_zero, List.eraseIdx_cons_succ, addrs_cons, addrs_nil] at hP ⊢
        obtain ⟨g1, g2⟩ := hgo lq104 rfl hO4
        refine hJ2 (w.imps.length - (i + 1)) _ _ _ (by omega) ⟨i + 1, _, _, _, rfl, rfl, rfl, hP, by simp [go_sem, hj, hw1, g3, g6, g16, g17, g18, g54, g55, g56, hi, hw2, hch, hpa, d1046, d6104], by simp [go_sem, hj, hw1, g3, g6, g16, g17, g18, g54, g55, g56, hi, hw2, hch, hpa, d1046, d6104], by simp [go_sem, hj, hw1, g3, g6, g16, g17, g18, g54, g55, g56, hi, hw2, hch, hpa, d1046, d6104], by simp [go_sem, hj, hw1, g3, g6, g16, g17, g18, g54, g55, g56, hi, hw2, hch, hpa, d1046, d6104], by simp [go_sem, hj, hw1, g3, g6, g16, g17, g18, g54, g55, g56, hi, hw2, hch, hpa, d1046, d6104], by simp [go_sem, hj, hw1, g3, g6, g16, g17, g18, g54, g55, g56, hi, hw2, hch, hpa, d1046, d6104], by simp [go_sem, hj, hw1, g3, g6, g16, g17, g18, g54, g55, g56, hi, hw2, hch, hpa, d1046, d6104], by simp [go_sem, hj, hw1, g3, g6, g16, g17, g18, g54, g55, g56, hi, hw2, hch, hpa, d1046, d6104], by omega, View.le_trans h4 lq104, g1, g2⟩
    · skip
      rw [List.take_of_length_le (by omega)] at hOi hcs
      obtain ⟨ib, ic, rfl⟩ := hOi.shape
      refine xc_two fun N13 hN13 => ?_
      refine xc_reg1 1 rfl fun K hK => ?_
      simp only [show (List.range 1).map (·, true) = [(0, true)] from rfl, rslv_cons, rslv_nil, List.getElem?_toArray, List.getElem?_cons_zero, List.getElem?_cons_succ, gres]
      (refine seqX_hide2 fun R hR => ?_; simp [go_sem, hj, hw1, g3, g6, g16, g17, g18, g54, g55, g56, hi]; refine hR _ _ _ ?_; clear hR R)
      rw [seqX_nil]
      refine hK _ _ _ ?_; clear hK K
      refine hN13 _ _ _ ?_
      refine xc_two fun N14 hN14 => ?_
      refine xc_iffalse (by simp [go_sem, hj, hw1, g3, g6, g16, g17, g18, g54, g55, g56, hi]) ?_
      refine hX2 _ _ _ _ ?_
      refine hN11 _ _ _ ?_
      refine xc_reg1 5 rfl fun K hK => ?_
      simp only [show (List.range 5).map (·, true) = [(0, true), (1, true), (2, true), (3, true), (4, true)] from rfl, rslv_cons, rslv_nil, List.getElem?_toArray, List.getElem?_cons_zero, List.getElem?_cons_succ, gres]
      iterate 2 (refine seqX_hide2 fun R hR => ?_; simp [go_sem, hj, hw1, g3, g6, g16, g17, g18, g54, g55, g56, hi]; refine hR _ _ _ ?_; clear hR R)
      refine seqX_hide2 fun R hR => ?_
      simp [go_sem, hj, hw1, g3, g6, g16, g17, g18, g54, g55, g56, hi]
      intro q110 hq110
      replace hP := hP.cons hq110
      clear hq110
      have d1106 : q110 ≠ q6 := (hP.ne q6 (by simp [addrs])).1
      have d6110 : q6 ≠ q110 := (hP.ne q6 (by simp [addrs])).2
      refine hR _ _ _ ?_; clear hR R
      refine seqX_hide2 fun R hR => ?_
      simp [go_sem, hj, hw1, g3, g6, g16, g17, g18, g54, g55, g56, hi, d1106, d6110]
      have hcw : IsW (eraseB D2 uv) w (wc w.name w.ver w.cond w.alias (.slice tb w.tags.length tc) w.en (.slice ib w.imps.length ic)) :=
        ⟨_, _, rfl, (Own.other (hOt1.le hD2) hO).row, (Own.other (own_down hOi hD1) hO).elems (hcs.le fun _ _ h => h)⟩
      refine app_want (w := w) hP (own_rebase (hO.le hDD2)) (eraseB_le _ _) (by simp [appended, go_sem]) hcw rfl (by omega) ?_
      clear hP
      rintro v4 D4 h4 hO4 h4e hP
      refine hR _ _ _ ?_; clear hR R
      (refine seqX_hide2 fun R hR => ?_; simp [go_sem, hj, hw1, g3, g6, g16, g17, g18, g54, g55, g56, hi, d1106, d6110]; refine hR _ _ _ ?_; clear hR R)
      rw [seqX_nil]
      refine hK _ _ _ ?_; clear hK K
      refine hN7 _ _ _ ?_
      refine xc_reg1 2 rfl fun K hK => ?_
      simp only [show (List.range 2).map (·, true) = [(0, true), (1, true)] from rfl, rslv_cons, rslv_nil, List.getElem?_toArray, List.getElem?_cons_zero, List.getElem?_cons_succ, gres]
      iterate 2 (refine seqX_hide2 fun R hR => ?_; simp [go_sem, hj, hw1, g3, g6, g16, g17, g18, g54, g55, g56, hi, d1106, d6110]; refine hR _ _ _ ?_; clear hR R)
      rw [seqX_nil]
      refine hK _ _ _ ?_; clear hK K
      refine sink_goal 0 hP rfl fun hPn lq110 nq110 => ?_
      clear hP; have hP := hPn; clear hPn
      simp only [List.eraseIdx_cons_zero, List.eraseIdx_cons_succ, addrs_cons, addrs_nil] at hP ⊢
      refine sink_goal 0 hP rfl fun hPn lq6 nq6 => ?_
      clear hP; have hP := hPn; clear hPn
      simp only [List.eraseIdx_cons_zero, List.eraseIdx_cons_succ, addrs_cons, addrs_nil] at hP ⊢
      have hs := View.le_trans lq110 lq6
      have hE5 := View.le_trans h4e (eraseB_mono hs v4)
      refine hJ1 (l.length - (j + 1)) _ _ _ (by omega) ⟨j + 1, _, v4, vs ++ (wc w.name w.ver w.cond w.alias (.slice tb w.tags.length tc) w.en (.slice ib w.imps.length ic)).toList, rfl, rfl, rfl, hP, by simp [go_sem, hj, hw1, g3, g6, g16, g17, g18, g54, g55, g56, hi, d1106, d6110], by simp [go_sem, hj, hw1, g3, g6, g16, g17, g18, g54, g55, g56, hi, d1106, d6110], by simp [go_sem, hj, hw1, g3, g6, g16, g17, g18, g54, g55, g56, hi, d1106, d6110], by simp [go_sem, hj, hw1, g3, g6, g16, g17, g18, g54, g55, g56, hi, d1106, d6110], by omega, View.le_trans hAD (View.le_trans (eraseB_mono hDD2 uv) hE5), ?_, ?_⟩
      · rw [htk, List.length_append]
        exact own_rebase (hO4.le hs)
      · rw [htk]
        exact (hp.le fun _ _ h => h.le (View.le_trans (eraseB_mono hDD2 uv) hE5)).push (hO.clen) rfl (hcw.le hE5)
  · skip
    rw [List.take_of_length_le (by omega)] at hO hp
    refine xc_two fun N5 hN5 => ?_
    refine xc_reg1 1 rfl fun K hK => ?_
    simp only [show (List.range 1).map (·, true) = [(0, true)] from rfl, rslv_cons, rslv_nil, List.getElem?_toArray, List.getElem?_cons_zero, List.getElem?_cons_succ, gres]
    (refine seqX_hide2 fun R hR => ?_; simp [go_sem, g3, g16, g17, g18, hj]; refine hR _ _ _ ?_; clear hR R)
    rw [seqX_nil]
    refine hK _ _ _ ?_; clear hK K
    refine hN5 _ _ _ ?_
    refine xc_two fun N6 hN6 => ?_
    refine xc_iffalse (by simp [go_sem, g3, g16, g17, g18]) ?_
    refine hX1 _ _ _ _ ?_
    refine hN3 _ _ _ ?_
    refine xc_two fun N7 hN7 => ?_
    refine xc_reg1 2 rfl fun K hK => ?_
    simp only [show (List.range 2).map (·, true) = [(0, true), (1, true)] from rfl, rslv_cons, rslv_nil, List.getElem?_toArray, List.getElem?_cons_zero, List.getElem?_cons_succ, gres]
    iterate 2 (refine seqX_hide2 fun R hR => ?_; simp [go_sem, g3, g16, g17, g18]; refine hR _ _ _ ?_; clear hR R)
    rw [seqX_nil]
    refine hK _ _ _ ?_; clear hK K
    refine hN7 _ _ _ ?_
    simp [go_sem, g3, g16, g17, g18]
    exact ⟨hO.elems (hp.le fun _ _ h => h.le (eraseB_le _ _)), View.le_trans hAD (eraseB_le _ _)⟩
end Go.Proofs.YtogfpbnbojhpoaaV

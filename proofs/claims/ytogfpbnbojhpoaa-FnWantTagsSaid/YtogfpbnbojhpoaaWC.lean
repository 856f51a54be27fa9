/- Charts: spec.Tags. -/
import Derived.Test.YtogfpbnbojhpoaaWB
import Derived.Test.YtogfpbnbojhpoaaTU
namespace Go.Proofs.YtogfpbnbojhpoaaV
open Go.RowKit
set_option linter.unusedSimpArgs false
set_option linter.unusedVariables false
def boolOf : RV → Bool
  | .mk _ b _ _ _ _ _ => b
theorem IsRV.bool1 {A : View} {v : RV} {c : Array Value} (h : IsRV A v c) : ∀ p : 1 < c.size, c[1]'p = .bool (boolOf v) := fun p => by
  obtain ⟨k, b, i, f, t, keys, list⟩ := v
  rw [IsRV] at h
  obtain ⟨ks, ls, rfl, _⟩ := h
  rfl
/-- What a table says of a tag. -/
def tb (u : RV) (s : ByteArray) : Option Bool := match at' u s with
  | some y => if kindOf y = 1 then some (boolOf y) else none
  | none => none
def yesT (u : RV) (l : List ByteArray) : Bool := l.any fun t => tb u t == some true
def noT (u : RV) (l : List ByteArray) : Bool := l.any fun t => tb u t == some false
def tagW (u : RV) (w : Wt) : Wt := { w with en := yesT u w.tags || !noT u w.tags }
def tkey : ByteArray := ⟨#[116, 97, 103, 115]⟩
def tagsR (v : RV) (l : List Wt) : List Wt := match walkT v (parts tkey) with
  | none => l
  | some u => l.map (tagW u)
theorem WalkP.split {v : RV} {l : List ByteArray} {r : Value} {A : View} (h : WalkP v l r A) : ∃ (cy : Array Value) (y : RV) (z : Bool), r = .tuple #[.agg cy, .bool z] ∧ IsRV A y cy ∧ ((z = true ∧ walkT v l = some y) ∨ (z = false ∧ walkT v l = none)) := by
  rcases h with ⟨u, c', h1, rfl, h3⟩ | ⟨h1, rfl⟩
  · exact ⟨c', u, true, rfl, h3, .inl ⟨rfl, h1⟩⟩
  · exact ⟨zc, rz, false, rfl, rz_is A, .inr ⟨rfl, h1⟩⟩
theorem walkT_good : ∀ {l : List ByteArray} {v u : RV} {lv : Nat}, walkT v l = some u → Good v lv → ∃ l', Good u l'
  | [], v, u, lv, h, hG => by simp only [walkT, Option.some.injEq] at h; exact ⟨lv, h ▸ hG⟩
  | s :: ss, v, u, lv, h, hG => by
    unfold walkT at h
    cases hx : at' v s with
    | none => rw [hx] at h; cases h
    | some y =>
      rw [hx] at h
      simp only at h
      split at h
      · exact walkT_good h (good_at hG hx)
      · cases h
theorem Found.split' {v : RV} {s : ByteArray} {r : Value} {A : View} (h : Found v s r A) : ∃ (cy : Array Value) (y : RV) (z : Bool), r = .tuple #[.agg cy, .bool z] ∧ IsRV A y cy ∧ ((z = true ∧ at' v s = some y) ∨ (z = false ∧ at' v s = none ∧ y = rz)) := by
  rcases h with ⟨u, c', h1, rfl, h3⟩ | ⟨h1, rfl⟩
  · exact ⟨c', u, true, rfl, h3, .inl ⟨rfl, h1⟩⟩
  · exact ⟨zc, rz, false, rfl, rz_is A, .inr ⟨rfl, h1, rfl⟩⟩
set_option maxRecDepth 20000 in
theorem app_want {D0 D : View} {L : List (Nat × Obj)} {u x : Value} {n : Nat} {vs : List Value} {w : Wt} {c : Array Value} {K : Value → View → Prop} (hP : Priv D (addrs L)) (hO : Own D0 D 34 7 u n vs) (hD : D0 ≤ D)
    (hx : appended Try.prog (ov D L) 7 x = some (c.toList, 1)) (hc : IsW D0 w c) (hs : isStr x = false) (hn : n ≤ 1000000)
    (k : ∀ v' D', D0 ≤ D' → Own D0 D' 34 7 v' (n + 1) (vs ++ c.toList) → eraseB D u ≤ eraseB D' v' → Priv D' (addrs L) → K v' (ov D' L)) : xappend Try.prog 22 22 u x (ov D L) K := by
  refine append_ov hP ti22 ti22 (fun k => by simp) ti34 rfl (by decide) hO hD hx (fun h => absurd (hs.symm.trans h) (by decide)) (fun v hv => List.all_eq_true.1 hc.ones v hv) (by omega) k
theorem tb_of {u y : RV} {s : ByteArray} (h : at' u s = some y) : tb u s = if kindOf y = 1 then some (boolOf y) else none := by
  unfold tb; rw [h]
set_option maxRecDepth 20000 in
set_option maxHeartbeats 8000000 in
theorem tags15 (A : View) (v : Value) (l : List Wt) (t : RV) (c : Array Value) (h : Wants A v l) (hll : l.length ≤ 1000) (htl : ∀ w ∈ l, w.tags.length ≤ 1000) (hc : IsRV A t c) (hG : Good t 50) : VCalls Try.prog 15 #[v, .agg c] A fun r A' => Wants A' r (tagsR t l) ∧ A ≤ A' := by
  have hcz := hc.size
  have hco := hc.ones
  have hvl := h
  obtain ⟨bs, cp, rfl, hel⟩ := h
  refine xcalls Try.func15 rfl (by simp [Try.ntmps15]) ?_
  simp only [Try.f15]
  have hP : Priv A (addrs []) := Priv.nil A
  show xc _ _ _ _ _ _ (ov A [])
  refine xc_two fun N1 hN1 => ?_
  refine xc_reg1 2 rfl fun K hK => ?_
  simp only [show (List.range 2).map (·, true) = [(0, true), (1, true)] from rfl, rslv_cons, rslv_nil, List.getElem?_toArray, List.getElem?_cons_zero, List.getElem?_cons_succ, gres]
  refine seqX_hide2 fun R hR => ?_
  simp [go_sem, hcz, hco]
  intro q3 hq3
  replace hP := hP.cons hq3
  clear hq3
  refine hR _ _ _ ?_; clear hR R
  (refine seqX_hide2 fun R hR => ?_; simp [go_sem, hcz, hco]; refine hR _ _ _ ?_; clear hR R)
  rw [seqX_nil]
  refine hK _ _ _ ?_; clear hK K
  refine hN1 _ _ _ ?_
  refine xc_two fun N2 hN2 => ?_
  refine xc_reg1 8 rfl fun K hK => ?_
  simp only [show (List.range 8).map (·, true) = [(0, true), (1, true), (2, true), (3, true), (4, true), (5, true), (6, true), (7, true)] from rfl, rslv_cons, rslv_nil, List.getElem?_toArray, List.getElem?_cons_zero, List.getElem?_cons_succ, gres]
  (refine seqX_hide2 fun R hR => ?_; simp [go_sem, hcz, hco]; refine hR _ _ _ ?_; clear hR R)
  refine seqX_hide2 fun R hR => ?_
  simp [go_sem, hcz, hco]
  refine call_ov hP (tableAt21 A t c 50 tkey hc hG (by decide)) ?_
  clear hP
  rintro _ B ⟨hF, hAB⟩ hP
  obtain ⟨cu, u, z, rfl, hu, hz⟩ := hF.split
  have huz := hu.size
  have huo := hu.ones
  have hTR : tagsR t l = match walkT t (parts tkey) with
    | none => l
    | some u => l.map (tagW u) := rfl
  refine hR _ _ _ ?_; clear hR R
  iterate 3 (refine seqX_hide2 fun R hR => ?_; simp [go_sem, hcz, hco, huz, huo]; refine hR _ _ _ ?_; clear hR R)
  refine seqX_hide2 fun R hR => ?_
  simp [go_sem, hcz, hco, huz, huo]
  intro q5 hq5
  replace hP := hP.cons hq5
  clear hq5
  have d53 : q5 ≠ q3 := (hP.ne q3 (by simp [addrs])).1
  have d35 : q3 ≠ q5 := (hP.ne q3 (by simp [addrs])).2
  refine hR _ _ _ ?_; clear hR R
  refine seqX_hide2 fun R hR => ?_
  simp [go_sem, hcz, hco, huz, huo, d53, d35]
  refine hR _ _ _ ?_; clear hR R
  (refine seqX_hide2 fun R hR => ?_; simp [go_sem, hcz, hco, huz, huo, d53, d35]; refine hR _ _ _ ?_; clear hR R)
  rw [seqX_nil]
  refine hK _ _ _ ?_; clear hK K
  refine hN2 _ _ _ ?_
  refine xc_two fun N3 hN3 => ?_
  refine xc_two fun N4 hN4 => ?_
  refine xc_reg1 2 rfl fun K hK => ?_
  simp only [show (List.range 2).map (·, true) = [(0, true), (1, true)] from rfl, rslv_cons, rslv_nil, List.getElem?_toArray, List.getElem?_cons_zero, List.getElem?_cons_succ, gres]
  iterate 2 (refine seqX_hide2 fun R hR => ?_; simp [go_sem, hcz, hco, huz, huo, d53, d35]; refine hR _ _ _ ?_; clear hR R)
  rw [seqX_nil]
  refine hK _ _ _ ?_; clear hK K
  refine hN4 _ _ _ ?_
  rcases hz with ⟨rfl, hw⟩ | ⟨rfl, hw⟩
  rotate_left
  · skip
    refine xc_iftrue (by simp [go_sem, hcz, hco, huz, huo, d53, d35]) ?_
    refine xc_two fun N5 hN5 => ?_
    refine xc_reg1 2 rfl fun K hK => ?_
    simp only [show (List.range 2).map (·, true) = [(0, true), (1, true)] from rfl, rslv_cons, rslv_nil, List.getElem?_toArray, List.getElem?_cons_zero, List.getElem?_cons_succ, gres]
    iterate 2 (refine seqX_hide2 fun R hR => ?_; simp [go_sem, hcz, hco, huz, huo, d53, d35]; refine hR _ _ _ ?_; clear hR R)
    rw [seqX_nil]
    refine hK _ _ _ ?_; clear hK K
    refine hN5 _ _ _ ?_
    simp [go_sem, hcz, hco, huz, huo, d53, d35]
    rw [hTR, hw]
    refine ⟨hvl.le ?_, ?_⟩
    · exact View.le_trans hAB (le_ov hP)
    · exact View.le_trans hAB (le_ov hP)
  obtain ⟨lu, hGu⟩ := walkT_good hw hG
  refine xc_iffalse (by simp [go_sem, hcz, hco, huz, huo, d53, d35]) ?_
  refine hN3 _ _ _ ?_
  refine xc_two fun N5 hN5 => ?_
  refine xc_reg1 1 rfl fun K hK => ?_
  simp only [show (List.range 1).map (·, true) = [(0, true)] from rfl, rslv_cons, rslv_nil, List.getElem?_toArray, List.getElem?_cons_zero, List.getElem?_cons_succ, gres]
  (refine seqX_hide2 fun R hR => ?_; simp [go_sem, hcz, hco, huz, huo, d53, d35]; refine hR _ _ _ ?_; clear hR R)
  rw [seqX_nil]
  refine hK _ _ _ ?_; clear hK K
  refine hN5 _ _ _ ?_
  refine xc_two fun N6 hN6 => ?_
  refine xc_two fun N7 hN7 => ?_
  refine xc_reg1 3 rfl fun K hK => ?_
  simp only [show (List.range 3).map (·, true) = [(0, true), (1, true), (2, true)] from rfl, rslv_cons, rslv_nil, List.getElem?_toArray, List.getElem?_cons_zero, List.getElem?_cons_succ, gres]
  iterate 3 (refine seqX_hide2 fun R hR => ?_; simp [go_sem, hcz, hco, huz, huo, d53, d35]; refine hR _ _ _ ?_; clear hR R)
  rw [seqX_nil]
  refine hK _ _ _ ?_; clear hK K
  refine hN7 _ _ _ ?_
  rw [xc_block]
  rw [xc_loop]
  refine vloopK (fun k' e ds A' => ∃ (j : Nat) (D : View) (uv : Value) (acc : List Wt) (vs : List Value), k' = l.length - j ∧ ds = [] ∧ A' = ov D [(q5, .cells cu 27 (0, 0)), (q3, .cells c 27 (0, 0))] ∧ Priv D [q5, q3] ∧ e 3 = .pointer (some ⟨q3, 0, none⟩) ∧ e 5 = .pointer (some ⟨q5, 0, none⟩) ∧ e 7 = uv ∧ e 24 = .slice bs l.length cp ∧ e 25 = .int .i64 l.length ∧ e 26 = .int .i64 j ∧ (j ≤ l.length) ∧ (B ≤ D) ∧ (Own B D 34 7 uv acc.length vs) ∧ (Parts 7 vs acc (IsW B)) ∧ (acc.length = j) ∧ (acc = (l.take j).map (tagW u))) _ ⟨0, B, nl, [], [], rfl, rfl, rfl, hP, by simp [go_sem, hcz, hco, huz, huo, d53, d35], by simp [go_sem, hcz, hco, huz, huo, d53, d35], by simp [go_sem, hcz, hco, huz, huo, d53, d35], by simp [go_sem, hcz, hco, huz, huo, d53, d35], by simp [go_sem, hcz, hco, huz, huo, d53, d35], by simp [go_sem, hcz, hco, huz, huo, d53, d35], by omega, View.le_refl _, Own.nil _ _ _ _, Parts.nil _ _, rfl, by simp⟩ ?_
  clear hP
  rintro k' e ds _ ⟨j, D, uv, acc, vs, rfl, rfl, rfl, hP, g3, g5, g7, g24, g25, g26, hjl, hBD, hO, hp, hac, hwk⟩ J1 X1 hJ1 hX1
  refine xc_sound _ ?_
  have hw1 := wrap_nat (i := j) (by omega)
  by_cases hj : j < l.length
  · obtain ⟨a, ci, rfl, u1, hci⟩ := hel j hj
    have htk : l.take (j + 1) = l.take j ++ [l[j]] := List.take_succ_eq_append_getElem hj
    have htl1 := htl _ (List.getElem_mem hj)
    generalize l[j] = w at hci htk htl1
    obtain ⟨tg, im, rfl, ht, hi⟩ := hci
    obtain ⟨b1, c1, rfl⟩ := ht.slice
    obtain ⟨b2, c2, rfl⟩ := hi.slice
    have u1 := le_cells (View.le_trans hAB hBD) _ _ _ u1
    have hti : Imps A (.slice b2 w.imps.length c2) w.imps := hi
    refine xc_two fun N8 hN8 => ?_
    refine xc_reg1 1 rfl fun K hK => ?_
    simp only [show (List.range 1).map (·, true) = [(0, true)] from rfl, rslv_cons, rslv_nil, List.getElem?_toArray, List.getElem?_cons_zero, List.getElem?_cons_succ, gres]
    (refine seqX_hide2 fun R hR => ?_; simp [go_sem, hcz, hco, huz, huo, d53, d35, g3, g5, g7, g24, g25, g26, hj, hw1, bcs hP u1]; refine hR _ _ _ ?_; clear hR R)
    rw [seqX_nil]
    refine hK _ _ _ ?_; clear hK K
    refine hN8 _ _ _ ?_
    refine xc_two fun N9 hN9 => ?_
    refine xc_iftrue (by simp [go_sem, hcz, hco, huz, huo, d53, d35, g3, g5, g7, g24, g25, g26, hj, hw1, bcs hP u1]) ?_
    refine hN9 _ _ _ ?_
    refine xc_two fun N10 hN10 => ?_
    rw [xc_block]
    refine xc_two fun N11 hN11 => ?_
    refine xc_reg1 4 rfl fun K hK => ?_
    simp only [show (List.range 4).map (·, true) = [(0, true), (1, true), (2, true), (3, true)] from rfl, rslv_cons, rslv_nil, List.getElem?_toArray, List.getElem?_cons_zero, List.getElem?_cons_succ, gres]
    iterate 2 (refine seqX_hide2 fun R hR => ?_; simp [go_sem, hcz, hco, huz, huo, d53, d35, g3, g5, g7, g24, g25, g26, hj, hw1, bcs hP u1]; refine hR _ _ _ ?_; clear hR R)
    refine seqX_hide2 fun R hR => ?_
    simp [go_sem, hcz, hco, huz, huo, d53, d35, g3, g5, g7, g24, g25, g26, hj, hw1, bcs hP u1]
    intro q9 hq9
    replace hP := hP.cons hq9
    clear hq9
    have d95 : q9 ≠ q5 := (hP.ne q5 (by simp [addrs])).1
    have d59 : q5 ≠ q9 := (hP.ne q5 (by simp [addrs])).2
    have d93 : q9 ≠ q3 := (hP.ne q3 (by simp [addrs])).1
    have d39 : q3 ≠ q9 := (hP.ne q3 (by simp [addrs])).2
    refine hR _ _ _ ?_; clear hR R
    refine seqX_hide2 fun R hR => ?_
    simp [go_sem, hcz, hco, huz, huo, d53, d35, g3, g5, g7, g24, g25, g26, hj, hw1, bcs hP u1, d95, d59, d93, d39]
    refine hR _ _ _ ?_; clear hR R
    rw [seqX_nil]
    refine hK _ _ _ ?_; clear hK K
    refine hN11 _ _ _ ?_
    refine xc_two fun N12 hN12 => ?_
    refine xc_reg1 2 rfl fun K hK => ?_
    simp only [show (List.range 2).map (·, true) = [(0, true), (1, true)] from rfl, rslv_cons, rslv_nil, List.getElem?_toArray, List.getElem?_cons_zero, List.getElem?_cons_succ, gres]
    iterate 2 (refine seqX_hide2 fun R hR => ?_; simp [go_sem, hcz, hco, huz, huo, d53, d35, g3, g5, g7, g24, g25, g26, hj, hw1, bcs hP u1, d95, d59, d93, d39]; refine hR _ _ _ ?_; clear hR R)
    rw [seqX_nil]
    refine hK _ _ _ ?_; clear hK K
    refine hN12 _ _ _ ?_
    refine xc_two fun N13 hN13 => ?_
    refine xc_two fun N14 hN14 => ?_
    refine xc_reg1 4 rfl fun K hK => ?_
    simp only [show (List.range 4).map (·, true) = [(0, true), (1, true), (2, true), (3, true)] from rfl, rslv_cons, rslv_nil, List.getElem?_toArray, List.getElem?_cons_zero, List.getElem?_cons_succ, gres]
    iterate 4 (refine seqX_hide2 fun R hR => ?_; simp [go_sem, hcz, hco, huz, huo, d53, d35, g3, g5, g7, g24, g25, g26, hj, hw1, bcs hP u1, d95, d59, d93, d39]; refine hR _ _ _ ?_; clear hR R)
    rw [seqX_nil]
    refine hK _ _ _ ?_; clear hK K
    refine hN14 _ _ _ ?_
    rw [xc_block]
    rw [xc_loop]
    refine vloopK (fun k' e ds A' => ∃ (i : Nat) (D2 : View) (yes : Bool) (no : Bool), k' = w.tags.length - i ∧ ds = [] ∧ A' = ov D2 [(q9, .cells (wc w.name w.ver w.cond w.alias (.slice b1 w.tags.length c1) w.en (.slice b2 w.imps.length c2)) 34 (0, 0)), (q5, .cells cu 27 (0, 0)), (q3, .cells c 27 (0, 0))] ∧ Priv D2 [q9, q5, q3] ∧ e 3 = .pointer (some ⟨q3, 0, none⟩) ∧ e 5 = .pointer (some ⟨q5, 0, none⟩) ∧ e 7 = uv ∧ e 9 = .pointer (some ⟨q9, 0, none⟩) ∧ e 10 = .bool yes ∧ e 11 = .bool no ∧ e 24 = .slice (some a) l.length cp ∧ e 25 = .int .i64 l.length ∧ e 26 = .int .i64 j ∧ e 31 = .slice b1 w.tags.length c1 ∧ e 32 = .int .i64 w.tags.length ∧ e 33 = .int .i64 i ∧ (i ≤ w.tags.length) ∧ (D ≤ D2) ∧ (yes = yesT u (w.tags.take i)) ∧ (no = noT u (w.tags.take i))) _ ⟨0, D, false, false, rfl, rfl, rfl, hP, by simp [go_sem, hcz, hco, huz, huo, d53, d35, g3, g5, g7, g24, g25, g26, hj, hw1, d95, d59, d93, d39], by simp [go_sem, hcz, hco, huz, huo, d53, d35, g3, g5, g7, g24, g25, g26, hj, hw1, d95, d59, d93, d39], by simp [go_sem, hcz, hco, huz, huo, d53, d35, g3, g5, g7, g24, g25, g26, hj, hw1, d95, d59, d93, d39], by simp [go_sem, hcz, hco, huz, huo, d53, d35, g3, g5, g7, g24, g25, g26, hj, hw1, d95, d59, d93, d39], by simp [go_sem, hcz, hco, huz, huo, d53, d35, g3, g5, g7, g24, g25, g26, hj, hw1, d95, d59, d93, d39], by simp [go_sem, hcz, hco, huz, huo, d53, d35, g3, g5, g7, g24, g25, g26, hj, hw1, d95, d59, d93, d39], by simp [go_sem, hcz, hco, huz, huo, d53, d35, g3, g5, g7, g24, g25, g26, hj, hw1, d95, d59, d93, d39], by simp [go_sem, hcz, hco, huz, huo, d53, d35, g3, g5, g7, g24, g25, g26, hj, hw1, d95, d59, d93, d39], by simp [go_sem, hcz, hco, huz, huo, d53, d35, g3, g5, g7, g24, g25, g26, hj, hw1, d95, d59, d93, d39], by simp [go_sem, hcz, hco, huz, huo, d53, d35, g3, g5, g7, g24, g25, g26, hj, hw1, d95, d59, d93, d39], by simp [go_sem, hcz, hco, huz, huo, d53, d35, g3, g5, g7, g24, g25, g26, hj, hw1, d95, d59, d93, d39], by simp [go_sem, hcz, hco, huz, huo, d53, d35, g3, g5, g7, g24, g25, g26, hj, hw1, d95, d59, d93, d39], by omega, View.le_refl _, by simp [yesT], by simp [noT]⟩ ?_
    clear g3 g5 g7 g24 g25 g26
    clear hP
    rintro k' e ds _ ⟨i, D2, yes, no, rfl, rfl, rfl, hP, g3, g5, g7, g9, g10, g11, g24, g25, g26, g31, g32, g33, hil, hDD, hy, hn⟩ J2 X2 hJ2 hX2
    refine xc_sound _ ?_
    have hw2 := wrap_nat (i := i) (by omega)
    have hBD2 := View.le_trans hBD hDD
    have hAD2 := View.le_trans hAB hBD2
    by_cases hi : i < w.tags.length
    · obtain ⟨a2, cap2, f1, u2⟩ := ht.at' hi
      simp only [Value.slice.injEq] at f1
      obtain ⟨rfl, -, rfl⟩ := f1
      have u2 := le_cell hAD2 u2
      have htk2 : w.tags.take (i + 1) = w.tags.take i ++ [w.tags[i]] := List.take_succ_eq_append_getElem hi
      have hy2 : yesT u (w.tags.take (i + 1)) = (yes || tb u w.tags[i] == some true) := by
        rw [htk2, hy]; unfold yesT; rw [List.any_append]; simp only [List.any_cons, List.any_nil, Bool.or_false]
      have hn2 : noT u (w.tags.take (i + 1)) = (no || tb u w.tags[i] == some false) := by
        rw [htk2, hn]; unfold noT; rw [List.any_append]; simp only [List.any_cons, List.any_nil, Bool.or_false]
      generalize w.tags[i] = tag at u2 hy2 hn2
      refine xc_two fun N15 hN15 => ?_
      refine xc_reg1 1 rfl fun K hK => ?_
      simp only [show (List.range 1).map (·, true) = [(0, true)] from rfl, rslv_cons, rslv_nil, List.getElem?_toArray, List.getElem?_cons_zero, List.getElem?_cons_succ, gres]
      (refine seqX_hide2 fun R hR => ?_; simp [go_sem, hcz, hco, huz, huo, d53, d35, hj, hw1, d95, d59, d93, d39, g3, g5, g7, g9, g10, g11, g24, g25, g26, g31, g32, g33, hi, hw2, bc hP u2]; refine hR _ _ _ ?_; clear hR R)
      rw [seqX_nil]
      refine hK _ _ _ ?_; clear hK K
      refine hN15 _ _ _ ?_
      refine xc_two fun N16 hN16 => ?_
      refine xc_iftrue (by simp [go_sem, hcz, hco, huz, huo, d53, d35, hj, hw1, d95, d59, d93, d39, g3, g5, g7, g9, g10, g11, g24, g25, g26, g31, g32, g33, hi, hw2, bc hP u2]) ?_
      refine hN16 _ _ _ ?_
      refine xc_two fun N17 hN17 => ?_
      rw [xc_block]
      refine xc_two fun N18 hN18 => ?_
      refine xc_reg1 3 rfl fun K hK => ?_
      simp only [show (List.range 3).map (·, true) = [(0, true), (1, true), (2, true)] from rfl, rslv_cons, rslv_nil, List.getElem?_toArray, List.getElem?_cons_zero, List.getElem?_cons_succ, gres]
      iterate 3 (refine seqX_hide2 fun R hR => ?_; simp [go_sem, hcz, hco, huz, huo, d53, d35, hj, hw1, d95, d59, d93, d39, g3, g5, g7, g9, g10, g11, g24, g25, g26, g31, g32, g33, hi, hw2, bc hP u2]; refine hR _ _ _ ?_; clear hR R)
      rw [seqX_nil]
      refine hK _ _ _ ?_; clear hK K
      refine hN18 _ _ _ ?_
      refine xc_two fun N19 hN19 => ?_
      refine xc_reg1 9 rfl fun K hK => ?_
      simp only [show (List.range 9).map (·, true) = [(0, true), (1, true), (2, true), (3, true), (4, true), (5, true), (6, true), (7, true), (8, true)] from rfl, rslv_cons, rslv_nil, List.getElem?_toArray, List.getElem?_cons_zero, List.getElem?_cons_succ, gres]
      iterate 2 (refine seqX_hide2 fun R hR => ?_; simp [go_sem, hcz, hco, huz, huo, d53, d35, hj, hw1, d95, d59, d93, d39, g3, g5, g7, g9, g10, g11, g24, g25, g26, g31, g32, g33, hi, hw2, bc hP u2]; refine hR _ _ _ ?_; clear hR R)
      refine seqX_hide2 fun R hR => ?_
      simp [go_sem, hcz, hco, huz, huo, d53, d35, hj, hw1, d95, d59, d93, d39, g3, g5, g7, g9, g10, g11, g24, g25, g26, g31, g32, g33, hi, hw2, bc hP u2]
      refine call_ov hP (at40 D2 u cu lu tag (hu.le hBD2) hGu) ?_
      clear hP
      rintro _ D3 ⟨hF, hD3⟩ hP
      obtain ⟨cy, y, z, rfl, hy3, hyz⟩ := hF.split'
      have hyz1 := hy3.size
      have hyo := hy3.ones
      have hyk := hy3.kind1
      have hyb := hy3.bool1
      rcases hyz with ⟨rfl, hat⟩ | ⟨rfl, hat, rfl⟩
      · rw [tb_of hat] at hy2 hn2
        by_cases k1 : kindOf y = 1
        · rw [if_pos k1] at hy2 hn2
          have hsv : ov D3 [(q9, Obj.cells (wc w.name w.ver w.cond w.alias (.slice (some a2) w.tags.length c1) w.en (.slice b2 w.imps.length c2)) 34 (0, 0)), (q5, Obj.cells cu 27 (0, 0)), (q3, Obj.cells c 27 (0, 0))] = ov D3 [(q9, Obj.cells (wc w.name w.ver w.cond w.alias (.slice (some a2) w.tags.length c1) w.en (.slice b2 w.imps.length c2)) 34 (0, 0)), (q5, Obj.cells cu 27 (0, 0)), (q3, Obj.cells c 27 (0, 0))] := rfl
          clear hsv
          cases yes with
          | true =>
            cases no with
            | true =>
              refine hR _ _ _ ?_; clear hR R
              iterate 3 (refine seqX_hide2 fun R hR => ?_; simp [go_sem, hcz, hco, huz, huo, d53, d35, hj, hw1, d95, d59, d93, d39, g3, g5, g7, g9, g10, g11, g24, g25, g26, g31, g32, g33, hi, hw2, hyz1, hyo, hyk, hyb, k1]; refine hR _ _ _ ?_; clear hR R)
              refine seqX_hide2 fun R hR => ?_
              simp [go_sem, hcz, hco, huz, huo, d53, d35, hj, hw1, d95, d59, d93, d39, g3, g5, g7, g9, g10, g11, g24, g25, g26, g31, g32, g33, hi, hw2, hyz1, hyo, hyk, hyb, k1]
              intro q14 hq14
              replace hP := hP.cons hq14
              clear hq14
              have d149 : q14 ≠ q9 := (hP.ne q9 (by simp [addrs])).1
              have d914 : q9 ≠ q14 := (hP.ne q9 (by simp [addrs])).2
              have d145 : q14 ≠ q5 := (hP.ne q5 (by simp [addrs])).1
              have d514 : q5 ≠ q14 := (hP.ne q5 (by simp [addrs])).2
              have d143 : q14 ≠ q3 := (hP.ne q3 (by simp [addrs])).1
              have d314 : q3 ≠ q14 := (hP.ne q3 (by simp [addrs])).2
              refine hR _ _ _ ?_; clear hR R
              refine seqX_hide2 fun R hR => ?_
              simp [go_sem, hcz, hco, huz, huo, d53, d35, hj, hw1, d95, d59, d93, d39, g3, g5, g7, g9, g10, g11, g24, g25, g26, g31, g32, g33, hi, hw2, hyz1, hyo, hyk, hyb, k1, d149, d914, d145, d514, d143, d314]
              refine hR _ _ _ ?_; clear hR R
              (refine seqX_hide2 fun R hR => ?_; simp [go_sem, hcz, hco, huz, huo, d53, d35, hj, hw1, d95, d59, d93, d39, g3, g5, g7, g9, g10, g11, g24, g25, g26, g31, g32, g33, hi, hw2, hyz1, hyo, hyk, hyb, k1, d149, d914, d145, d514, d143, d314]; refine hR _ _ _ ?_; clear hR R)
              rw [seqX_nil]
              refine hK _ _ _ ?_; clear hK K
              refine hN19 _ _ _ ?_
              refine xc_two fun N20 hN20 => ?_
              refine xc_reg1 6 rfl fun K hK => ?_
              simp only [show (List.range 6).map (·, true) = [(0, true), (1, true), (2, true), (3, true), (4, true), (5, true)] from rfl, rslv_cons, rslv_nil, List.getElem?_toArray, List.getElem?_cons_zero, List.getElem?_cons_succ, gres]
              iterate 6 (refine seqX_hide2 fun R hR => ?_; simp [go_sem, hcz, hco, huz, huo, d53, d35, hj, hw1, d95, d59, d93, d39, g3, g5, g7, g9, g10, g11, g24, g25, g26, g31, g32, g33, hi, hw2, hyz1, hyo, hyk, hyb, k1, d149, d914, d145, d514, d143, d314]; refine hR _ _ _ ?_; clear hR R)
              rw [seqX_nil]
              refine hK _ _ _ ?_; clear hK K
              refine hN20 _ _ _ ?_
              refine xc_iftrue (by simp [go_sem, hcz, hco, huz, huo, d53, d35, hj, hw1, d95, d59, d93, d39, g3, g5, g7, g9, g10, g11, g24, g25, g26, g31, g32, g33, hi, hw2, hyz1, hyo, hyk, hyb, k1, d149, d914, d145, d514, d143, d314]) ?_
              rw [xc_draws]
              refine vdrawK [(0, true), (1, true), (2, true), (3, true), (4, true), (5, true), (6, true), (7, true), (8, true), (9, true), (10, true), (11, true), (12, true)] (ov D3 [(q14, .cells cy 27 (0, 0)), (q9, .cells (wc w.name w.ver w.cond w.alias (.slice (some a2) w.tags.length c1) w.en (.slice b2 w.imps.length c2)) 34 (0, 0)), (q5, .cells cu 27 (0, 0)), (q3, .cells c 27 (0, 0))]) mixed (by kernel_rfl) (View.le_refl _) fun K hK => ?_
              simp only [rslv_cons, rslv_nil, List.getElem?_toArray, List.getElem?_cons_zero, List.getElem?_cons_succ, gres]
              iterate 13 (refine seqR_hide fun R hR => ?_; simp [go_sem, hcz, hco, huz, huo, d53, d35, hj, hw1, d95, d59, d93, d39, g3, g5, g7, g9, g10, g11, g24, g25, g26, g31, g32, g33, hi, hw2, hyz1, hyo, hyk, hyb, k1, d149, d914, d145, d514, d143, d314]; refine hR _ _ _ ?_; clear hR R)
              rw [seqR_nil]
              refine hK _ _ _ ?_; clear hK K
              refine hN17 _ _ _ ?_
              refine xc_reg1 2 rfl fun K hK => ?_
              simp only [show (List.range 2).map (·, true) = [(0, true), (1, true)] from rfl, rslv_cons, rslv_nil, List.getElem?_toArray, List.getElem?_cons_zero, List.getElem?_cons_succ, gres]
              iterate 2 (refine seqX_hide2 fun R hR => ?_; simp [go_sem, hcz, hco, huz, huo, d53, d35, hj, hw1, d95, d59, d93, d39, g3, g5, g7, g9, g10, g11, g24, g25, g26, g31, g32, g33, hi, hw2, hyz1, hyo, hyk, hyb, k1, d149, d914, d145, d514, d143, d314]; refine hR _ _ _ ?_; clear hR R)
              rw [seqX_nil]
              refine hK _ _ _ ?_; clear hK K
              refine sink_goal 0 hP rfl fun hPn lq14 nq14 => ?_
              clear hP; have hP := hPn; clear hPn
              simp only [List.eraseIdx_cons_zero, List.eraseIdx_cons_succ, addrs_cons, addrs_nil] at hP ⊢
              refine hJ2 (w.tags.length - (i + 1)) _ _ _ (by omega) ⟨i + 1, _, true, true, rfl, rfl, rfl, hP, by simp [go_sem, hcz, hco, huz, huo, d53, d35, hj, hw1, d95, d59, d93, d39, g3, g5, g7, g9, g10, g11, g24, g25, g26, g31, g32, g33, hi, hw2, hyz1, hyo, hyk, hyb, k1, d149, d914, d145, d514, d143, d314], by simp [go_sem, hcz, hco, huz, huo, d53, d35, hj, hw1, d95, d59, d93, d39, g3, g5, g7, g9, g10, g11, g24, g25, g26, g31, g32, g33, hi, hw2, hyz1, hyo, hyk, hyb, k1, d149, d914, d145, d514, d143, d314], by simp [go_sem, hcz, hco, huz, huo, d53, d35, hj, hw1, d95, d59, d93, d39, g3, g5, g7, g9, g10, g11, g24, g25, g26, g31, g32, g33, hi, hw2, hyz1, hyo, hyk, hyb, k1, d149, d914, d145, d514, d143, d314], by simp [go_sem, hcz, hco, huz, huo, d53, d35, hj, hw1, d95, d59, d93, d39, g3, g5, g7, g9, g10, g11, g24, g25, g26, g31, g32, g33, hi, hw2, hyz1, hyo, hyk, hyb, k1, d149, d914, d145, d514, d143, d314], by simp [go_sem, hcz, hco, huz, huo, d53, d35, hj, hw1, d95, d59, d93, d39, g3, g5, g7, g9, g10, g11, g24, g25, g26, g31, g32, g33, hi, hw2, hyz1, hyo, hyk, hyb, k1, d149, d914, d145, d514, d143, d314], by simp [go_sem, hcz, hco, huz, huo, d53, d35, hj, hw1, d95, d59, d93, d39, g3, g5, g7, g9, g10, g11, g24, g25, g26, g31, g32, g33, hi, hw2, hyz1, hyo, hyk, hyb, k1, d149, d914, d145, d514, d143, d314], by simp [go_sem, hcz, hco, huz, huo, d53, d35, hj, hw1, d95, d59, d93, d39, g3, g5, g7, g9, g10, g11, g24, g25, g26, g31, g32, g33, hi, hw2, hyz1, hyo, hyk, hyb, k1, d149, d914, d145, d514, d143, d314], by simp [go_sem, hcz, hco, huz, huo, d53, d35, hj, hw1, d95, d59, d93, d39, g3, g5, g7, g9, g10, g11, g24, g25, g26, g31, g32, g33, hi, hw2, hyz1, hyo, hyk, hyb, k1, d149, d914, d145, d514, d143, d314], by simp [go_sem, hcz, hco, huz, huo, d53, d35, hj, hw1, d95, d59, d93, d39, g3, g5, g7, g9, g10, g11, g24, g25, g26, g31, g32, g33, hi, hw2, hyz1, hyo, hyk, hyb, k1, d149, d914, d145, d514, d143, d314], by simp [go_sem, hcz, hco, huz, huo, d53, d35, hj, hw1, d95, d59, d93, d39, g3, g5, g7, g9, g10, g11, g24, g25, g26, g31, g32, g33, hi, hw2, hyz1, hyo, hyk, hyb, k1, d149, d914, d145, d514, d143, d314], by simp [go_sem, hcz, hco, huz, huo, d53, d35, hj, hw1, d95, d59, d93, d39, g3, g5, g7, g9, g10, g11, g24, g25, g26, g31, g32, g33, hi, hw2, hyz1, hyo, hyk, hyb, k1, d149, d914, d145, d514, d143, d314], by simp [go_sem, hcz, hco, huz, huo, d53, d35, hj, hw1, d95, d59, d93, d39, g3, g5, g7, g9, g10, g11, g24, g25, g26, g31, g32, g33, hi, hw2, hyz1, hyo, hyk, hyb, k1, d149, d914, d145, d514, d143, d314], by omega, View.le_trans hDD (View.le_trans hD3 lq14), by rw [hy2]; cases boolOf y <;> rfl, by rw [hn2]; cases boolOf y <;> rfl⟩
            | false =>
              refine hR _ _ _ ?_; clear hR R
              iterate 3 (refine seqX_hide2 fun R hR => ?_; simp [go_sem, hcz, hco, huz, huo, d53, d35, hj, hw1, d95, d59, d93, d39, g3, g5, g7, g9, g10, g11, g24, g25, g26, g31, g32, g33, hi, hw2, hyz1, hyo, hyk, hyb, k1]; refine hR _ _ _ ?_; clear hR R)
              refine seqX_hide2 fun R hR => ?_
              simp [go_sem, hcz, hco, huz, huo, d53, d35, hj, hw1, d95, d59, d93, d39, g3, g5, g7, g9, g10, g11, g24, g25, g26, g31, g32, g33, hi, hw2, hyz1, hyo, hyk, hyb, k1]
              intro q14 hq14
              replace hP := hP.cons hq14
              clear hq14
              have d149 : q14 ≠ q9 := (hP.ne q9 (by simp [addrs])).1
              have d914 : q9 ≠ q14 := (hP.ne q9 (by simp [addrs])).2
              have d145 : q14 ≠ q5 := (hP.ne q5 (by simp [addrs])).1
              have d514 : q5 ≠ q14 := (hP.ne q5 (by simp [addrs])).2
              have d143 : q14 ≠ q3 := (hP.ne q3 (by simp [addrs])).1
              have d314 : q3 ≠ q14 := (hP.ne q3 (by simp [addrs])).2
              refine hR _ _ _ ?_; clear hR R
              refine seqX_hide2 fun R hR => ?_
              simp [go_sem, hcz, hco, huz, huo, d53, d35, hj, hw1, d95, d59, d93, d39, g3, g5, g7, g9, g10, g11, g24, g25, g26, g31, g32, g33, hi, hw2, hyz1, hyo, hyk, hyb, k1, d149, d914, d145, d514, d143, d314]
              refine hR _ _ _ ?_; clear hR R
              (refine seqX_hide2 fun R hR => ?_; simp [go_sem, hcz, hco, huz, huo, d53, d35, hj, hw1, d95, d59, d93, d39, g3, g5, g7, g9, g10, g11, g24, g25, g26, g31, g32, g33, hi, hw2, hyz1, hyo, hyk, hyb, k1, d149, d914, d145, d514, d143, d314]; refine hR _ _ _ ?_; clear hR R)
              rw [seqX_nil]
              refine hK _ _ _ ?_; clear hK K
              refine hN19 _ _ _ ?_
              refine xc_two fun N20 hN20 => ?_
              refine xc_reg1 6 rfl fun K hK => ?_
              simp only [show (List.range 6).map (·, true) = [(0, true), (1, true), (2, true), (3, true), (4, true), (5, true)] from rfl, rslv_cons, rslv_nil, List.getElem?_toArray, List.getElem?_cons_zero, List.getElem?_cons_succ, gres]
              iterate 6 (refine seqX_hide2 fun R hR => ?_; simp [go_sem, hcz, hco, huz, huo, d53, d35, hj, hw1, d95, d59, d93, d39, g3, g5, g7, g9, g10, g11, g24, g25, g26, g31, g32, g33, hi, hw2, hyz1, hyo, hyk, hyb, k1, d149, d914, d145, d514, d143, d314]; refine hR _ _ _ ?_; clear hR R)
              rw [seqX_nil]
              refine hK _ _ _ ?_; clear hK K
              refine hN20 _ _ _ ?_
              refine xc_iftrue (by simp [go_sem, hcz, hco, huz, huo, d53, d35, hj, hw1, d95, d59, d93, d39, g3, g5, g7, g9, g10, g11, g24, g25, g26, g31, g32, g33, hi, hw2, hyz1, hyo, hyk, hyb, k1, d149, d914, d145, d514, d143, d314]) ?_
              rw [xc_draws]
              refine vdrawK [(0, true), (1, true), (2, true), (3, true), (4, true), (5, true), (6, true), (7, true), (8, true), (9, true), (10, true), (11, true), (12, true)] (ov D3 [(q14, .cells cy 27 (0, 0)), (q9, .cells (wc w.name w.ver w.cond w.alias (.slice (some a2) w.tags.length c1) w.en (.slice b2 w.imps.length c2)) 34 (0, 0)), (q5, .cells cu 27 (0, 0)), (q3, .cells c 27 (0, 0))]) mixed (by kernel_rfl) (View.le_refl _) fun K hK => ?_
              simp only [rslv_cons, rslv_nil, List.getElem?_toArray, List.getElem?_cons_zero, List.getElem?_cons_succ, gres]
              iterate 13 (refine seqR_hide fun R hR => ?_; simp [go_sem, hcz, hco, huz, huo, d53, d35, hj, hw1, d95, d59, d93, d39, g3, g5, g7, g9, g10, g11, g24, g25, g26, g31, g32, g33, hi, hw2, hyz1, hyo, hyk, hyb, k1, d149, d914, d145, d514, d143, d314]; refine hR _ _ _ ?_; clear hR R)
              rw [seqR_nil]
              refine hK _ _ _ ?_; clear hK K
              refine hN17 _ _ _ ?_
              refine xc_reg1 2 rfl fun K hK => ?_
              simp only [show (List.range 2).map (·, true) = [(0, true), (1, true)] from rfl, rslv_cons, rslv_nil, List.getElem?_toArray, List.getElem?_cons_zero, List.getElem?_cons_succ, gres]
              iterate 2 (refine seqX_hide2 fun R hR => ?_; simp [go_sem, hcz, hco, huz, huo, d53, d35, hj, hw1, d95, d59, d93, d39, g3, g5, g7, g9, g10, g11, g24, g25, g26, g31, g32, g33, hi, hw2, hyz1, hyo, hyk, hyb, k1, d149, d914, d145, d514, d143, d314]; refine hR _ _ _ ?_; clear hR R)
              rw [seqX_nil]
              refine hK _ _ _ ?_; clear hK K
              refine sink_goal 0 hP rfl fun hPn lq14 nq14 => ?_
              clear hP; have hP := hPn; clear hPn
              simp only [List.eraseIdx_cons_zero, List.eraseIdx_cons_succ, addrs_cons, addrs_nil] at hP ⊢
              refine hJ2 (w.tags.length - (i + 1)) _ _ _ (by omega) ⟨i + 1, _, true, !boolOf y, rfl, rfl, rfl, hP, by simp [go_sem, hcz, hco, huz, huo, d53, d35, hj, hw1, d95, d59, d93, d39, g3, g5, g7, g9, g10, g11, g24, g25, g26, g31, g32, g33, hi, hw2, hyz1, hyo, hyk, hyb, k1, d149, d914, d145, d514, d143, d314], by simp [go_sem, hcz, hco, huz, huo, d53, d35, hj, hw1, d95, d59, d93, d39, g3, g5, g7, g9, g10, g11, g24, g25, g26, g31, g32, g33, hi, hw2, hyz1, hyo, hyk, hyb, k1, d149, d914, d145, d514, d143, d314], by simp [go_sem, hcz, hco, huz, huo, d53, d35, hj, hw1, d95, d59, d93, d39, g3, g5, g7, g9, g10, g11, g24, g25, g26, g31, g32, g33, hi, hw2, hyz1, hyo, hyk, hyb, k1, d149, d914, d145, d514, d143, d314], by simp [go_sem, hcz, hco, huz, huo, d53, d35, hj, hw1, d95, d59, d93, d39, g3, g5, g7, g9, g10, g11, g24, g25, g26, g31, g32, g33, hi, hw2, hyz1, hyo, hyk, hyb, k1, d149, d914, d145, d514, d143, d314], by simp [go_sem, hcz, hco, huz, huo, d53, d35, hj, hw1, d95, d59, d93, d39, g3, g5, g7, g9, g10, g11, g24, g25, g26, g31, g32, g33, hi, hw2, hyz1, hyo, hyk, hyb, k1, d149, d914, d145, d514, d143, d314], by simp [go_sem, hcz, hco, huz, huo, d53, d35, hj, hw1, d95, d59, d93, d39, g3, g5, g7, g9, g10, g11, g24, g25, g26, g31, g32, g33, hi, hw2, hyz1, hyo, hyk, hyb, k1, d149, d914, d145, d514, d143, d314], by simp [go_sem, hcz, hco, huz, huo, d53, d35, hj, hw1, d95, d59, d93, d39, g3, g5, g7, g9, g10, g11, g24, g25, g26, g31, g32, g33, hi, hw2, hyz1, hyo, hyk, hyb, k1, d149, d914, d145, d514, d143, d314], by simp [go_sem, hcz, hco, huz, huo, d53, d35, hj, hw1, d95, d59, d93, d39, g3, g5, g7, g9, g10, g11, g24, g25, g26, g31, g32, g33, hi, hw2, hyz1, hyo, hyk, hyb, k1, d149, d914, d145, d514, d143, d314], by simp [go_sem, hcz, hco, huz, huo, d53, d35, hj, hw1, d95, d59, d93, d39, g3, g5, g7, g9, g10, g11, g24, g25, g26, g31, g32, g33, hi, hw2, hyz1, hyo, hyk, hyb, k1, d149, d914, d145, d514, d143, d314], by simp [go_sem, hcz, hco, huz, huo, d53, d35, hj, hw1, d95, d59, d93, d39, g3, g5, g7, g9, g10, g11, g24, g25, g26, g31, g32, g33, hi, hw2, hyz1, hyo, hyk, hyb, k1, d149, d914, d145, d514, d143, d314], by simp [go_sem, hcz, hco, huz, huo, d53, d35, hj, hw1, d95, d59, d93, d39, g3, g5, g7, g9, g10, g11, g24, g25, g26, g31, g32, g33, hi, hw2, hyz1, hyo, hyk, hyb, k1, d149, d914, d145, d514, d143, d314], by simp [go_sem, hcz, hco, huz, huo, d53, d35, hj, hw1, d95, d59, d93, d39, g3, g5, g7, g9, g10, g11, g24, g25, g26, g31, g32, g33, hi, hw2, hyz1, hyo, hyk, hyb, k1, d149, d914, d145, d514, d143, d314], by omega, View.le_trans hDD (View.le_trans hD3 lq14), by rw [hy2]; cases boolOf y <;> rfl, by rw [hn2]; cases boolOf y <;> rfl⟩
          | false =>
            cases no with
            | true =>
              refine hR _ _ _ ?_; clear hR R
              iterate 3 (refine seqX_hide2 fun R hR => ?_; simp [go_sem, hcz, hco, huz, huo, d53, d35, hj, hw1, d95, d59, d93, d39, g3, g5, g7, g9, g10, g11, g24, g25, g26, g31, g32, g33, hi, hw2, hyz1, hyo, hyk, hyb, k1]; refine hR _ _ _ ?_; clear hR R)
              refine seqX_hide2 fun R hR => ?_
              simp [go_sem, hcz, hco, huz, huo, d53, d35, hj, hw1, d95, d59, d93, d39, g3, g5, g7, g9, g10, g11, g24, g25, g26, g31, g32, g33, hi, hw2, hyz1, hyo, hyk, hyb, k1]
              intro q14 hq14
              replace hP := hP.cons hq14
              clear hq14
              have d149 : q14 ≠ q9 := (hP.ne q9 (by simp [addrs])).1
              have d914 : q9 ≠ q14 := (hP.ne q9 (by simp [addrs])).2
              have d145 : q14 ≠ q5 := (hP.ne q5 (by simp [addrs])).1
              have d514 : q5 ≠ q14 := (hP.ne q5 (by simp [addrs])).2
              have d143 : q14 ≠ q3 := (hP.ne q3 (by simp [addrs])).1
              have d314 : q3 ≠ q14 := (hP.ne q3 (by simp [addrs])).2
              refine hR _ _ _ ?_; clear hR R
              refine seqX_hide2 fun R hR => ?_
              simp [go_sem, hcz, hco, huz, huo, d53, d35, hj, hw1, d95, d59, d93, d39, g3, g5, g7, g9, g10, g11, g24, g25, g26, g31, g32, g33, hi, hw2, hyz1, hyo, hyk, hyb, k1, d149, d914, d145, d514, d143, d314]
              refine hR _ _ _ ?_; clear hR R
              (refine seqX_hide2 fun R hR => ?_; simp [go_sem, hcz, hco, huz, huo, d53, d35, hj, hw1, d95, d59, d93, d39, g3, g5, g7, g9, g10, g11, g24, g25, g26, g31, g32, g33, hi, hw2, hyz1, hyo, hyk, hyb, k1, d149, d914, d145, d514, d143, d314]; refine hR _ _ _ ?_; clear hR R)
              rw [seqX_nil]
              refine hK _ _ _ ?_; clear hK K
              refine hN19 _ _ _ ?_
              refine xc_two fun N20 hN20 => ?_
              refine xc_reg1 6 rfl fun K hK => ?_
              simp only [show (List.range 6).map (·, true) = [(0, true), (1, true), (2, true), (3, true), (4, true), (5, true)] from rfl, rslv_cons, rslv_nil, List.getElem?_toArray, List.getElem?_cons_zero, List.getElem?_cons_succ, gres]
              iterate 6 (refine seqX_hide2 fun R hR => ?_; simp [go_sem, hcz, hco, huz, huo, d53, d35, hj, hw1, d95, d59, d93, d39, g3, g5, g7, g9, g10, g11, g24, g25, g26, g31, g32, g33, hi, hw2, hyz1, hyo, hyk, hyb, k1, d149, d914, d145, d514, d143, d314]; refine hR _ _ _ ?_; clear hR R)
              rw [seqX_nil]
              refine hK _ _ _ ?_; clear hK K
              refine hN20 _ _ _ ?_
              refine xc_iftrue (by simp [go_sem, hcz, hco, huz, huo, d53, d35, hj, hw1, d95, d59, d93, d39, g3, g5, g7, g9, g10, g11, g24, g25, g26, g31, g32, g33, hi, hw2, hyz1, hyo, hyk, hyb, k1, d149, d914, d145, d514, d143, d314]) ?_
              rw [xc_draws]
              refine vdrawK [(0, true), (1, true), (2, true), (3, true), (4, true), (5, true), (6, true), (7, true), (8, true), (9, true), (10, true), (11, true), (12, true)] (ov D3 [(q14, .cells cy 27 (0, 0)), (q9, .cells (wc w.name w.ver w.cond w.alias (.slice (some a2) w.tags.length c1) w.en (.slice b2 w.imps.length c2)) 34 (0, 0)), (q5, .cells cu 27 (0, 0)), (q3, .cells c 27 (0, 0))]) mixed (by kernel_rfl) (View.le_refl _) fun K hK => ?_
              simp only [rslv_cons, rslv_nil, List.getElem?_toArray, List.getElem?_cons_zero, List.getElem?_cons_succ, gres]
              iterate 13 (refine seqR_hide fun R hR => ?_; simp [go_sem, hcz, hco, huz, huo, d53, d35, hj, hw1, d95, d59, d93, d39, g3, g5, g7, g9, g10, g11, g24, g25, g26, g31, g32, g33, hi, hw2, hyz1, hyo, hyk, hyb, k1, d149, d914, d145, d514, d143, d314]; refine hR _ _ _ ?_; clear hR R)
              rw [seqR_nil]
              refine hK _ _ _ ?_; clear hK K
              refine hN17 _ _ _ ?_
              refine xc_reg1 2 rfl fun K hK => ?_
              simp only [show (List.range 2).map (·, true) = [(0, true), (1, true)] from rfl, rslv_cons, rslv_nil, List.getElem?_toArray, List.getElem?_cons_zero, List.getElem?_cons_succ, gres]
              iterate 2 (refine seqX_hide2 fun R hR => ?_; simp [go_sem, hcz, hco, huz, huo, d53, d35, hj, hw1, d95, d59, d93, d39, g3, g5, g7, g9, g10, g11, g24, g25, g26, g31, g32, g33, hi, hw2, hyz1, hyo, hyk, hyb, k1, d149, d914, d145, d514, d143, d314]; refine hR _ _ _ ?_; clear hR R)
              rw [seqX_nil]
              refine hK _ _ _ ?_; clear hK K
              refine sink_goal 0 hP rfl fun hPn lq14 nq14 => ?_
              clear hP; have hP := hPn; clear hPn
              simp only [List.eraseIdx_cons_zero, List.eraseIdx_cons_succ, addrs_cons, addrs_nil] at hP ⊢
              refine hJ2 (w.tags.length - (i + 1)) _ _ _ (by omega) ⟨i + 1, _, boolOf y, true, rfl, rfl, rfl, hP, by simp [go_sem, hcz, hco, huz, huo, d53, d35, hj, hw1, d95, d59, d93, d39, g3, g5, g7, g9, g10, g11, g24, g25, g26, g31, g32, g33, hi, hw2, hyz1, hyo, hyk, hyb, k1, d149, d914, d145, d514, d143, d314], by simp [go_sem, hcz, hco, huz, huo, d53, d35, hj, hw1, d95, d59, d93, d39, g3, g5, g7, g9, g10, g11, g24, g25, g26, g31, g32, g33, hi, hw2, hyz1, hyo, hyk, hyb, k1, d149, d914, d145, d514, d143, d314], by simp [go_sem, hcz, hco, huz, huo, d53, d35, hj, hw1, d95, d59, d93, d39, g3, g5, g7, g9, g10, g11, g24, g25, g26, g31, g32, g33, hi, hw2, hyz1, hyo, hyk, hyb, k1, d149, d914, d145, d514, d143, d314], by simp [go_sem, hcz, hco, huz, huo, d53, d35, hj, hw1, d95, d59, d93, d39, g3, g5, g7, g9, g10, g11, g24, g25, g26, g31, g32, g33, hi, hw2, hyz1, hyo, hyk, hyb, k1, d149, d914, d145, d514, d143, d314], by simp [go_sem, hcz, hco, huz, huo, d53, d35, hj, hw1, d95, d59, d93, d39, g3, g5, g7, g9, g10, g11, g24, g25, g26, g31, g32, g33, hi, hw2, hyz1, hyo, hyk, hyb, k1, d149, d914, d145, d514, d143, d314], by simp [go_sem, hcz, hco, huz, huo, d53, d35, hj, hw1, d95, d59, d93, d39, g3, g5, g7, g9, g10, g11, g24, g25, g26, g31, g32, g33, hi, hw2, hyz1, hyo, hyk, hyb, k1, d149, d914, d145, d514, d143, d314], by simp [go_sem, hcz, hco, huz, huo, d53, d35, hj, hw1, d95, d59, d93, d39, g3, g5, g7, g9, g10, g11, g24, g25, g26, g31, g32, g33, hi, hw2, hyz1, hyo, hyk, hyb, k1, d149, d914, d145, d514, d143, d314], by simp [go_sem, hcz, hco, huz, huo, d53, d35, hj, hw1, d95, d59, d93, d39, g3, g5, g7, g9, g10, g11, g24, g25, g26, g31, g32, g33, hi, hw2, hyz1, hyo, hyk, hyb, k1, d149, d914, d145, d514, d143, d314], by simp [go_sem, hcz, hco, huz, huo, d53, d35, hj, hw1, d95, d59, d93, d39, g3, g5, g7, g9, g10, g11, g24, g25, g26, g31, g32, g33, hi, hw2, hyz1, hyo, hyk, hyb, k1, d149, d914, d145, d514, d143, d314], by simp [go_sem, hcz, hco, huz, huo, d53, d35, hj, hw1, d95, d59, d93, d39, g3, g5, g7, g9, g10, g11, g24, g25, g26, g31, g32, g33, hi, hw2, hyz1, hyo, hyk, hyb, k1, d149, d914, d145, d514, d143, d314], by simp [go_sem, hcz, hco, huz, huo, d53, d35, hj, hw1, d95, d59, d93, d39, g3, g5, g7, g9, g10, g11, g24, g25, g26, g31, g32, g33, hi, hw2, hyz1, hyo, hyk, hyb, k1, d149, d914, d145, d514, d143, d314], by simp [go_sem, hcz, hco, huz, huo, d53, d35, hj, hw1, d95, d59, d93, d39, g3, g5, g7, g9, g10, g11, g24, g25, g26, g31, g32, g33, hi, hw2, hyz1, hyo, hyk, hyb, k1, d149, d914, d145, d514, d143, d314], by omega, View.le_trans hDD (View.le_trans hD3 lq14), by rw [hy2]; cases boolOf y <;> rfl, by rw [hn2]; cases boolOf y <;> rfl⟩
            | false =>
              refine hR _ _ _ ?_; clear hR R
              iterate 3 (refine seqX_hide2 fun R hR => ?_; simp [go_sem, hcz, hco, huz, huo, d53, d35, hj, hw1, d95, d59, d93, d39, g3, g5, g7, g9, g10, g11, g24, g25, g26, g31, g32, g33, hi, hw2, hyz1, hyo, hyk, hyb, k1]; refine hR _ _ _ ?_; clear hR R)
              refine seqX_hide2 fun R hR => ?_
              simp [go_sem, hcz, hco, huz, huo, d53, d35, hj, hw1, d95, d59, d93, d39, g3, g5, g7, g9, g10, g11, g24, g25, g26, g31, g32, g33, hi, hw2, hyz1, hyo, hyk, hyb, k1]
              intro q14 hq14
              replace hP := hP.cons hq14
              clear hq14
              have d149 : q14 ≠ q9 := (hP.ne q9 (by simp [addrs])).1
              have d914 : q9 ≠ q14 := (hP.ne q9 (by simp [addrs])).2
              have d145 : q14 ≠ q5 := (hP.ne q5 (by simp [addrs])).1
              have d514 : q5 ≠ q14 := (hP.ne q5 (by simp [addrs])).2
              have d143 : q14 ≠ q3 := (hP.ne q3 (by simp [addrs])).1
              have d314 : q3 ≠ q14 := (hP.ne q3 (by simp [addrs])).2
              refine hR _ _ _ ?_; clear hR R
              refine seqX_hide2 fun R hR => ?_
              simp [go_sem, hcz, hco, huz, huo, d53, d35, hj, hw1, d95, d59, d93, d39, g3, g5, g7, g9, g10, g11, g24, g25, g26, g31, g32, g33, hi, hw2, hyz1, hyo, hyk, hyb, k1, d149, d914, d145, d514, d143, d314]
              refine hR _ _ _ ?_; clear hR R
              (refine seqX_hide2 fun R hR => ?_; simp [go_sem, hcz, hco, huz, huo, d53, d35, hj, hw1, d95, d59, d93, d39, g3, g5, g7, g9, g10, g11, g24, g25, g26, g31, g32, g33, hi, hw2, hyz1, hyo, hyk, hyb, k1, d149, d914, d145, d514, d143, d314]; refine hR _ _ _ ?_; clear hR R)
              rw [seqX_nil]
              refine hK _ _ _ ?_; clear hK K
              refine hN19 _ _ _ ?_
              refine xc_two fun N20 hN20 => ?_
              refine xc_reg1 6 rfl fun K hK => ?_
              simp only [show (List.range 6).map (·, true) = [(0, true), (1, true), (2, true), (3, true), (4, true), (5, true)] from rfl, rslv_cons, rslv_nil, List.getElem?_toArray, List.getElem?_cons_zero, List.getElem?_cons_succ, gres]
              iterate 6 (refine seqX_hide2 fun R hR => ?_; simp [go_sem, hcz, hco, huz, huo, d53, d35, hj, hw1, d95, d59, d93, d39, g3, g5, g7, g9, g10, g11, g24, g25, g26, g31, g32, g33, hi, hw2, hyz1, hyo, hyk, hyb, k1, d149, d914, d145, d514, d143, d314]; refine hR _ _ _ ?_; clear hR R)
              rw [seqX_nil]
              refine hK _ _ _ ?_; clear hK K
              refine hN20 _ _ _ ?_
              refine xc_iftrue (by simp [go_sem, hcz, hco, huz, huo, d53, d35, hj, hw1, d95, d59, d93, d39, g3, g5, g7, g9, g10, g11, g24, g25, g26, g31, g32, g33, hi, hw2, hyz1, hyo, hyk, hyb, k1, d149, d914, d145, d514, d143, d314]) ?_
              rw [xc_draws]
              refine vdrawK [(0, true), (1, true), (2, true), (3, true), (4, true), (5, true), (6, true), (7, true), (8, true), (9, true), (10, true), (11, true), (12, true)] (ov D3 [(q14, .cells cy 27 (0, 0)), (q9, .cells (wc w.name w.ver w.cond w.alias (.slice (some a2) w.tags.length c1) w.en (.slice b2 w.imps.length c2)) 34 (0, 0)), (q5, .cells cu 27 (0, 0)), (q3, .cells c 27 (0, 0))]) mixed (by kernel_rfl) (View.le_refl _) fun K hK => ?_
              simp only [rslv_cons, rslv_nil, List.getElem?_toArray, List.getElem?_cons_zero, List.getElem?_cons_succ, gres]
              iterate 13 (refine seqR_hide fun R hR => ?_; simp [go_sem, hcz, hco, huz, huo, d53, d35, hj, hw1, d95, d59, d93, d39, g3, g5, g7, g9, g10, g11, g24, g25, g26, g31, g32, g33, hi, hw2, hyz1, hyo, hyk, hyb, k1, d149, d914, d145, d514, d143, d314]; refine hR _ _ _ ?_; clear hR R)
              rw [seqR_nil]
              refine hK _ _ _ ?_; clear hK K
              refine hN17 _ _ _ ?_
              refine xc_reg1 2 rfl fun K hK => ?_
              simp only [show (List.range 2).map (·, true) = [(0, true), (1, true)] from rfl, rslv_cons, rslv_nil, List.getElem?_toArray, List.getElem?_cons_zero, List.getElem?_cons_succ, gres]
              iterate 2 (refine seqX_hide2 fun R hR => ?_; simp [go_sem, hcz, hco, huz, huo, d53, d35, hj, hw1, d95, d59, d93, d39, g3, g5, g7, g9, g10, g11, g24, g25, g26, g31, g32, g33, hi, hw2, hyz1, hyo, hyk, hyb, k1, d149, d914, d145, d514, d143, d314]; refine hR _ _ _ ?_; clear hR R)
              rw [seqX_nil]
              refine hK _ _ _ ?_; clear hK K
              refine sink_goal 0 hP rfl fun hPn lq14 nq14 => ?_
              clear hP; have hP := hPn; clear hPn
              simp only [List.eraseIdx_cons_zero, List.eraseIdx_cons_succ, addrs_cons, addrs_nil] at hP ⊢
              refine hJ2 (w.tags.length - (i + 1)) _ _ _ (by omega) ⟨i + 1, _, boolOf y, !boolOf y, rfl, rfl, rfl, hP, by simp [go_sem, hcz, hco, huz, huo, d53, d35, hj, hw1, d95, d59, d93, d39, g3, g5, g7, g9, g10, g11, g24, g25, g26, g31, g32, g33, hi, hw2, hyz1, hyo, hyk, hyb, k1, d149, d914, d145, d514, d143, d314], by simp [go_sem, hcz, hco, huz, huo, d53, d35, hj, hw1, d95, d59, d93, d39, g3, g5, g7, g9, g10, g11, g24, g25, g26, g31, g32, g33, hi, hw2, hyz1, hyo, hyk, hyb, k1, d149, d914, d145, d514, d143, d314], by simp [go_sem, hcz, hco, huz, huo, d53, d35, hj, hw1, d95, d59, d93, d39, g3, g5, g7, g9, g10, g11, g24, g25, g26, g31, g32, g33, hi, hw2, hyz1, hyo, hyk, hyb, k1, d149, d914, d145, d514, d143, d314], by simp [go_sem, hcz, hco, huz, huo, d53, d35, hj, hw1, d95, d59, d93, d39, g3, g5, g7, g9, g10, g11, g24, g25, g26, g31, g32, g33, hi, hw2, hyz1, hyo, hyk, hyb, k1, d149, d914, d145, d514, d143, d314], by simp [go_sem, hcz, hco, huz, huo, d53, d35, hj, hw1, d95, d59, d93, d39, g3, g5, g7, g9, g10, g11, g24, g25, g26, g31, g32, g33, hi, hw2, hyz1, hyo, hyk, hyb, k1, d149, d914, d145, d514, d143, d314], by simp [go_sem, hcz, hco, huz, huo, d53, d35, hj, hw1, d95, d59, d93, d39, g3, g5, g7, g9, g10, g11, g24, g25, g26, g31, g32, g33, hi, hw2, hyz1, hyo, hyk, hyb, k1, d149, d914, d145, d514, d143, d314], by simp [go_sem, hcz, hco, huz, huo, d53, d35, hj, hw1, d95, d59, d93, d39, g3, g5, g7, g9, g10, g11, g24, g25, g26, g31, g32, g33, hi, hw2, hyz1, hyo, hyk, hyb, k1, d149, d914, d145, d514, d143, d314], by simp [go_sem, hcz, hco, huz, huo, d53, d35, hj, hw1, d95, d59, d93, d39, g3, g5, g7, g9, g10, g11, g24, g25, g26, g31, g32, g33, hi, hw2, hyz1, hyo, hyk, hyb, k1, d149, d914, d145, d514, d143, d314], by simp [go_sem, hcz, hco, huz, huo, d53, d35, hj, hw1, d95, d59, d93, d39, g3, g5, g7, g9, g10, g11, g24, g25, g26, g31, g32, g33, hi, hw2, hyz1, hyo, hyk, hyb, k1, d149, d914, d145, d514, d143, d314], by simp [go_sem, hcz, hco, huz, huo, d53, d35, hj, hw1, d95, d59, d93, d39, g3, g5, g7, g9, g10, g11, g24, g25, g26, g31, g32, g33, hi, hw2, hyz1, hyo, hyk, hyb, k1, d149, d914, d145, d514, d143, d314], by simp [go_sem, hcz, hco, huz, huo, d53, d35, hj, hw1, d95, d59, d93, d39, g3, g5, g7, g9, g10, g11, g24, g25, g26, g31, g32, g33, hi, hw2, hyz1, hyo, hyk, hyb, k1, d149, d914, d145, d514, d143, d314], by simp [go_sem, hcz, hco, huz, huo, d53, d35, hj, hw1, d95, d59, d93, d39, g3, g5, g7, g9, g10, g11, g24, g25, g26, g31, g32, g33, hi, hw2, hyz1, hyo, hyk, hyb, k1, d149, d914, d145, d514, d143, d314], by omega, View.le_trans hDD (View.le_trans hD3 lq14), by rw [hy2]; cases boolOf y <;> rfl, by rw [hn2]; cases boolOf y <;> rfl⟩
        · rw [if_neg k1] at hy2 hn2
          have k1' : (kindOf y == 1) = false := by simpa using k1
          refine hR _ _ _ ?_; clear hR R
          iterate 3 (refine seqX_hide2 fun R hR => ?_; simp [go_sem, hcz, hco, huz, huo, d53, d35, hj, hw1, d95, d59, d93, d39, g3, g5, g7, g9, g10, g11, g24, g25, g26, g31, g32, g33, hi, hw2, hyz1, hyo, hyk, hyb, k1, k1']; refine hR _ _ _ ?_; clear hR R)
          refine seqX_hide2 fun R hR => ?_
          simp [go_sem, hcz, hco, huz, huo, d53, d35, hj, hw1, d95, d59, d93, d39, g3, g5, g7, g9, g10, g11, g24, g25, g26, g31, g32, g33, hi, hw2, hyz1, hyo, hyk, hyb, k1, k1']
          intro q14 hq14
          replace hP := hP.cons hq14
          clear hq14
          have d149 : q14 ≠ q9 := (hP.ne q9 (by simp [addrs])).1
          have d914 : q9 ≠ q14 := (hP.ne q9 (by simp [addrs])).2
          have d145 : q14 ≠ q5 := (hP.ne q5 (by simp [addrs])).1
          have d514 : q5 ≠ q14 := (hP.ne q5 (by simp [addrs])).2
          have d143 : q14 ≠ q3 := (hP.ne q3 (by simp [addrs])).1
          have d314 : q3 ≠ q14 := (hP.ne q3 (by simp [addrs])).2
          refine hR _ _ _ ?_; clear hR R
          refine seqX_hide2 fun R hR => ?_
          simp [go_sem, hcz, hco, huz, huo, d53, d35, hj, hw1, d95, d59, d93, d39, g3, g5, g7, g9, g10, g11, g24, g25, g26, g31, g32, g33, hi, hw2, hyz1, hyo, hyk, hyb, k1, k1', d149, d914, d145, d514, d143, d314]
          refine hR _ _ _ ?_; clear hR R
          (refine seqX_hide2 fun R hR => ?_; simp [go_sem, hcz, hco, huz, huo, d53, d35, hj, hw1, d95, d59, d93, d39, g3, g5, g7, g9, g10, g11, g24, g25, g26, g31, g32, g33, hi, hw2, hyz1, hyo, hyk, hyb, k1, k1', d149, d914, d145, d514, d143, d314]; refine hR _ _ _ ?_; clear hR R)
          rw [seqX_nil]
          refine hK _ _ _ ?_; clear hK K
          refine hN19 _ _ _ ?_
          refine xc_two fun N20 hN20 => ?_
          refine xc_reg1 6 rfl fun K hK => ?_
          simp only [show (List.range 6).map (·, true) = [(0, true), (1, true), (2, true), (3, true), (4, true), (5, true)] from rfl, rslv_cons, rslv_nil, List.getElem?_toArray, List.getElem?_cons_zero, List.getElem?_cons_succ, gres]
          iterate 6 (refine seqX_hide2 fun R hR => ?_; simp [go_sem, hcz, hco, huz, huo, d53, d35, hj, hw1, d95, d59, d93, d39, g3, g5, g7, g9, g10, g11, g24, g25, g26, g31, g32, g33, hi, hw2, hyz1, hyo, hyk, hyb, k1, k1', d149, d914, d145, d514, d143, d314]; refine hR _ _ _ ?_; clear hR R)
          rw [seqX_nil]
          refine hK _ _ _ ?_; clear hK K
          refine hN20 _ _ _ ?_
          refine xc_iffalse (by simp [go_sem, hcz, hco, huz, huo, d53, d35, hj, hw1, d95, d59, d93, d39, g3, g5, g7, g9, g10, g11, g24, g25, g26, g31, g32, g33, hi, hw2, hyz1, hyo, hyk, hyb, k1, k1', d149, d914, d145, d514, d143, d314]) ?_
          refine hN17 _ _ _ ?_
          refine xc_reg1 2 rfl fun K hK => ?_
          simp only [show (List.range 2).map (·, true) = [(0, true), (1, true)] from rfl, rslv_cons, rslv_nil, List.getElem?_toArray, List.getElem?_cons_zero, List.getElem?_cons_succ, gres]
          iterate 2 (refine seqX_hide2 fun R hR => ?_; simp [go_sem, hcz, hco, huz, huo, d53, d35, hj, hw1, d95, d59, d93, d39, g3, g5, g7, g9, g10, g11, g24, g25, g26, g31, g32, g33, hi, hw2, hyz1, hyo, hyk, hyb, k1, k1', d149, d914, d145, d514, d143, d314]; refine hR _ _ _ ?_; clear hR R)
          rw [seqX_nil]
          refine hK _ _ _ ?_; clear hK K
          refine sink_goal 0 hP rfl fun hPn lq14 nq14 => ?_
          clear hP; have hP := hPn; clear hPn
          simp only [List.eraseIdx_cons_zero, List.eraseIdx_cons_succ, addrs_cons, addrs_nil] at hP ⊢
          refine hJ2 (w.tags.length - (i + 1)) _ _ _ (by omega) ⟨i + 1, _, yes, no, rfl, rfl, rfl, hP, by simp [go_sem, hcz, hco, huz, huo, d53, d35, hj, hw1, d95, d59, d93, d39, g3, g5, g7, g9, g10, g11, g24, g25, g26, g31, g32, g33, hi, hw2, hyz1, hyo, hyk, hyb, k1, k1', d149, d914, d145, d514, d143, d314], by simp [go_sem, hcz, hco, huz, huo, d53, d35, hj, hw1, d95, d59, d93, d39, g3, g5, g7, g9, g10, g11, g24, g25, g26, g31, g32, g33, hi, hw2, hyz1, hyo, hyk, hyb, k1, k1', d149, d914, d145, d514, d143, d314], by simp [go_sem, hcz, hco, huz, huo, d53, d35, hj, hw1, d95, d59, d93, d39, g3, g5, g7, g9, g10, g11, g24, g25, g26, g31, g32, g33, hi, hw2, hyz1, hyo, hyk, hyb, k1, k1', d149, d914, d145, d514, d143, d314], by simp [go_sem, hcz, hco, huz, huo, d53, d35, hj, hw1, d95, d59, d93, d39, g3, g5, g7, g9, g10, g11, g24, g25, g26, g31, g32, g33, hi, hw2, hyz1, hyo, hyk, hyb, k1, k1', d149, d914, d145, d514, d143, d314], by simp [go_sem, hcz, hco, huz, huo, d53, d35, hj, hw1, d95, d59, d93, d39, g3, g5, g7, g9, g10, g11, g24, g25, g26, g31, g32, g33, hi, hw2, hyz1, hyo, hyk, hyb, k1, k1', d149, d914, d145, d514, d143, d314], by simp [go_sem, hcz, hco, huz, huo, d53, d35, hj, hw1, d95, d59, d93, d39, g3, g5, g7, g9, g10, g11, g24, g25, g26, g31, g32, g33, hi, hw2, hyz1, hyo, hyk, hyb, k1, k1', d149, d914, d145, d514, d143, d314], by simp [go_sem, hcz, hco, huz, huo, d53, d35, hj, hw1, d95, d59, d93, d39, g3, g5, g7, g9, g10, g11, g24, g25, g26, g31, g32, g33, hi, hw2, hyz1, hyo, hyk, hyb, k1, k1', d149, d914, d145, d514, d143, d314], by simp [go_sem, hcz, hco, huz, huo, d53, d35, hj, hw1, d95, d59, d93, d39, g3, g5, g7, g9, g10, g11, g24, g25, g26, g31, g32, g33, hi, hw2, hyz1, hyo, hyk, hyb, k1, k1', d149, d914, d145, d514, d143, d314], by simp [go_sem, hcz, hco, huz, huo, d53, d35, hj, hw1, d95, d59, d93, d39, g3, g5, g7, g9, g10, g11, g24, g25, g26, g31, g32, g33, hi, hw2, hyz1, hyo, hyk, hyb, k1, k1', d149, d914, d145, d514, d143, d314], by simp [go_sem, hcz, hco, huz, huo, d53, d35, hj, hw1, d95, d59, d93, d39, g3, g5, g7, g9, g10, g11, g24, g25, g26, g31, g32, g33, hi, hw2, hyz1, hyo, hyk, hyb, k1, k1', d149, d914, d145, d514, d143, d314], by simp [go_sem, hcz, hco, huz, huo, d53, d35, hj, hw1, d95, d59, d93, d39, g3, g5, g7, g9, g10, g11, g24, g25, g26, g31, g32, g33, hi, hw2, hyz1, hyo, hyk, hyb, k1, k1', d149, d914, d145, d514, d143, d314], by simp [go_sem, hcz, hco, huz, huo, d53, d35, hj, hw1, d95, d59, d93, d39, g3, g5, g7, g9, g10, g11, g24, g25, g26, g31, g32, g33, hi, hw2, hyz1, hyo, hyk, hyb, k1, k1', d149, d914, d145, d514, d143, d314], by omega, View.le_trans hDD (View.le_trans hD3 lq14), by rw [hy2]; simp, by rw [hn2]; simp⟩
      · have htn : tb u tag = none := by unfold tb; rw [hat]
        rw [htn] at hy2 hn2
        refine hR _ _ _ ?_; clear hR R
        iterate 3 (refine seqX_hide2 fun R hR => ?_; simp [go_sem, hcz, hco, huz, huo, d53, d35, hj, hw1, d95, d59, d93, d39, g3, g5, g7, g9, g10, g11, g24, g25, g26, g31, g32, g33, hi, hw2, hyz1, hyo, hyk, hyb]; refine hR _ _ _ ?_; clear hR R)
        refine seqX_hide2 fun R hR => ?_
        simp [go_sem, hcz, hco, huz, huo, d53, d35, hj, hw1, d95, d59, d93, d39, g3, g5, g7, g9, g10, g11, g24, g25, g26, g31, g32, g33, hi, hw2, hyz1, hyo, hyk, hyb]
        intro q14 hq14
        replace hP := hP.cons hq14
        clear hq14
        have d149 : q14 ≠ q9 := (hP.ne q9 (by simp [addrs])).1
        have d914 : q9 ≠ q14 := (hP.ne q9 (by simp [addrs])).2
        have d145 : q14 ≠ q5 := (hP.ne q5 (by simp [addrs])).1
        have d514 : q5 ≠ q14 := (hP.ne q5 (by simp [addrs])).2
        have d143 : q14 ≠ q3 := (hP.ne q3 (by simp [addrs])).1
        have d314 : q3 ≠ q14 := (hP.ne q3 (by simp [addrs])).2
        refine hR _ _ _ ?_; clear hR R
        refine seqX_hide2 fun R hR => ?_
        simp [go_sem, hcz, hco, huz, huo, d53, d35, hj, hw1, d95, d59, d93, d39, g3, g5, g7, g9, g10, g11, g24, g25, g26, g31, g32, g33, hi, hw2, hyz1, hyo, hyk, hyb, d149, d914, d145, d514, d143, d314]
        refine hR _ _ _ ?_; clear hR R
        (refine seqX_hide2 fun R hR => ?_; simp [go_sem, hcz, hco, huz, huo, d53, d35, hj, hw1, d95, d59, d93, d39, g3, g5, g7, g9, g10, g11, g24, g25, g26, g31, g32, g33, hi, hw2, hyz1, hyo, hyk, hyb, d149, d914, d145, d514, d143, d314]; refine hR _ _ _ ?_; clear hR R)
        rw [seqX_nil]
        refine hK _ _ _ ?_; clear hK K
        refine hN19 _ _ _ ?_
        refine xc_two fun N20 hN20 => ?_
        refine xc_reg1 6 rfl fun K hK => ?_
        simp only [show (List.range 6).map (·, true) = [(0, true), (1, true), (2, true), (3, true), (4, true), (5, true)] from rfl, rslv_cons, rslv_nil, List.getElem?_toArray, List.getElem?_cons_zero, List.getElem?_cons_succ, gres]
        iterate 6 (refine seqX_hide2 fun R hR => ?_; simp [go_sem, hcz, hco, huz, huo, d53, d35, hj, hw1, d95, d59, d93, d39, g3, g5, g7, g9, g10, g11, g24, g25, g26, g31, g32, g33, hi, hw2, hyz1, hyo, hyk, hyb, d149, d914, d145, d514, d143, d314]; refine hR _ _ _ ?_; clear hR R)
        rw [seqX_nil]
        refine hK _ _ _ ?_; clear hK K
        refine hN20 _ _ _ ?_
        refine xc_iffalse (by simp [go_sem, hcz, hco, huz, huo, d53, d35, hj, hw1, d95, d59, d93, d39, g3, g5, g7, g9, g10, g11, g24, g25, g26, g31, g32, g33, hi, hw2, hyz1, hyo, hyk, hyb, d149, d914, d145, d514, d143, d314]) ?_
        refine hN17 _ _ _ ?_
        refine xc_reg1 2 rfl fun K hK => ?_
        simp only [show (List.range 2).map (·, true) = [(0, true), (1, true)] from rfl, rslv_cons, rslv_nil, List.getElem?_toArray, List.getElem?_cons_zero, List.getElem?_cons_succ, gres]
        iterate 2 (refine seqX_hide2 fun R hR => ?_; simp [go_sem, hcz, hco, huz, huo, d53, d35, hj, hw1, d95, d59, d93, d39, g3, g5, g7, g9, g10, g11, g24, g25, g26, g31, g32, g33, hi, hw2, hyz1, hyo, hyk, hyb, d149, d914, d145, d514, d143, d314]; refine hR _ _ _ ?_; clear hR R)
        rw [seqX_nil]
        refine hK _ _ _ ?_; clear hK K
        refine sink_goal 0 hP rfl fun hPn lq14 nq14 => ?_
        clear hP; have hP := hPn; clear hPn
        simp only [List.eraseIdx_cons_zero, List.eraseIdx_cons_succ, addrs_cons, addrs_nil] at hP ⊢
        refine hJ2 (w.tags.length - (i + 1)) _ _ _ (by omega) ⟨i + 1, _, yes, no, rfl, rfl, rfl, hP, by simp [go_sem, hcz, hco, huz, huo, d53, d35, hj, hw1, d95, d59, d93, d39, g3, g5, g7, g9, g10, g11, g24, g25, g26, g31, g32, g33, hi, hw2, hyz1, hyo, hyk, hyb, d149, d914, d145, d514, d143, d314], by simp [go_sem, hcz, hco, huz, huo, d53, d35, hj, hw1, d95, d59, d93, d39, g3, g5, g7, g9, g10, g11, g24, g25, g26, g31, g32, g33, hi, hw2, hyz1, hyo, hyk, hyb, d149, d914, d145, d514, d143, d314], by simp [go_sem, hcz, hco, huz, huo, d53, d35, hj, hw1, d95, d59, d93, d39, g3, g5, g7, g9, g10, g11, g24, g25, g26, g31, g32, g33, hi, hw2, hyz1, hyo, hyk, hyb, d149, d914, d145, d514, d143, d314], by simp [go_sem, hcz, hco, huz, huo, d53, d35, hj, hw1, d95, d59, d93, d39, g3, g5, g7, g9, g10, g11, g24, g25, g26, g31, g32, g33, hi, hw2, hyz1, hyo, hyk, hyb, d149, d914, d145, d514, d143, d314], by simp [go_sem, hcz, hco, huz, huo, d53, d35, hj, hw1, d95, d59, d93, d39, g3, g5, g7, g9, g10, g11, g24, g25, g26, g31, g32, g33, hi, hw2, hyz1, hyo, hyk, hyb, d149, d914, d145, d514, d143, d314], by simp [go_sem, hcz, hco, huz, huo, d53, d35, hj, hw1, d95, d59, d93, d39, g3, g5, g7, g9, g10, g11, g24, g25, g26, g31, g32, g33, hi, hw2, hyz1, hyo, hyk, hyb, d149, d914, d145, d514, d143, d314], by simp [go_sem, hcz, hco, huz, huo, d53, d35, hj, hw1, d95, d59, d93, d39, g3, g5, g7, g9, g10, g11, g24, g25, g26, g31, g32, g33, hi, hw2, hyz1, hyo, hyk, hyb, d149, d914, d145, d514, d143, d314], by simp [go_sem, hcz, hco, huz, huo, d53, d35, hj, hw1, d95, d59, d93, d39, g3, g5, g7, g9, g10, g11, g24, g25, g26, g31, g32, g33, hi, hw2, hyz1, hyo, hyk, hyb, d149, d914, d145, d514, d143, d314], by simp [go_sem, hcz, hco, huz, huo, d53, d35, hj, hw1, d95, d59, d93, d39, g3, g5, g7, g9, g10, g11, g24, g25, g26, g31, g32, g33, hi, hw2, hyz1, hyo, hyk, hyb, d149, d914, d145, d514, d143, d314], by simp [go_sem, hcz, hco, huz, huo, d53, d35, hj, hw1, d95, d59, d93, d39, g3, g5, g7, g9, g10, g11, g24, g25, g26, g31, g32, g33, hi, hw2, hyz1, hyo, hyk, hyb, d149, d914, d145, d514, d143, d314], by simp [go_sem, hcz, hco, huz, huo, d53, d35, hj, hw1, d95, d59, d93, d39, g3, g5, g7, g9, g10, g11, g24, g25, g26, g31, g32, g33, hi, hw2, hyz1, hyo, hyk, hyb, d149, d914, d145, d514, d143, d314], by simp [go_sem, hcz, hco, huz, huo, d53, d35, hj, hw1, d95, d59, d93, d39, g3, g5, g7, g9, g10, g11, g24, g25, g26, g31, g32, g33, hi, hw2, hyz1, hyo, hyk, hyb, d149, d914, d145, d514, d143, d314], by omega, View.le_trans hDD (View.le_trans hD3 lq14), by rw [hy2]; simp, by rw [hn2]; simp⟩
    · skip
      rw [List.take_of_length_le (by omega)] at hy hn
      have hO2 := hO.le hDD
      have hcw : IsW B (tagW u w) (wc w.name w.ver w.cond w.alias (.slice b1 w.tags.length c1) (yes || !no) (.slice b2 w.imps.length c2)) := ⟨_, _, by rw [hy, hn]; rfl, ht.le hAB, Imps.le hAB hti⟩
      cases yes with
      | true =>
        refine xc_two fun N15 hN15 => ?_
        refine xc_reg1 1 rfl fun K hK => ?_
        simp only [show (List.range 1).map (·, true) = [(0, true)] from rfl, rslv_cons, rslv_nil, List.getElem?_toArray, List.getElem?_cons_zero, List.getElem?_cons_succ, gres]
        (refine seqX_hide2 fun R hR => ?_; simp [go_sem, hcz, hco, huz, huo, d53, d35, hj, hw1, d95, d59, d93, d39, g3, g5, g7, g9, g10, g11, g24, g25, g26, g31, g32, g33, hi]; refine hR _ _ _ ?_; clear hR R)
        rw [seqX_nil]
        refine hK _ _ _ ?_; clear hK K
        refine hN15 _ _ _ ?_
        refine xc_two fun N16 hN16 => ?_
        refine xc_iffalse (by simp [go_sem, hcz, hco, huz, huo, d53, d35, hj, hw1, d95, d59, d93, d39, g3, g5, g7, g9, g10, g11, g24, g25, g26, g31, g32, g33, hi]) ?_
        refine hX2 _ _ _ _ ?_
        refine hN13 _ _ _ ?_
        refine xc_two fun N17 hN17 => ?_
        refine xc_reg1 7 rfl fun K hK => ?_
        simp only [show (List.range 7).map (·, true) = [(0, true), (1, true), (2, true), (3, true), (4, true), (5, true), (6, true)] from rfl, rslv_cons, rslv_nil, List.getElem?_toArray, List.getElem?_cons_zero, List.getElem?_cons_succ, gres]
        iterate 6 (refine seqX_hide2 fun R hR => ?_; simp [go_sem, hcz, hco, huz, huo, d53, d35, hj, hw1, d95, d59, d93, d39, g3, g5, g7, g9, g10, g11, g24, g25, g26, g31, g32, g33, hi]; refine hR _ _ _ ?_; clear hR R)
        refine seqX_hide2 fun R hR => ?_
        simp [go_sem, hcz, hco, huz, huo, d53, d35, hj, hw1, d95, d59, d93, d39, g3, g5, g7, g9, g10, g11, g24, g25, g26, g31, g32, g33, hi]
        refine hR _ _ _ ?_; clear hR R
        rw [seqX_nil]
        refine hK _ _ _ ?_; clear hK K
        refine hN17 _ _ _ ?_
        refine xc_reg1 5 rfl fun K hK => ?_
        simp only [show (List.range 5).map (·, true) = [(0, true), (1, true), (2, true), (3, true), (4, true)] from rfl, rslv_cons, rslv_nil, List.getElem?_toArray, List.getElem?_cons_zero, List.getElem?_cons_succ, gres]
        iterate 2 (refine seqX_hide2 fun R hR => ?_; simp [go_sem, hcz, hco, huz, huo, d53, d35, hj, hw1, d95, d59, d93, d39, g3, g5, g7, g9, g10, g11, g24, g25, g26, g31, g32, g33, hi]; refine hR _ _ _ ?_; clear hR R)
        refine seqX_hide2 fun R hR => ?_
        simp [go_sem, hcz, hco, huz, huo, d53, d35, hj, hw1, d95, d59, d93, d39, g3, g5, g7, g9, g10, g11, g24, g25, g26, g31, g32, g33, hi]
        intro q69 hq69
        replace hP := hP.cons hq69
        clear hq69
        have d699 : q69 ≠ q9 := (hP.ne q9 (by simp [addrs])).1
        have d969 : q9 ≠ q69 := (hP.ne q9 (by simp [addrs])).2
        have d695 : q69 ≠ q5 := (hP.ne q5 (by simp [addrs])).1
        have d569 : q5 ≠ q69 := (hP.ne q5 (by simp [addrs])).2
        have d693 : q69 ≠ q3 := (hP.ne q3 (by simp [addrs])).1
        have d369 : q3 ≠ q69 := (hP.ne q3 (by simp [addrs])).2
        refine hR _ _ _ ?_; clear hR R
        refine seqX_hide2 fun R hR => ?_
        simp [go_sem, hcz, hco, huz, huo, d53, d35, hj, hw1, d95, d59, d93, d39, g3, g5, g7, g9, g10, g11, g24, g25, g26, g31, g32, g33, hi, d699, d969, d695, d569, d693, d369]
        refine app_want hP hO2 hBD2 (by simp [appended, go_sem]) hcw rfl (by omega) ?_
        clear hP
        rintro v1 D3 hA3 k3 e3 hP
        refine hR _ _ _ ?_; clear hR R
        (refine seqX_hide2 fun R hR => ?_; simp [go_sem, hcz, hco, huz, huo, d53, d35, hj, hw1, d95, d59, d93, d39, g3, g5, g7, g9, g10, g11, g24, g25, g26, g31, g32, g33, hi, d699, d969, d695, d569, d693, d369]; refine hR _ _ _ ?_; clear hR R)
        rw [seqX_nil]
        refine hK _ _ _ ?_; clear hK K
        refine hN10 _ _ _ ?_
        refine xc_reg1 2 rfl fun K hK => ?_
        simp only [show (List.range 2).map (·, true) = [(0, true), (1, true)] from rfl, rslv_cons, rslv_nil, List.getElem?_toArray, List.getElem?_cons_zero, List.getElem?_cons_succ, gres]
        iterate 2 (refine seqX_hide2 fun R hR => ?_; simp [go_sem, hcz, hco, huz, huo, d53, d35, hj, hw1, d95, d59, d93, d39, g3, g5, g7, g9, g10, g11, g24, g25, g26, g31, g32, g33, hi, d699, d969, d695, d569, d693, d369]; refine hR _ _ _ ?_; clear hR R)
        rw [seqX_nil]
        refine hK _ _ _ ?_; clear hK K
        refine sink_goal 0 hP rfl fun hPn lq69 nq69 => ?_
        clear hP; have hP := hPn; clear hPn
        simp only [List.eraseIdx_cons_zero, List.eraseIdx_cons_succ, addrs_cons, addrs_nil] at hP ⊢
        refine sink_goal 0 hP rfl fun hPn lq9 nq9 => ?_
        clear hP; have hP := hPn; clear hPn
        simp only [List.eraseIdx_cons_zero, List.eraseIdx_cons_succ, addrs_cons, addrs_nil] at hP ⊢
        have hle2 := View.le_trans lq69 lq9
        refine hJ1 (l.length - (j + 1)) _ _ _ (by omega) ⟨j + 1, _, v1, acc ++ [tagW u w], _, rfl, rfl, rfl, hP, by simp [go_sem, hcz, hco, huz, huo, d53, d35, hj, hw1, d95, d59, d93, d39, g3, g5, g7, g9, g10, g11, g24, g25, g26, g31, g32, g33, hi, d699, d969, d695, d569, d693, d369], by simp [go_sem, hcz, hco, huz, huo, d53, d35, hj, hw1, d95, d59, d93, d39, g3, g5, g7, g9, g10, g11, g24, g25, g26, g31, g32, g33, hi, d699, d969, d695, d569, d693, d369], by simp [go_sem, hcz, hco, huz, huo, d53, d35, hj, hw1, d95, d59, d93, d39, g3, g5, g7, g9, g10, g11, g24, g25, g26, g31, g32, g33, hi, d699, d969, d695, d569, d693, d369], by simp [go_sem, hcz, hco, huz, huo, d53, d35, hj, hw1, d95, d59, d93, d39, g3, g5, g7, g9, g10, g11, g24, g25, g26, g31, g32, g33, hi, d699, d969, d695, d569, d693, d369], by simp [go_sem, hcz, hco, huz, huo, d53, d35, hj, hw1, d95, d59, d93, d39, g3, g5, g7, g9, g10, g11, g24, g25, g26, g31, g32, g33, hi, d699, d969, d695, d569, d693, d369], by simp [go_sem, hcz, hco, huz, huo, d53, d35, hj, hw1, d95, d59, d93, d39, g3, g5, g7, g9, g10, g11, g24, g25, g26, g31, g32, g33, hi, d699, d969, d695, d569, d693, d369], by omega, View.le_trans hA3 hle2, by rw [List.length_append]; exact k3.le hle2, hp.push hO.row.len rfl hcw, by simp [hac], by rw [htk, hwk]; simp⟩
      | false =>
        cases no with
        | true =>
          refine xc_two fun N15 hN15 => ?_
          refine xc_reg1 1 rfl fun K hK => ?_
          simp only [show (List.range 1).map (·, true) = [(0, true)] from rfl, rslv_cons, rslv_nil, List.getElem?_toArray, List.getElem?_cons_zero, List.getElem?_cons_succ, gres]
          (refine seqX_hide2 fun R hR => ?_; simp [go_sem, hcz, hco, huz, huo, d53, d35, hj, hw1, d95, d59, d93, d39, g3, g5, g7, g9, g10, g11, g24, g25, g26, g31, g32, g33, hi]; refine hR _ _ _ ?_; clear hR R)
          rw [seqX_nil]
          refine hK _ _ _ ?_; clear hK K
          refine hN15 _ _ _ ?_
          refine xc_two fun N16 hN16 => ?_
          refine xc_iffalse (by simp [go_sem, hcz, hco, huz, huo, d53, d35, hj, hw1, d95, d59, d93, d39, g3, g5, g7, g9, g10, g11, g24, g25, g26, g31, g32, g33, hi]) ?_
          refine hX2 _ _ _ _ ?_
          refine hN13 _ _ _ ?_
          refine xc_two fun N17 hN17 => ?_
          refine xc_reg1 7 rfl fun K hK => ?_
          simp only [show (List.range 7).map (·, true) = [(0, true), (1, true), (2, true), (3, true), (4, true), (5, true), (6, true)] from rfl, rslv_cons, rslv_nil, List.getElem?_toArray, List.getElem?_cons_zero, List.getElem?_cons_succ, gres]
          iterate 6 (refine seqX_hide2 fun R hR => ?_; simp [go_sem, hcz, hco, huz, huo, d53, d35, hj, hw1, d95, d59, d93, d39, g3, g5, g7, g9, g10, g11, g24, g25, g26, g31, g32, g33, hi]; refine hR _ _ _ ?_; clear hR R)
          refine seqX_hide2 fun R hR => ?_
          simp [go_sem, hcz, hco, huz, huo, d53, d35, hj, hw1, d95, d59, d93, d39, g3, g5, g7, g9, g10, g11, g24, g25, g26, g31, g32, g33, hi]
          refine hR _ _ _ ?_; clear hR R
          rw [seqX_nil]
          refine hK _ _ _ ?_; clear hK K
          refine hN17 _ _ _ ?_
          refine xc_reg1 5 rfl fun K hK => ?_
          simp only [show (List.range 5).map (·, true) = [(0, true), (1, true), (2, true), (3, true), (4, true)] from rfl, rslv_cons, rslv_nil, List.getElem?_toArray, List.getElem?_cons_zero, List.getElem?_cons_succ, gres]
          iterate 2 (refine seqX_hide2 fun R hR => ?_; simp [go_sem, hcz, hco, huz, huo, d53, d35, hj, hw1, d95, d59, d93, d39, g3, g5, g7, g9, g10, g11, g24, g25, g26, g31, g32, g33, hi]; refine hR _ _ _ ?_; clear hR R)
          refine seqX_hide2 fun R hR => ?_
          simp [go_sem, hcz, hco, huz, huo, d53, d35, hj, hw1, d95, d59, d93, d39, g3, g5, g7, g9, g10, g11, g24, g25, g26, g31, g32, g33, hi]
          intro q69 hq69
          replace hP := hP.cons hq69
          clear hq69
          have d699 : q69 ≠ q9 := (hP.ne q9 (by simp [addrs])).1
          have d969 : q9 ≠ q69 := (hP.ne q9 (by simp [addrs])).2
          have d695 : q69 ≠ q5 := (hP.ne q5 (by simp [addrs])).1
          have d569 : q5 ≠ q69 := (hP.ne q5 (by simp [addrs])).2
          have d693 : q69 ≠ q3 := (hP.ne q3 (by simp [addrs])).1
          have d369 : q3 ≠ q69 := (hP.ne q3 (by simp [addrs])).2
          refine hR _ _ _ ?_; clear hR R
          refine seqX_hide2 fun R hR => ?_
          simp [go_sem, hcz, hco, huz, huo, d53, d35, hj, hw1, d95, d59, d93, d39, g3, g5, g7, g9, g10, g11, g24, g25, g26, g31, g32, g33, hi, d699, d969, d695, d569, d693, d369]
          refine app_want hP hO2 hBD2 (by simp [appended, go_sem]) hcw rfl (by omega) ?_
          clear hP
          rintro v1 D3 hA3 k3 e3 hP
          refine hR _ _ _ ?_; clear hR R
          (refine seqX_hide2 fun R hR => ?_; simp [go_sem, hcz, hco, huz, huo, d53, d35, hj, hw1, d95, d59, d93, d39, g3, g5, g7, g9, g10, g11, g24, g25, g26, g31, g32, g33, hi, d699, d969, d695, d569, d693, d369]; refine hR _ _ _ ?_; clear hR R)
          rw [seqX_nil]
          refine hK _ _ _ ?_; clear hK K
          refine hN10 _ _ _ ?_
          refine xc_reg1 2 rfl fun K hK => ?_
          simp only [show (List.range 2).map (·, true) = [(0, true), (1, true)] from rfl, rslv_cons, rslv_nil, List.getElem?_toArray, List.getElem?_cons_zero, List.getElem?_cons_succ, gres]
          iterate 2 (refine seqX_hide2 fun R hR => ?_; simp [go_sem, hcz, hco, huz, huo, d53, d35, hj, hw1, d95, d59, d93, d39, g3, g5, g7, g9, g10, g11, g24, g25, g26, g31, g32, g33, hi, d699, d969, d695, d569, d693, d369]; refine hR _ _ _ ?_; clear hR R)
          rw [seqX_nil]
          refine hK _ _ _ ?_; clear hK K
          refine sink_goal 0 hP rfl fun hPn lq69 nq69 => ?_
          clear hP; have hP := hPn; clear hPn
          simp only [List.eraseIdx_cons_zero, List.eraseIdx_cons_succ, addrs_cons, addrs_nil] at hP ⊢
          refine sink_goal 0 hP rfl fun hPn lq9 nq9 => ?_
          clear hP; have hP := hPn; clear hPn
          simp only [List.eraseIdx_cons_zero, List.eraseIdx_cons_succ, addrs_cons, addrs_nil] at hP ⊢
          have hle2 := View.le_trans lq69 lq9
          refine hJ1 (l.length - (j + 1)) _ _ _ (by omega) ⟨j + 1, _, v1, acc ++ [tagW u w], _, rfl, rfl, rfl, hP, by simp [go_sem, hcz, hco, huz, huo, d53, d35, hj, hw1, d95, d59, d93, d39, g3, g5, g7, g9, g10, g11, g24, g25, g26, g31, g32, g33, hi, d699, d969, d695, d569, d693, d369], by simp [go_sem, hcz, hco, huz, huo, d53, d35, hj, hw1, d95, d59, d93, d39, g3, g5, g7, g9, g10, g11, g24, g25, g26, g31, g32, g33, hi, d699, d969, d695, d569, d693, d369], by simp [go_sem, hcz, hco, huz, huo, d53, d35, hj, hw1, d95, d59, d93, d39, g3, g5, g7, g9, g10, g11, g24, g25, g26, g31, g32, g33, hi, d699, d969, d695, d569, d693, d369], by simp [go_sem, hcz, hco, huz, huo, d53, d35, hj, hw1, d95, d59, d93, d39, g3, g5, g7, g9, g10, g11, g24, g25, g26, g31, g32, g33, hi, d699, d969, d695, d569, d693, d369], by simp [go_sem, hcz, hco, huz, huo, d53, d35, hj, hw1, d95, d59, d93, d39, g3, g5, g7, g9, g10, g11, g24, g25, g26, g31, g32, g33, hi, d699, d969, d695, d569, d693, d369], by simp [go_sem, hcz, hco, huz, huo, d53, d35, hj, hw1, d95, d59, d93, d39, g3, g5, g7, g9, g10, g11, g24, g25, g26, g31, g32, g33, hi, d699, d969, d695, d569, d693, d369], by omega, View.le_trans hA3 hle2, by rw [List.length_append]; exact k3.le hle2, hp.push hO.row.len rfl hcw, by simp [hac], by rw [htk, hwk]; simp⟩
        | false =>
          refine xc_two fun N15 hN15 => ?_
          refine xc_reg1 1 rfl fun K hK => ?_
          simp only [show (List.range 1).map (·, true) = [(0, true)] from rfl, rslv_cons, rslv_nil, List.getElem?_toArray, List.getElem?_cons_zero, List.getElem?_cons_succ, gres]
          (refine seqX_hide2 fun R hR => ?_; simp [go_sem, hcz, hco, huz, huo, d53, d35, hj, hw1, d95, d59, d93, d39, g3, g5, g7, g9, g10, g11, g24, g25, g26, g31, g32, g33, hi]; refine hR _ _ _ ?_; clear hR R)
          rw [seqX_nil]
          refine hK _ _ _ ?_; clear hK K
          refine hN15 _ _ _ ?_
          refine xc_two fun N16 hN16 => ?_
          refine xc_iffalse (by simp [go_sem, hcz, hco, huz, huo, d53, d35, hj, hw1, d95, d59, d93, d39, g3, g5, g7, g9, g10, g11, g24, g25, g26, g31, g32, g33, hi]) ?_
          refine hX2 _ _ _ _ ?_
          refine hN13 _ _ _ ?_
          refine xc_two fun N17 hN17 => ?_
          refine xc_reg1 7 rfl fun K hK => ?_
          simp only [show (List.range 7).map (·, true) = [(0, true), (1, true), (2, true), (3, true), (4, true), (5, true), (6, true)] from rfl, rslv_cons, rslv_nil, List.getElem?_toArray, List.getElem?_cons_zero, List.getElem?_cons_succ, gres]
          iterate 6 (refine seqX_hide2 fun R hR => ?_; simp [go_sem, hcz, hco, huz, huo, d53, d35, hj, hw1, d95, d59, d93, d39, g3, g5, g7, g9, g10, g11, g24, g25, g26, g31, g32, g33, hi]; refine hR _ _ _ ?_; clear hR R)
          refine seqX_hide2 fun R hR => ?_
          simp [go_sem, hcz, hco, huz, huo, d53, d35, hj, hw1, d95, d59, d93, d39, g3, g5, g7, g9, g10, g11, g24, g25, g26, g31, g32, g33, hi]
          refine hR _ _ _ ?_; clear hR R
          rw [seqX_nil]
          refine hK _ _ _ ?_; clear hK K
          refine hN17 _ _ _ ?_
          refine xc_reg1 5 rfl fun K hK => ?_
          simp only [show (List.range 5).map (·, true) = [(0, true), (1, true), (2, true), (3, true), (4, true)] from rfl, rslv_cons, rslv_nil, List.getElem?_toArray, List.getElem?_cons_zero, List.getElem?_cons_succ, gres]
          iterate 2 (refine seqX_hide2 fun R hR => ?_; simp [go_sem, hcz, hco, huz, huo, d53, d35, hj, hw1, d95, d59, d93, d39, g3, g5, g7, g9, g10, g11, g24, g25, g26, g31, g32, g33, hi]; refine hR _ _ _ ?_; clear hR R)
          refine seqX_hide2 fun R hR => ?_
          simp [go_sem, hcz, hco, huz, huo, d53, d35, hj, hw1, d95, d59, d93, d39, g3, g5, g7, g9, g10, g11, g24, g25, g26, g31, g32, g33, hi]
          intro q69 hq69
          replace hP := hP.cons hq69
          clear hq69
          have d699 : q69 ≠ q9 := (hP.ne q9 (by simp [addrs])).1
          have d969 : q9 ≠ q69 := (hP.ne q9 (by simp [addrs])).2
          have d695 : q69 ≠ q5 := (hP.ne q5 (by simp [addrs])).1
          have d569 : q5 ≠ q69 := (hP.ne q5 (by simp [addrs])).2
          have d693 : q69 ≠ q3 := (hP.ne q3 (by simp [addrs])).1
          have d369 : q3 ≠ q69 := (hP.ne q3 (by simp [addrs])).2
          refine hR _ _ _ ?_; clear hR R
          refine seqX_hide2 fun R hR => ?_
          simp [go_sem, hcz, hco, huz, huo, d53, d35, hj, hw1, d95, d59, d93, d39, g3, g5, g7, g9, g10, g11, g24, g25, g26, g31, g32, g33, hi, d699, d969, d695, d569, d693, d369]
          refine app_want hP hO2 hBD2 (by simp [appended, go_sem]) hcw rfl (by omega) ?_
          clear hP
          rintro v1 D3 hA3 k3 e3 hP
          refine hR _ _ _ ?_; clear hR R
          (refine seqX_hide2 fun R hR => ?_; simp [go_sem, hcz, hco, huz, huo, d53, d35, hj, hw1, d95, d59, d93, d39, g3, g5, g7, g9, g10, g11, g24, g25, g26, g31, g32, g33, hi, d699, d969, d695, d569, d693, d369]; refine hR _ _ _ ?_; clear hR R)
          rw [seqX_nil]
          refine hK _ _ _ ?_; clear hK K
          refine hN10 _ _ _ ?_
          refine xc_reg1 2 rfl fun K hK => ?_
          simp only [show (List.range 2).map (·, true) = [(0, true), (1, true)] from rfl, rslv_cons, rslv_nil, List.getElem?_toArray, List.getElem?_cons_zero, List.getElem?_cons_succ, gres]
          iterate 2 (refine seqX_hide2 fun R hR => ?_; simp [go_sem, hcz, hco, huz, huo, d53, d35, hj, hw1, d95, d59, d93, d39, g3, g5, g7, g9, g10, g11, g24, g25, g26, g31, g32, g33, hi, d699, d969, d695, d569, d693, d369]; refine hR _ _ _ ?_; clear hR R)
          rw [seqX_nil]
          refine hK _ _ _ ?_; clear hK K
          refine sink_goal 0 hP rfl fun hPn lq69 nq69 => ?_
          clear hP; have hP := hPn; clear hPn
          simp only [List.eraseIdx_cons_zero, List.eraseIdx_cons_succ, addrs_cons, addrs_nil] at hP ⊢
          refine sink_goal 0 hP rfl fun hPn lq9 nq9 => ?_
          clear hP; have hP := hPn; clear hPn
          simp only [List.eraseIdx_cons_zero, List.eraseIdx_cons_succ, addrs_cons, addrs_nil] at hP ⊢
          have hle2 := View.le_trans lq69 lq9
          refine hJ1 (l.length - (j + 1)) _ _ _ (by omega) ⟨j + 1, _, v1, acc ++ [tagW u w], _, rfl, rfl, rfl, hP, by simp [go_sem, hcz, hco, huz, huo, d53, d35, hj, hw1, d95, d59, d93, d39, g3, g5, g7, g9, g10, g11, g24, g25, g26, g31, g32, g33, hi, d699, d969, d695, d569, d693, d369], by simp [go_sem, hcz, hco, huz, huo, d53, d35, hj, hw1, d95, d59, d93, d39, g3, g5, g7, g9, g10, g11, g24, g25, g26, g31, g32, g33, hi, d699, d969, d695, d569, d693, d369], by simp [go_sem, hcz, hco, huz, huo, d53, d35, hj, hw1, d95, d59, d93, d39, g3, g5, g7, g9, g10, g11, g24, g25, g26, g31, g32, g33, hi, d699, d969, d695, d569, d693, d369], by simp [go_sem, hcz, hco, huz, huo, d53, d35, hj, hw1, d95, d59, d93, d39, g3, g5, g7, g9, g10, g11, g24, g25, g26, g31, g32, g33, hi, d699, d969, d695, d569, d693, d369], by simp [go_sem, hcz, hco, huz, huo, d53, d35, hj, hw1, d95, d59, d93, d39, g3, g5, g7, g9, g10, g11, g24, g25, g26, g31, g32, g33, hi, d699, d969, d695, d569, d693, d369], by simp [go_sem, hcz, hco, huz, huo, d53, d35, hj, hw1, d95, d59, d93, d39, g3, g5, g7, g9, g10, g11, g24, g25, g26, g31, g32, g33, hi, d699, d969, d695, d569, d693, d369], by omega, View.le_trans hA3 hle2, by rw [List.length_append]; exact k3.le hle2, hp.push hO.row.len rfl hcw, by simp [hac], by rw [htk, hwk]; simp⟩
  · skip
    rw [List.take_of_length_le (by omega)] at hwk
    refine xc_two fun N8 hN8 => ?_
    refine xc_reg1 1 rfl fun K hK => ?_
    simp only [show (List.range 1).map (·, true) = [(0, true)] from rfl, rslv_cons, rslv_nil, List.getElem?_toArray, List.getElem?_cons_zero, List.getElem?_cons_succ, gres]
    (refine seqX_hide2 fun R hR => ?_; simp [go_sem, hcz, hco, huz, huo, d53, d35, g3, g5, g7, g24, g25, g26, hj]; refine hR _ _ _ ?_; clear hR R)
    rw [seqX_nil]
    refine hK _ _ _ ?_; clear hK K
    refine hN8 _ _ _ ?_
    refine xc_two fun N9 hN9 => ?_
    refine xc_iffalse (by simp [go_sem, hcz, hco, huz, huo, d53, d35, g3, g5, g7, g24, g25, g26]) ?_
    refine hX1 _ _ _ _ ?_
    refine hN6 _ _ _ ?_
    refine xc_two fun N10 hN10 => ?_
    refine xc_reg1 2 rfl fun K hK => ?_
    simp only [show (List.range 2).map (·, true) = [(0, true), (1, true)] from rfl, rslv_cons, rslv_nil, List.getElem?_toArray, List.getElem?_cons_zero, List.getElem?_cons_succ, gres]
    iterate 2 (refine seqX_hide2 fun R hR => ?_; simp [go_sem, hcz, hco, huz, huo, d53, d35, g3, g5, g7, g24, g25, g26]; refine hR _ _ _ ?_; clear hR R)
    rw [seqX_nil]
    refine hK _ _ _ ?_; clear hK K
    refine hN10 _ _ _ ?_
    simp [go_sem, hcz, hco, huz, huo, d53, d35, g3, g5, g7, g24, g25, g26]
    simp only [hTR, hw]
    rw [← hwk]
    refine ⟨?_, ?_⟩
    · have hW : Wants D uv acc := Own.elems hO fun j hj => let ⟨c, h1, h2, h3⟩ := hp j hj; ⟨c, h1, h2, h3.le hBD⟩
      refine Wants.le ?_ hW
      exact le_ov hP
    · exact View.le_trans hAB (View.le_trans hBD (le_ov hP))
end Go.Proofs.YtogfpbnbojhpoaaV

/- Charts: processDependencyTags. -/
import Derived.Test.YtogfpbnbojhpoaaWF
import Derived.Test.YtogfpbnbojhpoaaTK
namespace Go.Proofs.YtogfpbnbojhpoaaV
open Go.RowKit
set_option linter.unusedSimpArgs false
set_option linter.unusedVariables false
theorem dep_store {D : View} {p : Nat} {n v c a : ByteArray} {tg iv : Value} {e : Bool} (hc : D p = some (.cells (dc n v c a tg e iv) 95 (0, 0))) (b : Bool) :
    stB Try.prog 4 (.pointer (some ⟨p, 5, none⟩)) (.bool b) D [] = some (D.set p (.cells (dc n v c a tg b iv) 95 (0, 0))) := by
  unfold stB
  exact xstore_field (P := Try.prog) (t := 4) ti4 hc (by simp) rfl
theorem map_set {α : Type} {f : α → α} {l : List α} {j : Nat} (h : j < l.length) : ((l.take j).map f ++ l.drop j).set j (f l[j]) = (l.take (j + 1)).map f ++ l.drop (j + 1) := by
  have hl : ((l.take j).map f).length = j := by simp; omega
  rw [List.set_append_right _ _ (by omega), hl, Nat.sub_self, List.drop_eq_getElem_cons h, List.set_cons_zero, List.take_succ_eq_append_getElem h, List.map_append, List.append_assoc]
  rfl
theorem map_at {α : Type} {f : α → α} {l : List α} {j : Nat} (h : j < l.length) (h2 : j < ((l.take j).map f ++ l.drop j).length) : ((l.take j).map f ++ l.drop j)[j] = l[j] := by
  have hl : ((l.take j).map f).length = j := by simp; omega
  apply Option.some.inj
  rw [← List.getElem?_eq_getElem h2, List.getElem?_append_right (by omega), hl, Nat.sub_self, List.getElem?_drop, Nat.add_zero, List.getElem?_eq_getElem h]
/-- What a map's value says as a tag. -/
inductive TagOf : Option Value → Option Bool → Prop
  | no : TagOf none none
  | yes (b : Bool) : TagOf (some (.iface 4 (.bool b))) (some b)
  | nil : TagOf (some .nilIface) none
  | other (t : TypeId) (y : Value) : t ≠ 4 → TagOf (some (.iface t y)) none
theorem anyV_tag {E : View} {y : RV} {x : Value} (h : AnyV E y x) : TagOf (some x) (if kindOf y = 1 then some (boolOf y) else none) := by
  obtain ⟨k, b, i, f, t, keys, list⟩ := y
  rw [AnyV] at h
  have hn : k ≠ 1 → (if kindOf (.mk k b i f t keys list) = 1 then some (boolOf (.mk k b i f t keys list)) else none) = none := fun h => if_neg h
  have hy : k = 1 → (if kindOf (.mk k b i f t keys list) = 1 then some (boolOf (.mk k b i f t keys list)) else none) = some b := fun h => if_pos h
  rcases h with ⟨hk, rfl⟩ | ⟨hk, rfl⟩ | ⟨hk, rfl⟩ | ⟨hk, rfl⟩ | ⟨hk, rfl⟩ | ⟨hk, sl, vals', rfl, _⟩ | ⟨hk, r', vals', rfl, _⟩
  · rw [hn (by omega)]; exact .nil
  · rw [hy hk]; exact .yes b
  all_goals
    rw [hn (by omega)]; exact .other _ _ (by decide)
theorem tab_tag {E : View} {w : RV} {r lv : Nat} (hT : TabV E w r) (h7 : kindOf w = 7) (hG : Good w lv) : ∃ o f, E r = some o ∧ MF o f ∧ ∀ s, TagOf (f s) (tb w s) := by
  obtain ⟨b, i, f, t, keys, list, rfl, hr, hl, -⟩ := good7 h7 hG
  unfold TabV at hT
  rw [AnyV] at hT
  rcases hT with h | h | h | h | h | ⟨h, _⟩ | ⟨_, r', vals, h, hM, hvl, hvs⟩
  · exact absurd h.1 (by decide)
  · exact absurd h.1 (by decide)
  · exact absurd h.1 (by decide)
  · exact absurd h.1 (by decide)
  · exact absurd h.1 (by decide)
  · exact absurd h (by decide)
  simp only [Value.iface.injEq, Value.map.injEq, Option.some.injEq, true_and] at h
  subst h
  obtain ⟨o, g, h1, h2, h3⟩ := hM.mf (zip_distinct hr)
  refine ⟨o, g, h1, h2, fun s => ?_⟩
  have hat : at' (.mk 7 b i f t keys list) s = atR s keys list := by
    unfold at'
    simp
  unfold tb
  rw [hat]
  cases ha : atR s keys list with
  | none =>
    have hns := atR_none ha (by omega)
    have : g s = none := by
      cases hg : g s with
      | none => rfl
      | some x => exact absurd (List.of_mem_zip ((h3 _ _).2 hg)).1 hns
    rw [this]
    exact .no
  | some u =>
    obtain ⟨j, g1, g2, g3, g4⟩ := atR_some ha
    obtain ⟨y, hy, hyV⟩ := hvs j g2
    have := (h3 s y).1 (g3 ▸ zip_mem g1 hy)
    rw [this]
    rw [g4] at hyV
    exact anyV_tag hyV
set_option maxRecDepth 20000 in
set_option maxHeartbeats 8000000 in
theorem process65 (A : View) (u : Value) (ps : List Nat) (l : List Wt) (v : RV) (r lv : Nat) (hdep : Deps A ps l) (hrow : Row (Er A ps) 1 u ps.length (ps.map ptr0)) (hT : TabV (Er A ps) v r) (h7 : kindOf v = 7) (hG : Good v lv) (hll : l.length ≤ 1000) (htl : ∀ w ∈ l, w.tags.length ≤ 1000) :
    VCalls Try.prog 65 #[u, .map (some r)] A fun x A' => Deps A' ps (tagsR v l) ∧ Er A ps ≤ Er A' ps := by
  have hpl := hdep.len
  have hTR : tagsR v l = match walkT v (parts tkey) with
    | none => l
    | some u => l.map (tagW u) := rfl
  have hrow' := hrow
  rcases hrow with ⟨a, cap, rfl, -⟩ | ⟨rfl, hn, -⟩
  rotate_left
  · have hl0 : l = [] := List.length_eq_zero_iff.1 (by omega)
    subst hl0
    refine xcalls Try.func65 rfl (by simp [Try.ntmps65]) ?_
    simp only [Try.f65]
    have hP : Priv A (addrs []) := Priv.nil A
    show xc _ _ _ _ _ _ (ov A [])
    refine xc_two fun N1 hN1 => ?_
    refine xc_two fun N2 hN2 => ?_
    refine xc_reg1 2 rfl fun K hK => ?_
    simp only [show (List.range 2).map (·, true) = [(0, true), (1, true)] from rfl, rslv_cons, rslv_nil, List.getElem?_toArray, List.getElem?_cons_zero, List.getElem?_cons_succ, gres]
    iterate 2 (refine seqX_hide2 fun R hR => ?_; simp [go_sem]; refine hR _ _ _ ?_; clear hR R)
    rw [seqX_nil]
    refine hK _ _ _ ?_; clear hK K
    refine hN2 _ _ _ ?_
    refine xc_iftrue (by simp [go_sem]) ?_
    simp [go_sem]
    refine ⟨?_, View.le_refl _⟩
    rw [hTR]
    split <;> exact hdep
  refine xcalls Try.func65 rfl (by simp [Try.ntmps65]) ?_
  simp only [Try.f65]
  have hP : Priv A (addrs []) := Priv.nil A
  show xc _ _ _ _ _ _ (ov A [])
  refine xc_two fun N1 hN1 => ?_
  refine xc_two fun N2 hN2 => ?_
  refine xc_reg1 2 rfl fun K hK => ?_
  simp only [show (List.range 2).map (·, true) = [(0, true), (1, true)] from rfl, rslv_cons, rslv_nil, List.getElem?_toArray, List.getElem?_cons_zero, List.getElem?_cons_succ, gres]
  iterate 2 (refine seqX_hide2 fun R hR => ?_; simp [go_sem]; refine hR _ _ _ ?_; clear hR R)
  rw [seqX_nil]
  refine hK _ _ _ ?_; clear hK K
  refine hN2 _ _ _ ?_
  refine xc_iffalse (by simp [go_sem]) ?_
  refine hN1 _ _ _ ?_
  refine xc_two fun N3 hN3 => ?_
  refine xc_reg1 7 rfl fun K hK => ?_
  simp only [show (List.range 7).map (·, true) = [(0, true), (1, true), (2, true), (3, true), (4, true), (5, true), (6, true)] from rfl, rslv_cons, rslv_nil, List.getElem?_toArray, List.getElem?_cons_zero, List.getElem?_cons_succ, gres]
  (refine seqX_hide2 fun R hR => ?_; simp [go_sem]; refine hR _ _ _ ?_; clear hR R)
  refine seqX_hide2 fun R hR => ?_
  simp [go_sem]
  refine call_sub hP (Er.sub A ps) (table49 (Er A ps) v r lv tkey hT h7 hG (by decide)) ?_
  clear hP
  rintro x D0 B ⟨hR, hAD⟩ hDB hKeep hmono hP
  have hAB := hmono hAD
  have hD0 : D0 ≤ Er B ps := fun b o hb => by
    unfold Er
    rw [if_neg]
    · exact hDB _ _ hb
    · intro hx
      have h1 : Er A ps b = none := by unfold Er; rw [if_pos hx]
      obtain ⟨o', h2⟩ := Option.ne_none_iff_exists'.1 (hdep.in' b hx)
      rw [(hKeep b o' h1 h2).1] at hb
      cases hb
  have hdep := hdep.le hAB
  have hE0 := Er.le hAB ps
  have hrow := hrow'.le hE0
  clear hKeep hmono hT
  rw [hpl] at hrow ⊢
  rcases hR with ⟨w, r', hw, h7w, rfl, hT⟩ | ⟨hw, x, e, rfl⟩
  rotate_left
  · skip
    refine hR _ _ _ ?_; clear hR R
    iterate 5 (refine seqX_hide2 fun R hR => ?_; simp [go_sem]; refine hR _ _ _ ?_; clear hR R)
    rw [seqX_nil]
    refine hK _ _ _ ?_; clear hK K
    refine hN3 _ _ _ ?_
    refine xc_two fun N4 hN4 => ?_
    refine xc_two fun N5 hN5 => ?_
    refine xc_reg1 2 rfl fun K hK => ?_
    simp only [show (List.range 2).map (·, true) = [(0, true), (1, true)] from rfl, rslv_cons, rslv_nil, List.getElem?_toArray, List.getElem?_cons_zero, List.getElem?_cons_succ, gres]
    iterate 2 (refine seqX_hide2 fun R hR => ?_; simp [go_sem]; refine hR _ _ _ ?_; clear hR R)
    rw [seqX_nil]
    refine hK _ _ _ ?_; clear hK K
    refine hN5 _ _ _ ?_
    refine xc_iftrue (by simp [go_sem]) ?_
    simp [go_sem]
    rw [hTR, hw]
    exact ⟨hdep, hE0⟩
  obtain ⟨lw, hGw⟩ := walkT_good hw hG
  rw [hw] at hTR
  obtain ⟨om, fm, hm, hmf, htag⟩ := tab_tag (AnyV.le hD0 _ _ hT) h7w hGw
  clear hT hw hG h7 hrow'
  refine hR _ _ _ ?_; clear hR R
  iterate 5 (refine seqX_hide2 fun R hR => ?_; simp [go_sem]; refine hR _ _ _ ?_; clear hR R)
  rw [seqX_nil]
  refine hK _ _ _ ?_; clear hK K
  refine hN3 _ _ _ ?_
  refine xc_two fun N4 hN4 => ?_
  refine xc_two fun N5 hN5 => ?_
  refine xc_reg1 2 rfl fun K hK => ?_
  simp only [show (List.range 2).map (·, true) = [(0, true), (1, true)] from rfl, rslv_cons, rslv_nil, List.getElem?_toArray, List.getElem?_cons_zero, List.getElem?_cons_succ, gres]
  iterate 2 (refine seqX_hide2 fun R hR => ?_; simp [go_sem]; refine hR _ _ _ ?_; clear hR R)
  rw [seqX_nil]
  refine hK _ _ _ ?_; clear hK K
  refine hN5 _ _ _ ?_
  refine xc_iffalse (by simp [go_sem]) ?_
  refine hN4 _ _ _ ?_
  refine xc_two fun N6 hN6 => ?_
  refine xc_reg1 3 rfl fun K hK => ?_
  simp only [show (List.range 3).map (·, true) = [(0, true), (1, true), (2, true)] from rfl, rslv_cons, rslv_nil, List.getElem?_toArray, List.getElem?_cons_zero, List.getElem?_cons_succ, gres]
  iterate 3 (refine seqX_hide2 fun R hR => ?_; simp [go_sem]; refine hR _ _ _ ?_; clear hR R)
  rw [seqX_nil]
  refine hK _ _ _ ?_; clear hK K
  refine hN6 _ _ _ ?_
  rw [xc_block]
  rw [xc_loop]
  refine vloopK (fun k' e ds A' => ∃ (j : Nat) (D : View), k' = l.length - j ∧ ds = [] ∧ A' = ov D [] ∧ Priv D [] ∧ e 4 = .map (some r') ∧ e 25 = .slice (some a) l.length cap ∧ e 26 = .int .i64 l.length ∧ e 27 = .int .i64 j ∧ (j ≤ l.length) ∧ (Er D ps = Er B ps) ∧ (Deps D ps ((l.take j).map (tagW w) ++ l.drop j))) _ ⟨0, B, rfl, rfl, rfl, hP, by simp [go_sem], by simp [go_sem], by simp [go_sem], by simp [go_sem], by omega, rfl, by simpa using hdep⟩ ?_
  clear hP
  rintro k' e ds A' ⟨j, D, rfl, rfl, hV, hP, g4, g25, g26, g27, hjl, hE, hD⟩ J1 X1 hJ1 hX1
  refine xc_sound _ ?_
  replace hV := Eq.symm hV; subst hV; replace hP : Priv D (addrs []) := hP
  have hw1 := wrap_nat (i := j) (by omega)
  by_cases hj : j < l.length
  · have hjp : j < ps.length := by omega
    obtain ⟨a', cap', f1, -, u1⟩ := Row.at1 (i := j) (u := ptr0 ps[j]) hrow (by simp [hjp])
    simp only [Value.slice.injEq, Option.some.injEq] at f1
    obtain ⟨rfl, -, rfl⟩ := f1
    rw [← hE] at u1
    have u1 := le_cell (Er.sub D ps) u1
    have hm1 := Er.sub D ps _ _ ((by rw [hE]; exact hm) : Er D ps r' = some om)
    obtain ⟨c, hc, hd⟩ := hD.dep j hjp
    rw [map_at hj] at hd
    have htl1 := htl _ (List.getElem_mem hj)
    have hput : ∀ c, IsDep (Er D ps) (tagW w l[j]) c → Deps (D.set ps[j] (.cells c 95 (0, 0))) ps ((l.take (j + 1)).map (tagW w) ++ l.drop (j + 1)) := fun c h => by
      rw [← map_set hj]
      exact hD.put hjp (by rw [← hD.len]; exact hjp) h
    have hset : ∀ o, Er (D.set ps[j] o) ps = Er B ps := fun o => by rw [Er.set (List.getElem_mem hjp)]; exact hE
    generalize l[j] = x at hd htl1 hput
    generalize ps[j] = p at hc u1 hput hset
    obtain ⟨tg, iv, rfl, ht, hiv⟩ := hd
    obtain ⟨b1, c1, rfl⟩ := ht.slice
    have hc4 : D.cell? ⟨p, 4, none⟩ = some (.slice b1 x.tags.length c1) := cell_of hc rfl
    refine xc_two fun N7 hN7 => ?_
    refine xc_reg1 1 rfl fun K hK => ?_
    simp only [show (List.range 1).map (·, true) = [(0, true)] from rfl, rslv_cons, rslv_nil, List.getElem?_toArray, List.getElem?_cons_zero, List.getElem?_cons_succ, gres]
    (refine seqX_hide2 fun R hR => ?_; simp [go_sem, g4, g25, g26, g27, hj, hw1, bc hP u1, bc hP hc4]; refine hR _ _ _ ?_; clear hR R)
    rw [seqX_nil]
    refine hK _ _ _ ?_; clear hK K
    refine hN7 _ _ _ ?_
    refine xc_two fun N8 hN8 => ?_
    refine xc_iftrue (by simp [go_sem, g4, g25, g26, g27, hj, hw1, bc hP u1, bc hP hc4]) ?_
    refine hN8 _ _ _ ?_
    refine xc_two fun N9 hN9 => ?_
    rw [xc_block]
    refine xc_two fun N10 hN10 => ?_
    refine xc_reg1 3 rfl fun K hK => ?_
    simp only [show (List.range 3).map (·, true) = [(0, true), (1, true), (2, true)] from rfl, rslv_cons, rslv_nil, List.getElem?_toArray, List.getElem?_cons_zero, List.getElem?_cons_succ, gres]
    iterate 3 (refine seqX_hide2 fun R hR => ?_; simp [go_sem, g4, g25, g26, g27, hj, hw1, bc hP u1, bc hP hc4]; refine hR _ _ _ ?_; clear hR R)
    rw [seqX_nil]
    refine hK _ _ _ ?_; clear hK K
    refine hN10 _ _ _ ?_
    refine xc_two fun N11 hN11 => ?_
    refine xc_reg1 2 rfl fun K hK => ?_
    simp only [show (List.range 2).map (·, true) = [(0, true), (1, true)] from rfl, rslv_cons, rslv_nil, List.getElem?_toArray, List.getElem?_cons_zero, List.getElem?_cons_succ, gres]
    iterate 2 (refine seqX_hide2 fun R hR => ?_; simp [go_sem, g4, g25, g26, g27, hj, hw1, bc hP u1, bc hP hc4]; refine hR _ _ _ ?_; clear hR R)
    rw [seqX_nil]
    refine hK _ _ _ ?_; clear hK K
    refine hN11 _ _ _ ?_
    refine xc_two fun N12 hN12 => ?_
    refine xc_two fun N13 hN13 => ?_
    refine xc_reg1 6 rfl fun K hK => ?_
    simp only [show (List.range 6).map (·, true) = [(0, true), (1, true), (2, true), (3, true), (4, true), (5, true)] from rfl, rslv_cons, rslv_nil, List.getElem?_toArray, List.getElem?_cons_zero, List.getElem?_cons_succ, gres]
    iterate 6 (refine seqX_hide2 fun R hR => ?_; simp [go_sem, g4, g25, g26, g27, hj, hw1, bc hP u1, bc hP hc4]; refine hR _ _ _ ?_; clear hR R)
    rw [seqX_nil]
    refine hK _ _ _ ?_; clear hK K
    refine hN13 _ _ _ ?_
    rw [xc_block]
    rw [xc_loop]
    refine vloopK (fun k' e ds A' => ∃ (i : Nat) (y : Bool) (n : Bool), k' = x.tags.length - i ∧ ds = [] ∧ A' = ov D [] ∧ Priv D [] ∧ e 4 = .map (some r') ∧ e 7 = ptr0 p ∧ e 8 = .bool y ∧ e 9 = .bool n ∧ e 25 = .slice (some a) l.length cap ∧ e 26 = .int .i64 l.length ∧ e 27 = .int .i64 j ∧ e 34 = .slice b1 x.tags.length c1 ∧ e 35 = .int .i64 x.tags.length ∧ e 36 = .int .i64 i ∧ (i ≤ x.tags.length) ∧ (y = yesT w (x.tags.take i)) ∧ (n = noT w (x.tags.take i))) _ ⟨0, false, false, rfl, rfl, rfl, hP, by simp [go_sem, g4, g25, g26, g27, hj, hw1], by simp [go_sem, g4, g25, g26, g27, hj, hw1], by simp [go_sem, g4, g25, g26, g27, hj, hw1], by simp [go_sem, g4, g25, g26, g27, hj, hw1], by simp [go_sem, g4, g25, g26, g27, hj, hw1], by simp [go_sem, g4, g25, g26, g27, hj, hw1], by simp [go_sem, g4, g25, g26, g27, hj, hw1], by simp [go_sem, g4, g25, g26, g27, hj, hw1], by simp [go_sem, g4, g25, g26, g27, hj, hw1], by simp [go_sem, g4, g25, g26, g27, hj, hw1], by omega, by simp [yesT], by simp [noT]⟩ ?_
    clear g4 g25 g26 g27
    clear hP
    rintro k' e ds A' ⟨i, y, n, rfl, rfl, hV, hP, g4, g7, g8, g9, g25, g26, g27, g34, g35, g36, hil, hy, hn⟩ J2 X2 hJ2 hX2
    refine xc_sound _ ?_
    replace hV := Eq.symm hV; subst hV; replace hP : Priv D (addrs []) := hP
    have hw2 := wrap_nat (i := i) (by omega)
    by_cases hi : i < x.tags.length
    · obtain ⟨a2, cap2, f1, u2⟩ := ht.at' hi
      simp only [Value.slice.injEq] at f1
      obtain ⟨rfl, -, rfl⟩ := f1
      have u2 := le_cell (Er.sub D ps) u2
      have htk2 : x.tags.take (i + 1) = x.tags.take i ++ [x.tags[i]] := List.take_succ_eq_append_getElem hi
      have hy2 : yesT w (x.tags.take (i + 1)) = (y || tb w x.tags[i] == some true) := by
        rw [htk2, hy]; unfold yesT; rw [List.any_append]; simp only [List.any_cons, List.any_nil, Bool.or_false]
      have hn2 : noT w (x.tags.take (i + 1)) = (n || tb w x.tags[i] == some false) := by
        rw [htk2, hn]; unfold noT; rw [List.any_append]; simp only [List.any_cons, List.any_nil, Bool.or_false]
      generalize x.tags[i] = tag at u2 hy2 hn2
      have htg := htag tag
      generalize hfx : fm tag = fx at htg
      generalize tb w tag = tbx at htg hy2 hn2
      cases htg with
      | no =>
        refine xc_two fun N14 hN14 => ?_
        refine xc_reg1 1 rfl fun K hK => ?_
        simp only [show (List.range 1).map (·, true) = [(0, true)] from rfl, rslv_cons, rslv_nil, List.getElem?_toArray, List.getElem?_cons_zero, List.getElem?_cons_succ, gres]
        (refine seqX_hide2 fun R hR => ?_; simp [go_sem, hj, hw1, g4, g7, g8, g9, g25, g26, g27, g34, g35, g36, hi, hw2, bc hP u2, mlk ti76 ti9 (z := .nilIface) (by simp [zeroOf, ti20]) hP hm1 hmf, hfx]; refine hR _ _ _ ?_; clear hR R)
        rw [seqX_nil]
        refine hK _ _ _ ?_; clear hK K
        refine hN14 _ _ _ ?_
        refine xc_two fun N15 hN15 => ?_
        refine xc_iftrue (by simp [go_sem, hj, hw1, g4, g7, g8, g9, g25, g26, g27, g34, g35, g36, hi, hw2, bc hP u2, mlk ti76 ti9 (z := .nilIface) (by simp [zeroOf, ti20]) hP hm1 hmf, hfx]) ?_
        refine hN15 _ _ _ ?_
        refine xc_two fun N16 hN16 => ?_
        rw [xc_block]
        refine xc_two fun N17 hN17 => ?_
        refine xc_reg1 3 rfl fun K hK => ?_
        simp only [show (List.range 3).map (·, true) = [(0, true), (1, true), (2, true)] from rfl, rslv_cons, rslv_nil, List.getElem?_toArray, List.getElem?_cons_zero, List.getElem?_cons_succ, gres]
        iterate 3 (refine seqX_hide2 fun R hR => ?_; simp [go_sem, hj, hw1, g4, g7, g8, g9, g25, g26, g27, g34, g35, g36, hi, hw2, bc hP u2, mlk ti76 ti9 (z := .nilIface) (by simp [zeroOf, ti20]) hP hm1 hmf, hfx]; refine hR _ _ _ ?_; clear hR R)
        rw [seqX_nil]
        refine hK _ _ _ ?_; clear hK K
        refine hN17 _ _ _ ?_
        refine xc_two fun N18 hN18 => ?_
        refine xc_reg1 8 rfl fun K hK => ?_
        simp only [show (List.range 8).map (·, true) = [(0, true), (1, true), (2, true), (3, true), (4, true), (5, true), (6, true), (7, true)] from rfl, rslv_cons, rslv_nil, List.getElem?_toArray, List.getElem?_cons_zero, List.getElem?_cons_succ, gres]
        iterate 8 (refine seqX_hide2 fun R hR => ?_; simp [go_sem, hj, hw1, g4, g7, g8, g9, g25, g26, g27, g34, g35, g36, hi, hw2, bc hP u2, mlk ti76 ti9 (z := .nilIface) (by simp [zeroOf, ti20]) hP hm1 hmf, hfx]; refine hR _ _ _ ?_; clear hR R)
        rw [seqX_nil]
        refine hK _ _ _ ?_; clear hK K
        refine hN18 _ _ _ ?_
        refine xc_two fun N19 hN19 => ?_
        refine xc_reg1 1 rfl fun K hK => ?_
        simp only [show (List.range 1).map (·, true) = [(0, true)] from rfl, rslv_cons, rslv_nil, List.getElem?_toArray, List.getElem?_cons_zero, List.getElem?_cons_succ, gres]
        (refine seqX_hide2 fun R hR => ?_; simp [go_sem, hj, hw1, g4, g7, g8, g9, g25, g26, g27, g34, g35, g36, hi, hw2, bc hP u2, mlk ti76 ti9 (z := .nilIface) (by simp [zeroOf, ti20]) hP hm1 hmf, hfx]; refine hR _ _ _ ?_; clear hR R)
        rw [seqX_nil]
        refine hK _ _ _ ?_; clear hK K
        refine hN19 _ _ _ ?_
        refine xc_iffalse (by simp [go_sem, hj, hw1, g4, g7, g8, g9, g25, g26, g27, g34, g35, g36, hi, hw2, bc hP u2, mlk ti76 ti9 (z := .nilIface) (by simp [zeroOf, ti20]) hP hm1 hmf, hfx]) ?_
        refine hN16 _ _ _ ?_
        refine xc_reg1 2 rfl fun K hK => ?_
        simp only [show (List.range 2).map (·, true) = [(0, true), (1, true)] from rfl, rslv_cons, rslv_nil, List.getElem?_toArray, List.getElem?_cons_zero, List.getElem?_cons_succ, gres]
        iterate 2 (refine seqX_hide2 fun R hR => ?_; simp [go_sem, hj, hw1, g4, g7, g8, g9, g25, g26, g27, g34, g35, g36, hi, hw2, bc hP u2, mlk ti76 ti9 (z := .nilIface) (by simp [zeroOf, ti20]) hP hm1 hmf, hfx]; refine hR _ _ _ ?_; clear hR R)
        rw [seqX_nil]
        refine hK _ _ _ ?_; clear hK K
        refine hJ2 (x.tags.length - (i + 1)) _ _ _ (by omega) ⟨i + 1, y, n, rfl, rfl, rfl, hP, by simp [go_sem, hj, hw1, g4, g7, g8, g9, g25, g26, g27, g34, g35, g36, hi, hw2, bc hP u2, mlk ti76 ti9 (z := .nilIface) (by simp [zeroOf, ti20]) hP hm1 hmf, hfx], by simp [go_sem, hj, hw1, g4, g7, g8, g9, g25, g26, g27, g34, g35, g36, hi, hw2, bc hP u2, mlk ti76 ti9 (z := .nilIface) (by simp [zeroOf, ti20]) hP hm1 hmf, hfx], by simp [go_sem, hj, hw1, g4, g7, g8, g9, g25, g26, g27, g34, g35, g36, hi, hw2, bc hP u2, mlk ti76 ti9 (z := .nilIface) (by simp [zeroOf, ti20]) hP hm1 hmf, hfx], by simp [go_sem, hj, hw1, g4, g7, g8, g9, g25, g26, g27, g34, g35, g36, hi, hw2, bc hP u2, mlk ti76 ti9 (z := .nilIface) (by simp [zeroOf, ti20]) hP hm1 hmf, hfx], by simp [go_sem, hj, hw1, g4, g7, g8, g9, g25, g26, g27, g34, g35, g36, hi, hw2, bc hP u2, mlk ti76 ti9 (z := .nilIface) (by simp [zeroOf, ti20]) hP hm1 hmf, hfx], by simp [go_sem, hj, hw1, g4, g7, g8, g9, g25, g26, g27, g34, g35, g36, hi, hw2, bc hP u2, mlk ti76 ti9 (z := .nilIface) (by simp [zeroOf, ti20]) hP hm1 hmf, hfx], by simp [go_sem, hj, hw1, g4, g7, g8, g9, g25, g26, g27, g34, g35, g36, hi, hw2, bc hP u2, mlk ti76 ti9 (z := .nilIface) (by simp [zeroOf, ti20]) hP hm1 hmf, hfx], by simp [go_sem, hj, hw1, g4, g7, g8, g9, g25, g26, g27, g34, g35, g36, hi, hw2, bc hP u2, mlk ti76 ti9 (z := .nilIface) (by simp [zeroOf, ti20]) hP hm1 hmf, hfx], by simp [go_sem, hj, hw1, g4, g7, g8, g9, g25, g26, g27, g34, g35, g36, hi, hw2, bc hP u2, mlk ti76 ti9 (z := .nilIface) (by simp [zeroOf, ti20]) hP hm1 hmf, hfx], by simp [go_sem, hj, hw1, g4, g7, g8, g9, g25, g26, g27, g34, g35, g36, hi, hw2, bc hP u2, mlk ti76 ti9 (z := .nilIface) (by simp [zeroOf, ti20]) hP hm1 hmf, hfx], by omega, by rw [hy2]; simp, by rw [hn2]; simp⟩
      | nil =>
        refine xc_two fun N14 hN14 => ?_
        refine xc_reg1 1 rfl fun K hK => ?_
        simp only [show (List.range 1).map (·, true) = [(0, true)] from rfl, rslv_cons, rslv_nil, List.getElem?_toArray, List.getElem?_cons_zero, List.getElem?_cons_succ, gres]
        (refine seqX_hide2 fun R hR => ?_; simp [go_sem, hj, hw1, g4, g7, g8, g9, g25, g26, g27, g34, g35, g36, hi, hw2, bc hP u2, mlk ti76 ti9 (z := .nilIface) (by simp [zeroOf, ti20]) hP hm1 hmf, hfx]; refine hR _ _ _ ?_; clear hR R)
        rw [seqX_nil]
        refine hK _ _ _ ?_; clear hK K
        refine hN14 _ _ _ ?_
        refine xc_two fun N15 hN15 => ?_
        refine xc_iftrue (by simp [go_sem, hj, hw1, g4, g7, g8, g9, g25, g26, g27, g34, g35, g36, hi, hw2, bc hP u2, mlk ti76 ti9 (z := .nilIface) (by simp [zeroOf, ti20]) hP hm1 hmf, hfx]) ?_
        refine hN15 _ _ _ ?_
        refine xc_two fun N16 hN16 => ?_
        rw [xc_block]
        refine xc_two fun N17 hN17 => ?_
        refine xc_reg1 3 rfl fun K hK => ?_
        simp only [show (List.range 3).map (·, true) = [(0, true), (1, true), (2, true)] from rfl, rslv_cons, rslv_nil, List.getElem?_toArray, List.getElem?_cons_zero, List.getElem?_cons_succ, gres]
        iterate 3 (refine seqX_hide2 fun R hR => ?_; simp [go_sem, hj, hw1, g4, g7, g8, g9, g25, g26, g27, g34, g35, g36, hi, hw2, bc hP u2, mlk ti76 ti9 (z := .nilIface) (by simp [zeroOf, ti20]) hP hm1 hmf, hfx]; refine hR _ _ _ ?_; clear hR R)
        rw [seqX_nil]
        refine hK _ _ _ ?_; clear hK K
        refine hN17 _ _ _ ?_
        refine xc_two fun N18 hN18 => ?_
        refine xc_reg1 8 rfl fun K hK => ?_
        simp only [show (List.range 8).map (·, true) = [(0, true), (1, true), (2, true), (3, true), (4, true), (5, true), (6, true), (7, true)] from rfl, rslv_cons, rslv_nil, List.getElem?_toArray, List.getElem?_cons_zero, List.getElem?_cons_succ, gres]
        iterate 8 (refine seqX_hide2 fun R hR => ?_; simp [go_sem, hj, hw1, g4, g7, g8, g9, g25, g26, g27, g34, g35, g36, hi, hw2, bc hP u2, mlk ti76 ti9 (z := .nilIface) (by simp [zeroOf, ti20]) hP hm1 hmf, hfx]; refine hR _ _ _ ?_; clear hR R)
        rw [seqX_nil]
        refine hK _ _ _ ?_; clear hK K
        refine hN18 _ _ _ ?_
        refine xc_two fun N19 hN19 => ?_
        refine xc_reg1 1 rfl fun K hK => ?_
        simp only [show (List.range 1).map (·, true) = [(0, true)] from rfl, rslv_cons, rslv_nil, List.getElem?_toArray, List.getElem?_cons_zero, List.getElem?_cons_succ, gres]
        (refine seqX_hide2 fun R hR => ?_; simp [go_sem, hj, hw1, g4, g7, g8, g9, g25, g26, g27, g34, g35, g36, hi, hw2, bc hP u2, mlk ti76 ti9 (z := .nilIface) (by simp [zeroOf, ti20]) hP hm1 hmf, hfx]; refine hR _ _ _ ?_; clear hR R)
        rw [seqX_nil]
        refine hK _ _ _ ?_; clear hK K
        refine hN19 _ _ _ ?_
        refine xc_iftrue (by simp [go_sem, hj, hw1, g4, g7, g8, g9, g25, g26, g27, g34, g35, g36, hi, hw2, bc hP u2, mlk ti76 ti9 (z := .nilIface) (by simp [zeroOf, ti20]) hP hm1 hmf, hfx]) ?_
        refine xc_two fun N20 hN20 => ?_
        refine xc_reg1 7 rfl fun K hK => ?_
        simp only [show (List.range 7).map (·, true) = [(0, true), (1, true), (2, true), (3, true), (4, true), (5, true), (6, true)] from rfl, rslv_cons, rslv_nil, List.getElem?_toArray, List.getElem?_cons_zero, List.getElem?_cons_succ, gres]
        iterate 7 (refine seqX_hide2 fun R hR => ?_; simp [go_sem, hj, hw1, g4, g7, g8, g9, g25, g26, g27, g34, g35, g36, hi, hw2, bc hP u2, mlk ti76 ti9 (z := .nilIface) (by simp [zeroOf, ti20]) hP hm1 hmf, hfx]; refine hR _ _ _ ?_; clear hR R)
        rw [seqX_nil]
        refine hK _ _ _ ?_; clear hK K
        refine hN20 _ _ _ ?_
        refine xc_two fun N21 hN21 => ?_
        refine xc_reg1 1 rfl fun K hK => ?_
        simp only [show (List.range 1).map (·, true) = [(0, true)] from rfl, rslv_cons, rslv_nil, List.getElem?_toArray, List.getElem?_cons_zero, List.getElem?_cons_succ, gres]
        (refine seqX_hide2 fun R hR => ?_; simp [go_sem, hj, hw1, g4, g7, g8, g9, g25, g26, g27, g34, g35, g36, hi, hw2, bc hP u2, mlk ti76 ti9 (z := .nilIface) (by simp [zeroOf, ti20]) hP hm1 hmf, hfx]; refine hR _ _ _ ?_; clear hR R)
        rw [seqX_nil]
        refine hK _ _ _ ?_; clear hK K
        refine hN21 _ _ _ ?_
        refine xc_iffalse (by simp [go_sem, hj, hw1, g4, g7, g8, g9, g25, g26, g27, g34, g35, g36, hi, hw2, bc hP u2, mlk ti76 ti9 (z := .nilIface) (by simp [zeroOf, ti20]) hP hm1 hmf, hfx]) ?_
        refine hN16 _ _ _ ?_
        refine xc_reg1 2 rfl fun K hK => ?_
        simp only [show (List.range 2).map (·, true) = [(0, true), (1, true)] from rfl, rslv_cons, rslv_nil, List.getElem?_toArray, List.getElem?_cons_zero, List.getElem?_cons_succ, gres]
        iterate 2 (refine seqX_hide2 fun R hR => ?_; simp [go_sem, hj, hw1, g4, g7, g8, g9, g25, g26, g27, g34, g35, g36, hi, hw2, bc hP u2, mlk ti76 ti9 (z := .nilIface) (by simp [zeroOf, ti20]) hP hm1 hmf, hfx]; refine hR _ _ _ ?_; clear hR R)
        rw [seqX_nil]
        refine hK _ _ _ ?_; clear hK K
        refine hJ2 (x.tags.length - (i + 1)) _ _ _ (by omega) ⟨i + 1, y, n, rfl, rfl, rfl, hP, by simp [go_sem, hj, hw1, g4, g7, g8, g9, g25, g26, g27, g34, g35, g36, hi, hw2, bc hP u2, mlk ti76 ti9 (z := .nilIface) (by simp [zeroOf, ti20]) hP hm1 hmf, hfx], by simp [go_sem, hj, hw1, g4, g7, g8, g9, g25, g26, g27, g34, g35, g36, hi, hw2, bc hP u2, mlk ti76 ti9 (z := .nilIface) (by simp [zeroOf, ti20]) hP hm1 hmf, hfx], by simp [go_sem, hj, hw1, g4, g7, g8, g9, g25, g26, g27, g34, g35, g36, hi, hw2, bc hP u2, mlk ti76 ti9 (z := .nilIface) (by simp [zeroOf, ti20]) hP hm1 hmf, hfx], by simp [go_sem, hj, hw1, g4, g7, g8, g9, g25, g26, g27, g34, g35, g36, hi, hw2, bc hP u2, mlk ti76 ti9 (z := .nilIface) (by simp [zeroOf, ti20]) hP hm1 hmf, hfx], by simp [go_sem, hj, hw1, g4, g7, g8, g9, g25, g26, g27, g34, g35, g36, hi, hw2, bc hP u2, mlk ti76 ti9 (z := .nilIface) (by simp [zeroOf, ti20]) hP hm1 hmf, hfx], by simp [go_sem, hj, hw1, g4, g7, g8, g9, g25, g26, g27, g34, g35, g36, hi, hw2, bc hP u2, mlk ti76 ti9 (z := .nilIface) (by simp [zeroOf, ti20]) hP hm1 hmf, hfx], by simp [go_sem, hj, hw1, g4, g7, g8, g9, g25, g26, g27, g34, g35, g36, hi, hw2, bc hP u2, mlk ti76 ti9 (z := .nilIface) (by simp [zeroOf, ti20]) hP hm1 hmf, hfx], by simp [go_sem, hj, hw1, g4, g7, g8, g9, g25, g26, g27, g34, g35, g36, hi, hw2, bc hP u2, mlk ti76 ti9 (z := .nilIface) (by simp [zeroOf, ti20]) hP hm1 hmf, hfx], by simp [go_sem, hj, hw1, g4, g7, g8, g9, g25, g26, g27, g34, g35, g36, hi, hw2, bc hP u2, mlk ti76 ti9 (z := .nilIface) (by simp [zeroOf, ti20]) hP hm1 hmf, hfx], by simp [go_sem, hj, hw1, g4, g7, g8, g9, g25, g26, g27, g34, g35, g36, hi, hw2, bc hP u2, mlk ti76 ti9 (z := .nilIface) (by simp [zeroOf, ti20]) hP hm1 hmf, hfx], by omega, by rw [hy2]; simp, by rw [hn2]; simp⟩
      | other t z hne =>
        have hne2 : (t == 4) = false := by simp [hne]
        refine xc_two fun N14 hN14 => ?_
        refine xc_reg1 1 rfl fun K hK => ?_
        simp only [show (List.range 1).map (·, true) = [(0, true)] from rfl, rslv_cons, rslv_nil, List.getElem?_toArray, List.getElem?_cons_zero, List.getElem?_cons_succ, gres]
        (refine seqX_hide2 fun R hR => ?_; simp [go_sem, hj, hw1, g4, g7, g8, g9, g25, g26, g27, g34, g35, g36, hi, hw2, bc hP u2, mlk ti76 ti9 (z := .nilIface) (by simp [zeroOf, ti20]) hP hm1 hmf, hfx, hne, hne2]; refine hR _ _ _ ?_; clear hR R)
        rw [seqX_nil]
        refine hK _ _ _ ?_; clear hK K
        refine hN14 _ _ _ ?_
        refine xc_two fun N15 hN15 => ?_
        refine xc_iftrue (by simp [go_sem, hj, hw1, g4, g7, g8, g9, g25, g26, g27, g34, g35, g36, hi, hw2, bc hP u2, mlk ti76 ti9 (z := .nilIface) (by simp [zeroOf, ti20]) hP hm1 hmf, hfx, hne, hne2]) ?_
        refine hN15 _ _ _ ?_
        refine xc_two fun N16 hN16 => ?_
        rw [xc_block]
        refine xc_two fun N17 hN17 => ?_
        refine xc_reg1 3 rfl fun K hK => ?_
        simp only [show (List.range 3).map (·, true) = [(0, true), (1, true), (2, true)] from rfl, rslv_cons, rslv_nil, List.getElem?_toArray, List.getElem?_cons_zero, List.getElem?_cons_succ, gres]
        iterate 3 (refine seqX_hide2 fun R hR => ?_; simp [go_sem, hj, hw1, g4, g7, g8, g9, g25, g26, g27, g34, g35, g36, hi, hw2, bc hP u2, mlk ti76 ti9 (z := .nilIface) (by simp [zeroOf, ti20]) hP hm1 hmf, hfx, hne, hne2]; refine hR _ _ _ ?_; clear hR R)
        rw [seqX_nil]
        refine hK _ _ _ ?_; clear hK K
        refine hN17 _ _ _ ?_
        refine xc_two fun N18 hN18 => ?_
        refine xc_reg1 8 rfl fun K hK => ?_
        simp only [show (List.range 8).map (·, true) = [(0, true), (1, true), (2, true), (3, true), (4, true), (5, true), (6, true), (7, true)] from rfl, rslv_cons, rslv_nil, List.getElem?_toArray, List.getElem?_cons_zero, List.getElem?_cons_succ, gres]
        iterate 8 (refine seqX_hide2 fun R hR => ?_; simp [go_sem, hj, hw1, g4, g7, g8, g9, g25, g26, g27, g34, g35, g36, hi, hw2, bc hP u2, mlk ti76 ti9 (z := .nilIface) (by simp [zeroOf, ti20]) hP hm1 hmf, hfx, hne, hne2]; refine hR _ _ _ ?_; clear hR R)
        rw [seqX_nil]
        refine hK _ _ _ ?_; clear hK K
        refine hN18 _ _ _ ?_
        refine xc_two fun N19 hN19 => ?_
        refine xc_reg1 1 rfl fun K hK => ?_
        simp only [show (List.range 1).map (·, true) = [(0, true)] from rfl, rslv_cons, rslv_nil, List.getElem?_toArray, List.getElem?_cons_zero, List.getElem?_cons_succ, gres]
        (refine seqX_hide2 fun R hR => ?_; simp [go_sem, hj, hw1, g4, g7, g8, g9, g25, g26, g27, g34, g35, g36, hi, hw2, bc hP u2, mlk ti76 ti9 (z := .nilIface) (by simp [zeroOf, ti20]) hP hm1 hmf, hfx, hne, hne2]; refine hR _ _ _ ?_; clear hR R)
        rw [seqX_nil]
        refine hK _ _ _ ?_; clear hK K
        refine hN19 _ _ _ ?_
        refine xc_iftrue (by simp [go_sem, hj, hw1, g4, g7, g8, g9, g25, g26, g27, g34, g35, g36, hi, hw2, bc hP u2, mlk ti76 ti9 (z := .nilIface) (by simp [zeroOf, ti20]) hP hm1 hmf, hfx, hne, hne2]) ?_
        refine xc_two fun N20 hN20 => ?_
        refine xc_reg1 7 rfl fun K hK => ?_
        simp only [show (List.range 7).map (·, true) = [(0, true), (1, true), (2, true), (3, true), (4, true), (5, true), (6, true)] from rfl, rslv_cons, rslv_nil, List.getElem?_toArray, List.getElem?_cons_zero, List.getElem?_cons_succ, gres]
        iterate 7 (refine seqX_hide2 fun R hR => ?_; simp [go_sem, hj, hw1, g4, g7, g8, g9, g25, g26, g27, g34, g35, g36, hi, hw2, bc hP u2, mlk ti76 ti9 (z := .nilIface) (by simp [zeroOf, ti20]) hP hm1 hmf, hfx, hne, hne2]; refine hR _ _ _ ?_; clear hR R)
        rw [seqX_nil]
        refine hK _ _ _ ?_; clear hK K
        refine hN20 _ _ _ ?_
        refine xc_two fun N21 hN21 => ?_
        refine xc_reg1 1 rfl fun K hK => ?_
        simp only [show (List.range 1).map (·, true) = [(0, true)] from rfl, rslv_cons, rslv_nil, List.getElem?_toArray, List.getElem?_cons_zero, List.getElem?_cons_succ, gres]
        (refine seqX_hide2 fun R hR => ?_; simp [go_sem, hj, hw1, g4, g7, g8, g9, g25, g26, g27, g34, g35, g36, hi, hw2, bc hP u2, mlk ti76 ti9 (z := .nilIface) (by simp [zeroOf, ti20]) hP hm1 hmf, hfx, hne, hne2]; refine hR _ _ _ ?_; clear hR R)
        rw [seqX_nil]
        refine hK _ _ _ ?_; clear hK K
        refine hN21 _ _ _ ?_
        refine xc_iffalse (by simp [go_sem, hj, hw1, g4, g7, g8, g9, g25, g26, g27, g34, g35, g36, hi, hw2, bc hP u2, mlk ti76 ti9 (z := .nilIface) (by simp [zeroOf, ti20]) hP hm1 hmf, hfx, hne, hne2]) ?_
        refine hN16 _ _ _ ?_
        refine xc_reg1 2 rfl fun K hK => ?_
        simp only [show (List.range 2).map (·, true) = [(0, true), (1, true)] from rfl, rslv_cons, rslv_nil, List.getElem?_toArray, List.getElem?_cons_zero, List.getElem?_cons_succ, gres]
        iterate 2 (refine seqX_hide2 fun R hR => ?_; simp [go_sem, hj, hw1, g4, g7, g8, g9, g25, g26, g27, g34, g35, g36, hi, hw2, bc hP u2, mlk ti76 ti9 (z := .nilIface) (by simp [zeroOf, ti20]) hP hm1 hmf, hfx, hne, hne2]; refine hR _ _ _ ?_; clear hR R)
        rw [seqX_nil]
        refine hK _ _ _ ?_; clear hK K
        refine hJ2 (x.tags.length - (i + 1)) _ _ _ (by omega) ⟨i + 1, y, n, rfl, rfl, rfl, hP, by simp [go_sem, hj, hw1, g4, g7, g8, g9, g25, g26, g27, g34, g35, g36, hi, hw2, bc hP u2, mlk ti76 ti9 (z := .nilIface) (by simp [zeroOf, ti20]) hP hm1 hmf, hfx, hne, hne2], by simp [go_sem, hj, hw1, g4, g7, g8, g9, g25, g26, g27, g34, g35, g36, hi, hw2, bc hP u2, mlk ti76 ti9 (z := .nilIface) (by simp [zeroOf, ti20]) hP hm1 hmf, hfx, hne, hne2], by simp [go_sem, hj, hw1, g4, g7, g8, g9, g25, g26, g27, g34, g35, g36, hi, hw2, bc hP u2, mlk ti76 ti9 (z := .nilIface) (by simp [zeroOf, ti20]) hP hm1 hmf, hfx, hne, hne2], by simp [go_sem, hj, hw1, g4, g7, g8, g9, g25, g26, g27, g34, g35, g36, hi, hw2, bc hP u2, mlk ti76 ti9 (z := .nilIface) (by simp [zeroOf, ti20]) hP hm1 hmf, hfx, hne, hne2], by simp [go_sem, hj, hw1, g4, g7, g8, g9, g25, g26, g27, g34, g35, g36, hi, hw2, bc hP u2, mlk ti76 ti9 (z := .nilIface) (by simp [zeroOf, ti20]) hP hm1 hmf, hfx, hne, hne2], by simp [go_sem, hj, hw1, g4, g7, g8, g9, g25, g26, g27, g34, g35, g36, hi, hw2, bc hP u2, mlk ti76 ti9 (z := .nilIface) (by simp [zeroOf, ti20]) hP hm1 hmf, hfx, hne, hne2], by simp [go_sem, hj, hw1, g4, g7, g8, g9, g25, g26, g27, g34, g35, g36, hi, hw2, bc hP u2, mlk ti76 ti9 (z := .nilIface) (by simp [zeroOf, ti20]) hP hm1 hmf, hfx, hne, hne2], by simp [go_sem, hj, hw1, g4, g7, g8, g9, g25, g26, g27, g34, g35, g36, hi, hw2, bc hP u2, mlk ti76 ti9 (z := .nilIface) (by simp [zeroOf, ti20]) hP hm1 hmf, hfx, hne, hne2], by simp [go_sem, hj, hw1, g4, g7, g8, g9, g25, g26, g27, g34, g35, g36, hi, hw2, bc hP u2, mlk ti76 ti9 (z := .nilIface) (by simp [zeroOf, ti20]) hP hm1 hmf, hfx, hne, hne2], by simp [go_sem, hj, hw1, g4, g7, g8, g9, g25, g26, g27, g34, g35, g36, hi, hw2, bc hP u2, mlk ti76 ti9 (z := .nilIface) (by simp [zeroOf, ti20]) hP hm1 hmf, hfx, hne, hne2], by omega, by rw [hy2]; simp, by rw [hn2]; simp⟩
      | yes b =>
        cases b with
        | true =>
          refine xc_two fun N14 hN14 => ?_
          refine xc_reg1 1 rfl fun K hK => ?_
          simp only [show (List.range 1).map (·, true) = [(0, true)] from rfl, rslv_cons, rslv_nil, List.getElem?_toArray, List.getElem?_cons_zero, List.getElem?_cons_succ, gres]
          (refine seqX_hide2 fun R hR => ?_; simp [go_sem, hj, hw1, g4, g7, g8, g9, g25, g26, g27, g34, g35, g36, hi, hw2, bc hP u2, mlk ti76 ti9 (z := .nilIface) (by simp [zeroOf, ti20]) hP hm1 hmf, hfx]; refine hR _ _ _ ?_; clear hR R)
          rw [seqX_nil]
          refine hK _ _ _ ?_; clear hK K
          refine hN14 _ _ _ ?_
          refine xc_two fun N15 hN15 => ?_
          refine xc_iftrue (by simp [go_sem, hj, hw1, g4, g7, g8, g9, g25, g26, g27, g34, g35, g36, hi, hw2, bc hP u2, mlk ti76 ti9 (z := .nilIface) (by simp [zeroOf, ti20]) hP hm1 hmf, hfx]) ?_
          refine hN15 _ _ _ ?_
          refine xc_two fun N16 hN16 => ?_
          rw [xc_block]
          refine xc_two fun N17 hN17 => ?_
          refine xc_reg1 3 rfl fun K hK => ?_
          simp only [show (List.range 3).map (·, true) = [(0, true), (1, true), (2, true)] from rfl, rslv_cons, rslv_nil, List.getElem?_toArray, List.getElem?_cons_zero, List.getElem?_cons_succ, gres]
          iterate 3 (refine seqX_hide2 fun R hR => ?_; simp [go_sem, hj, hw1, g4, g7, g8, g9, g25, g26, g27, g34, g35, g36, hi, hw2, bc hP u2, mlk ti76 ti9 (z := .nilIface) (by simp [zeroOf, ti20]) hP hm1 hmf, hfx]; refine hR _ _ _ ?_; clear hR R)
          rw [seqX_nil]
          refine hK _ _ _ ?_; clear hK K
          refine hN17 _ _ _ ?_
          refine xc_two fun N18 hN18 => ?_
          refine xc_reg1 8 rfl fun K hK => ?_
          simp only [show (List.range 8).map (·, true) = [(0, true), (1, true), (2, true), (3, true), (4, true), (5, true), (6, true), (7, true)] from rfl, rslv_cons, rslv_nil, List.getElem?_toArray, List.getElem?_cons_zero, List.getElem?_cons_succ, gres]
          iterate 8 (refine seqX_hide2 fun R hR => ?_; simp [go_sem, hj, hw1, g4, g7, g8, g9, g25, g26, g27, g34, g35, g36, hi, hw2, bc hP u2, mlk ti76 ti9 (z := .nilIface) (by simp [zeroOf, ti20]) hP hm1 hmf, hfx]; refine hR _ _ _ ?_; clear hR R)
          rw [seqX_nil]
          refine hK _ _ _ ?_; clear hK K
          refine hN18 _ _ _ ?_
          refine xc_two fun N19 hN19 => ?_
          refine xc_reg1 1 rfl fun K hK => ?_
          simp only [show (List.range 1).map (·, true) = [(0, true)] from rfl, rslv_cons, rslv_nil, List.getElem?_toArray, List.getElem?_cons_zero, List.getElem?_cons_succ, gres]
          (refine seqX_hide2 fun R hR => ?_; simp [go_sem, hj, hw1, g4, g7, g8, g9, g25, g26, g27, g34, g35, g36, hi, hw2, bc hP u2, mlk ti76 ti9 (z := .nilIface) (by simp [zeroOf, ti20]) hP hm1 hmf, hfx]; refine hR _ _ _ ?_; clear hR R)
          rw [seqX_nil]
          refine hK _ _ _ ?_; clear hK K
          refine hN19 _ _ _ ?_
          refine xc_iftrue (by simp [go_sem, hj, hw1, g4, g7, g8, g9, g25, g26, g27, g34, g35, g36, hi, hw2, bc hP u2, mlk ti76 ti9 (z := .nilIface) (by simp [zeroOf, ti20]) hP hm1 hmf, hfx]) ?_
          refine xc_two fun N20 hN20 => ?_
          refine xc_reg1 7 rfl fun K hK => ?_
          simp only [show (List.range 7).map (·, true) = [(0, true), (1, true), (2, true), (3, true), (4, true), (5, true), (6, true)] from rfl, rslv_cons, rslv_nil, List.getElem?_toArray, List.getElem?_cons_zero, List.getElem?_cons_succ, gres]
          iterate 7 (refine seqX_hide2 fun R hR => ?_; simp [go_sem, hj, hw1, g4, g7, g8, g9, g25, g26, g27, g34, g35, g36, hi, hw2, bc hP u2, mlk ti76 ti9 (z := .nilIface) (by simp [zeroOf, ti20]) hP hm1 hmf, hfx]; refine hR _ _ _ ?_; clear hR R)
          rw [seqX_nil]
          refine hK _ _ _ ?_; clear hK K
          refine hN20 _ _ _ ?_
          refine xc_two fun N21 hN21 => ?_
          refine xc_reg1 1 rfl fun K hK => ?_
          simp only [show (List.range 1).map (·, true) = [(0, true)] from rfl, rslv_cons, rslv_nil, List.getElem?_toArray, List.getElem?_cons_zero, List.getElem?_cons_succ, gres]
          (refine seqX_hide2 fun R hR => ?_; simp [go_sem, hj, hw1, g4, g7, g8, g9, g25, g26, g27, g34, g35, g36, hi, hw2, bc hP u2, mlk ti76 ti9 (z := .nilIface) (by simp [zeroOf, ti20]) hP hm1 hmf, hfx]; refine hR _ _ _ ?_; clear hR R)
          rw [seqX_nil]
          refine hK _ _ _ ?_; clear hK K
          refine hN21 _ _ _ ?_
          refine xc_iftrue (by simp [go_sem, hj, hw1, g4, g7, g8, g9, g25, g26, g27, g34, g35, g36, hi, hw2, bc hP u2, mlk ti76 ti9 (z := .nilIface) (by simp [zeroOf, ti20]) hP hm1 hmf, hfx]) ?_
          refine xc_two fun N22 hN22 => ?_
          refine xc_reg1 1 rfl fun K hK => ?_
          simp only [show (List.range 1).map (·, true) = [(0, true)] from rfl, rslv_cons, rslv_nil, List.getElem?_toArray, List.getElem?_cons_zero, List.getElem?_cons_succ, gres]
          (refine seqX_hide2 fun R hR => ?_; simp [go_sem, hj, hw1, g4, g7, g8, g9, g25, g26, g27, g34, g35, g36, hi, hw2, bc hP u2, mlk ti76 ti9 (z := .nilIface) (by simp [zeroOf, ti20]) hP hm1 hmf, hfx]; refine hR _ _ _ ?_; clear hR R)
          rw [seqX_nil]
          refine hK _ _ _ ?_; clear hK K
          refine hN22 _ _ _ ?_
          refine xc_iftrue (by simp [go_sem, hj, hw1, g4, g7, g8, g9, g25, g26, g27, g34, g35, g36, hi, hw2, bc hP u2, mlk ti76 ti9 (z := .nilIface) (by simp [zeroOf, ti20]) hP hm1 hmf, hfx]) ?_
          refine xc_reg1 1 rfl fun K hK => ?_
          simp only [show (List.range 1).map (·, true) = [(0, true)] from rfl, rslv_cons, rslv_nil, List.getElem?_toArray, List.getElem?_cons_zero, List.getElem?_cons_succ, gres]
          (refine seqX_hide2 fun R hR => ?_; simp [go_sem, hj, hw1, g4, g7, g8, g9, g25, g26, g27, g34, g35, g36, hi, hw2, bc hP u2, mlk ti76 ti9 (z := .nilIface) (by simp [zeroOf, ti20]) hP hm1 hmf, hfx]; refine hR _ _ _ ?_; clear hR R)
          rw [seqX_nil]
          refine hK _ _ _ ?_; clear hK K
          refine hN16 _ _ _ ?_
          refine xc_reg1 2 rfl fun K hK => ?_
          simp only [show (List.range 2).map (·, true) = [(0, true), (1, true)] from rfl, rslv_cons, rslv_nil, List.getElem?_toArray, List.getElem?_cons_zero, List.getElem?_cons_succ, gres]
          iterate 2 (refine seqX_hide2 fun R hR => ?_; simp [go_sem, hj, hw1, g4, g7, g8, g9, g25, g26, g27, g34, g35, g36, hi, hw2, bc hP u2, mlk ti76 ti9 (z := .nilIface) (by simp [zeroOf, ti20]) hP hm1 hmf, hfx]; refine hR _ _ _ ?_; clear hR R)
          rw [seqX_nil]
          refine hK _ _ _ ?_; clear hK K
          refine hJ2 (x.tags.length - (i + 1)) _ _ _ (by omega) ⟨i + 1, true, n, rfl, rfl, rfl, hP, by simp [go_sem, hj, hw1, g4, g7, g8, g9, g25, g26, g27, g34, g35, g36, hi, hw2, bc hP u2, mlk ti76 ti9 (z := .nilIface) (by simp [zeroOf, ti20]) hP hm1 hmf, hfx], by simp [go_sem, hj, hw1, g4, g7, g8, g9, g25, g26, g27, g34, g35, g36, hi, hw2, bc hP u2, mlk ti76 ti9 (z := .nilIface) (by simp [zeroOf, ti20]) hP hm1 hmf, hfx], by simp [go_sem, hj, hw1, g4, g7, g8, g9, g25, g26, g27, g34, g35, g36, hi, hw2, bc hP u2, mlk ti76 ti9 (z := .nilIface) (by simp [zeroOf, ti20]) hP hm1 hmf, hfx], by simp [go_sem, hj, hw1, g4, g7, g8, g9, g25, g26, g27, g34, g35, g36, hi, hw2, bc hP u2, mlk ti76 ti9 (z := .nilIface) (by simp [zeroOf, ti20]) hP hm1 hmf, hfx], by simp [go_sem, hj, hw1, g4, g7, g8, g9, g25, g26, g27, g34, g35, g36, hi, hw2, bc hP u2, mlk ti76 ti9 (z := .nilIface) (by simp [zeroOf, ti20]) hP hm1 hmf, hfx], by simp [go_sem, hj, hw1, g4, g7, g8, g9, g25, g26, g27, g34, g35, g36, hi, hw2, bc hP u2, mlk ti76 ti9 (z := .nilIface) (by simp [zeroOf, ti20]) hP hm1 hmf, hfx], by simp [go_sem, hj, hw1, g4, g7, g8, g9, g25, g26, g27, g34, g35, g36, hi, hw2, bc hP u2, mlk ti76 ti9 (z := .nilIface) (by simp [zeroOf, ti20]) hP hm1 hmf, hfx], by simp [go_sem, hj, hw1, g4, g7, g8, g9, g25, g26, g27, g34, g35, g36, hi, hw2, bc hP u2, mlk ti76 ti9 (z := .nilIface) (by simp [zeroOf, ti20]) hP hm1 hmf, hfx], by simp [go_sem, hj, hw1, g4, g7, g8, g9, g25, g26, g27, g34, g35, g36, hi, hw2, bc hP u2, mlk ti76 ti9 (z := .nilIface) (by simp [zeroOf, ti20]) hP hm1 hmf, hfx], by simp [go_sem, hj, hw1, g4, g7, g8, g9, g25, g26, g27, g34, g35, g36, hi, hw2, bc hP u2, mlk ti76 ti9 (z := .nilIface) (by simp [zeroOf, ti20]) hP hm1 hmf, hfx], by omega, by rw [hy2]; simp, by rw [hn2]; simp⟩
        | false =>
          refine xc_two fun N14 hN14 => ?_
          refine xc_reg1 1 rfl fun K hK => ?_
          simp only [show (List.range 1).map (·, true) = [(0, true)] from rfl, rslv_cons, rslv_nil, List.getElem?_toArray, List.getElem?_cons_zero, List.getElem?_cons_succ, gres]
          (refine seqX_hide2 fun R hR => ?_; simp [go_sem, hj, hw1, g4, g7, g8, g9, g25, g26, g27, g34, g35, g36, hi, hw2, bc hP u2, mlk ti76 ti9 (z := .nilIface) (by simp [zeroOf, ti20]) hP hm1 hmf, hfx]; refine hR _ _ _ ?_; clear hR R)
          rw [seqX_nil]
          refine hK _ _ _ ?_; clear hK K
          refine hN14 _ _ _ ?_
          refine xc_two fun N15 hN15 => ?_
          refine xc_iftrue (by simp [go_sem, hj, hw1, g4, g7, g8, g9, g25, g26, g27, g34, g35, g36, hi, hw2, bc hP u2, mlk ti76 ti9 (z := .nilIface) (by simp [zeroOf, ti20]) hP hm1 hmf, hfx]) ?_
          refine hN15 _ _ _ ?_
          refine xc_two fun N16 hN16 => ?_
          rw [xc_block]
          refine xc_two fun N17 hN17 => ?_
          refine xc_reg1 3 rfl fun K hK => ?_
          simp only [show (List.range 3).map (·, true) = [(0, true), (1, true), (2, true)] from rfl, rslv_cons, rslv_nil, List.getElem?_toArray, List.getElem?_cons_zero, List.getElem?_cons_succ, gres]
          iterate 3 (refine seqX_hide2 fun R hR => ?_; simp [go_sem, hj, hw1, g4, g7, g8, g9, g25, g26, g27, g34, g35, g36, hi, hw2, bc hP u2, mlk ti76 ti9 (z := .nilIface) (by simp [zeroOf, ti20]) hP hm1 hmf, hfx]; refine hR _ _ _ ?_; clear hR R)
          rw [seqX_nil]
          refine hK _ _ _ ?_; clear hK K
          refine hN17 _ _ _ ?_
          refine xc_two fun N18 hN18 => ?_
          refine xc_reg1 8 rfl fun K hK => ?_
          simp only [show (List.range 8).map (·, true) = [(0, true), (1, true), (2, true), (3, true), (4, true), (5, true), (6, true), (7, true)] from rfl, rslv_cons, rslv_nil, List.getElem?_toArray, List.getElem?_cons_zero, List.getElem?_cons_succ, gres]
          iterate 8 (refine seqX_hide2 fun R hR => ?_; simp [go_sem, hj, hw1, g4, g7, g8, g9, g25, g26, g27, g34, g35, g36, hi, hw2, bc hP u2, mlk ti76 ti9 (z := .nilIface) (by simp [zeroOf, ti20]) hP hm1 hmf, hfx]; refine hR _ _ _ ?_; clear hR R)
          rw [seqX_nil]
          refine hK _ _ _ ?_; clear hK K
          refine hN18 _ _ _ ?_
          refine xc_two fun N19 hN19 => ?_
          refine xc_reg1 1 rfl fun K hK => ?_
          simp only [show (List.range 1).map (·, true) = [(0, true)] from rfl, rslv_cons, rslv_nil, List.getElem?_toArray, List.getElem?_cons_zero, List.getElem?_cons_succ, gres]
          (refine seqX_hide2 fun R hR => ?_; simp [go_sem, hj, hw1, g4, g7, g8, g9, g25, g26, g27, g34, g35, g36, hi, hw2, bc hP u2, mlk ti76 ti9 (z := .nilIface) (by simp [zeroOf, ti20]) hP hm1 hmf, hfx]; refine hR _ _ _ ?_; clear hR R)
          rw [seqX_nil]
          refine hK _ _ _ ?_; clear hK K
          refine hN19 _ _ _ ?_
          refine xc_iftrue (by simp [go_sem, hj, hw1, g4, g7, g8, g9, g25, g26, g27, g34, g35, g36, hi, hw2, bc hP u2, mlk ti76 ti9 (z := .nilIface) (by simp [zeroOf, ti20]) hP hm1 hmf, hfx]) ?_
          refine xc_two fun N20 hN20 => ?_
          refine xc_reg1 7 rfl fun K hK => ?_
          simp only [show (List.range 7).map (·, true) = [(0, true), (1, true), (2, true), (3, true), (4, true), (5, true), (6, true)] from rfl, rslv_cons, rslv_nil, List.getElem?_toArray, List.getElem?_cons_zero, List.getElem?_cons_succ, gres]
          iterate 7 (refine seqX_hide2 fun R hR => ?_; simp [go_sem, hj, hw1, g4, g7, g8, g9, g25, g26, g27, g34, g35, g36, hi, hw2, bc hP u2, mlk ti76 ti9 (z := .nilIface) (by simp [zeroOf, ti20]) hP hm1 hmf, hfx]; refine hR _ _ _ ?_; clear hR R)
          rw [seqX_nil]
          refine hK _ _ _ ?_; clear hK K
          refine hN20 _ _ _ ?_
          refine xc_two fun N21 hN21 => ?_
          refine xc_reg1 1 rfl fun K hK => ?_
          simp only [show (List.range 1).map (·, true) = [(0, true)] from rfl, rslv_cons, rslv_nil, List.getElem?_toArray, List.getElem?_cons_zero, List.getElem?_cons_succ, gres]
          (refine seqX_hide2 fun R hR => ?_; simp [go_sem, hj, hw1, g4, g7, g8, g9, g25, g26, g27, g34, g35, g36, hi, hw2, bc hP u2, mlk ti76 ti9 (z := .nilIface) (by simp [zeroOf, ti20]) hP hm1 hmf, hfx]; refine hR _ _ _ ?_; clear hR R)
          rw [seqX_nil]
          refine hK _ _ _ ?_; clear hK K
          refine hN21 _ _ _ ?_
          refine xc_iftrue (by simp [go_sem, hj, hw1, g4, g7, g8, g9, g25, g26, g27, g34, g35, g36, hi, hw2, bc hP u2, mlk ti76 ti9 (z := .nilIface) (by simp [zeroOf, ti20]) hP hm1 hmf, hfx]) ?_
          refine xc_two fun N22 hN22 => ?_
          refine xc_reg1 1 rfl fun K hK => ?_
          simp only [show (List.range 1).map (·, true) = [(0, true)] from rfl, rslv_cons, rslv_nil, List.getElem?_toArray, List.getElem?_cons_zero, List.getElem?_cons_succ, gres]
          (refine seqX_hide2 fun R hR => ?_; simp [go_sem, hj, hw1, g4, g7, g8, g9, g25, g26, g27, g34, g35, g36, hi, hw2, bc hP u2, mlk ti76 ti9 (z := .nilIface) (by simp [zeroOf, ti20]) hP hm1 hmf, hfx]; refine hR _ _ _ ?_; clear hR R)
          rw [seqX_nil]
          refine hK _ _ _ ?_; clear hK K
          refine hN22 _ _ _ ?_
          refine xc_iffalse (by simp [go_sem, hj, hw1, g4, g7, g8, g9, g25, g26, g27, g34, g35, g36, hi, hw2, bc hP u2, mlk ti76 ti9 (z := .nilIface) (by simp [zeroOf, ti20]) hP hm1 hmf, hfx]) ?_
          refine xc_reg1 1 rfl fun K hK => ?_
          simp only [show (List.range 1).map (·, true) = [(0, true)] from rfl, rslv_cons, rslv_nil, List.getElem?_toArray, List.getElem?_cons_zero, List.getElem?_cons_succ, gres]
          (refine seqX_hide2 fun R hR => ?_; simp [go_sem, hj, hw1, g4, g7, g8, g9, g25, g26, g27, g34, g35, g36, hi, hw2, bc hP u2, mlk ti76 ti9 (z := .nilIface) (by simp [zeroOf, ti20]) hP hm1 hmf, hfx]; refine hR _ _ _ ?_; clear hR R)
          rw [seqX_nil]
          refine hK _ _ _ ?_; clear hK K
          refine hN16 _ _ _ ?_
          refine xc_reg1 2 rfl fun K hK => ?_
          simp only [show (List.range 2).map (·, true) = [(0, true), (1, true)] from rfl, rslv_cons, rslv_nil, List.getElem?_toArray, List.getElem?_cons_zero, List.getElem?_cons_succ, gres]
          iterate 2 (refine seqX_hide2 fun R hR => ?_; simp [go_sem, hj, hw1, g4, g7, g8, g9, g25, g26, g27, g34, g35, g36, hi, hw2, bc hP u2, mlk ti76 ti9 (z := .nilIface) (by simp [zeroOf, ti20]) hP hm1 hmf, hfx]; refine hR _ _ _ ?_; clear hR R)
          rw [seqX_nil]
          refine hK _ _ _ ?_; clear hK K
          refine hJ2 (x.tags.length - (i + 1)) _ _ _ (by omega) ⟨i + 1, y, true, rfl, rfl, rfl, hP, by simp [go_sem, hj, hw1, g4, g7, g8, g9, g25, g26, g27, g34, g35, g36, hi, hw2, bc hP u2, mlk ti76 ti9 (z := .nilIface) (by simp [zeroOf, ti20]) hP hm1 hmf, hfx], by simp [go_sem, hj, hw1, g4, g7, g8, g9, g25, g26, g27, g34, g35, g36, hi, hw2, bc hP u2, mlk ti76 ti9 (z := .nilIface) (by simp [zeroOf, ti20]) hP hm1 hmf, hfx], by simp [go_sem, hj, hw1, g4, g7, g8, g9, g25, g26, g27, g34, g35, g36, hi, hw2, bc hP u2, mlk ti76 ti9 (z := .nilIface) (by simp [zeroOf, ti20]) hP hm1 hmf, hfx], by simp [go_sem, hj, hw1, g4, g7, g8, g9, g25, g26, g27, g34, g35, g36, hi, hw2, bc hP u2, mlk ti76 ti9 (z := .nilIface) (by simp [zeroOf, ti20]) hP hm1 hmf, hfx], by simp [go_sem, hj, hw1, g4, g7, g8, g9, g25, g26, g27, g34, g35, g36, hi, hw2, bc hP u2, mlk ti76 ti9 (z := .nilIface) (by simp [zeroOf, ti20]) hP hm1 hmf, hfx], by simp [go_sem, hj, hw1, g4, g7, g8, g9, g25, g26, g27, g34, g35, g36, hi, hw2, bc hP u2, mlk ti76 ti9 (z := .nilIface) (by simp [zeroOf, ti20]) hP hm1 hmf, hfx], by simp [go_sem, hj, hw1, g4, g7, g8, g9, g25, g26, g27, g34, g35, g36, hi, hw2, bc hP u2, mlk ti76 ti9 (z := .nilIface) (by simp [zeroOf, ti20]) hP hm1 hmf, hfx], by simp [go_sem, hj, hw1, g4, g7, g8, g9, g25, g26, g27, g34, g35, g36, hi, hw2, bc hP u2, mlk ti76 ti9 (z := .nilIface) (by simp [zeroOf, ti20]) hP hm1 hmf, hfx], by simp [go_sem, hj, hw1, g4, g7, g8, g9, g25, g26, g27, g34, g35, g36, hi, hw2, bc hP u2, mlk ti76 ti9 (z := .nilIface) (by simp [zeroOf, ti20]) hP hm1 hmf, hfx], by simp [go_sem, hj, hw1, g4, g7, g8, g9, g25, g26, g27, g34, g35, g36, hi, hw2, bc hP u2, mlk ti76 ti9 (z := .nilIface) (by simp [zeroOf, ti20]) hP hm1 hmf, hfx], by omega, by rw [hy2]; simp, by rw [hn2]; simp⟩
    · skip
      rw [List.take_of_length_le (by omega)] at hy hn
      have hst := dep_store hc
      have hnew : ∀ b, b = (y || !n) → IsDep (Er D ps) (tagW w x) (dc x.name x.ver x.cond x.alias (.slice b1 x.tags.length c1) b iv) := fun b hb => ⟨_, iv, by simp only [tagW]; rw [← hy, ← hn, ← hb], ht, hiv⟩
      cases y with
      | true =>
        refine xc_two fun N14 hN14 => ?_
        refine xc_reg1 1 rfl fun K hK => ?_
        simp only [show (List.range 1).map (·, true) = [(0, true)] from rfl, rslv_cons, rslv_nil, List.getElem?_toArray, List.getElem?_cons_zero, List.getElem?_cons_succ, gres]
        (refine seqX_hide2 fun R hR => ?_; simp [go_sem, hj, hw1, g4, g7, g8, g9, g25, g26, g27, g34, g35, g36, hi, hst]; refine hR _ _ _ ?_; clear hR R)
        rw [seqX_nil]
        refine hK _ _ _ ?_; clear hK K
        refine hN14 _ _ _ ?_
        refine xc_two fun N15 hN15 => ?_
        refine xc_iffalse (by simp [go_sem, hj, hw1, g4, g7, g8, g9, g25, g26, g27, g34, g35, g36, hi, hst]) ?_
        refine hX2 _ _ _ _ ?_
        refine hN12 _ _ _ ?_
        refine xc_two fun N16 hN16 => ?_
        refine xc_reg1 5 rfl fun K hK => ?_
        simp only [show (List.range 5).map (·, true) = [(0, true), (1, true), (2, true), (3, true), (4, true)] from rfl, rslv_cons, rslv_nil, List.getElem?_toArray, List.getElem?_cons_zero, List.getElem?_cons_succ, gres]
        iterate 5 (refine seqX_hide2 fun R hR => ?_; simp [go_sem, hj, hw1, g4, g7, g8, g9, g25, g26, g27, g34, g35, g36, hi, hst]; refine hR _ _ _ ?_; clear hR R)
        rw [seqX_nil]
        refine hK _ _ _ ?_; clear hK K
        refine hN16 _ _ _ ?_
        refine xc_iffalse (by simp [go_sem, hj, hw1, g4, g7, g8, g9, g25, g26, g27, g34, g35, g36, hi, hst]) ?_
        refine xc_two fun N17 hN17 => ?_
        refine xc_reg1 9 rfl fun K hK => ?_
        simp only [show (List.range 9).map (·, true) = [(0, true), (1, true), (2, true), (3, true), (4, true), (5, true), (6, true), (7, true), (8, true)] from rfl, rslv_cons, rslv_nil, List.getElem?_toArray, List.getElem?_cons_zero, List.getElem?_cons_succ, gres]
        iterate 9 (refine seqX_hide2 fun R hR => ?_; simp [go_sem, hj, hw1, g4, g7, g8, g9, g25, g26, g27, g34, g35, g36, hi, hst]; refine hR _ _ _ ?_; clear hR R)
        rw [seqX_nil]
        refine hK _ _ _ ?_; clear hK K
        refine hN17 _ _ _ ?_
        refine xc_iftrue (by simp [go_sem, hj, hw1, g4, g7, g8, g9, g25, g26, g27, g34, g35, g36, hi, hst]) ?_
        refine xc_reg1 4 rfl fun K hK => ?_
        simp only [show (List.range 4).map (·, true) = [(0, true), (1, true), (2, true), (3, true)] from rfl, rslv_cons, rslv_nil, List.getElem?_toArray, List.getElem?_cons_zero, List.getElem?_cons_succ, gres]
        iterate 3 (refine seqX_hide2 fun R hR => ?_; simp [go_sem, hj, hw1, g4, g7, g8, g9, g25, g26, g27, g34, g35, g36, hi, hst]; refine hR _ _ _ ?_; clear hR R)
        refine seqX_hide2 fun R hR => ?_
        simp [go_sem, hj, hw1, g4, g7, g8, g9, g25, g26, g27, g34, g35, g36, hi, hst]
        refine hR _ _ _ ?_; clear hR R
        rw [seqX_nil]
        refine hK _ _ _ ?_; clear hK K
        refine hN9 _ _ _ ?_
        refine xc_reg1 2 rfl fun K hK => ?_
        simp only [show (List.range 2).map (·, true) = [(0, true), (1, true)] from rfl, rslv_cons, rslv_nil, List.getElem?_toArray, List.getElem?_cons_zero, List.getElem?_cons_succ, gres]
        iterate 2 (refine seqX_hide2 fun R hR => ?_; simp [go_sem, hj, hw1, g4, g7, g8, g9, g25, g26, g27, g34, g35, g36, hi, hst]; refine hR _ _ _ ?_; clear hR R)
        rw [seqX_nil]
        refine hK _ _ _ ?_; clear hK K
        refine hJ1 (l.length - (j + 1)) _ _ _ (by omega) ⟨j + 1, D.set p (.cells (dc x.name x.ver x.cond x.alias (.slice b1 x.tags.length c1) true iv) 95 (0, 0)), rfl, rfl, rfl, hP, by simp [go_sem, hj, hw1, g4, g7, g8, g9, g25, g26, g27, g34, g35, g36, hi, hst], by simp [go_sem, hj, hw1, g4, g7, g8, g9, g25, g26, g27, g34, g35, g36, hi, hst], by simp [go_sem, hj, hw1, g4, g7, g8, g9, g25, g26, g27, g34, g35, g36, hi, hst], by simp [go_sem, hj, hw1, g4, g7, g8, g9, g25, g26, g27, g34, g35, g36, hi, hst], by omega, hset _, hput _ (hnew _ (by simp))⟩
      | false =>
        cases n with
        | true =>
          refine xc_two fun N14 hN14 => ?_
          refine xc_reg1 1 rfl fun K hK => ?_
          simp only [show (List.range 1).map (·, true) = [(0, true)] from rfl, rslv_cons, rslv_nil, List.getElem?_toArray, List.getElem?_cons_zero, List.getElem?_cons_succ, gres]
          (refine seqX_hide2 fun R hR => ?_; simp [go_sem, hj, hw1, g4, g7, g8, g9, g25, g26, g27, g34, g35, g36, hi, hst]; refine hR _ _ _ ?_; clear hR R)
          rw [seqX_nil]
          refine hK _ _ _ ?_; clear hK K
          refine hN14 _ _ _ ?_
          refine xc_two fun N15 hN15 => ?_
          refine xc_iffalse (by simp [go_sem, hj, hw1, g4, g7, g8, g9, g25, g26, g27, g34, g35, g36, hi, hst]) ?_
          refine hX2 _ _ _ _ ?_
          refine hN12 _ _ _ ?_
          refine xc_two fun N16 hN16 => ?_
          refine xc_reg1 5 rfl fun K hK => ?_
          simp only [show (List.range 5).map (·, true) = [(0, true), (1, true), (2, true), (3, true), (4, true)] from rfl, rslv_cons, rslv_nil, List.getElem?_toArray, List.getElem?_cons_zero, List.getElem?_cons_succ, gres]
          iterate 5 (refine seqX_hide2 fun R hR => ?_; simp [go_sem, hj, hw1, g4, g7, g8, g9, g25, g26, g27, g34, g35, g36, hi, hst]; refine hR _ _ _ ?_; clear hR R)
          rw [seqX_nil]
          refine hK _ _ _ ?_; clear hK K
          refine hN16 _ _ _ ?_
          refine xc_iftrue (by simp [go_sem, hj, hw1, g4, g7, g8, g9, g25, g26, g27, g34, g35, g36, hi, hst]) ?_
          refine xc_reg1 4 rfl fun K hK => ?_
          simp only [show (List.range 4).map (·, true) = [(0, true), (1, true), (2, true), (3, true)] from rfl, rslv_cons, rslv_nil, List.getElem?_toArray, List.getElem?_cons_zero, List.getElem?_cons_succ, gres]
          iterate 3 (refine seqX_hide2 fun R hR => ?_; simp [go_sem, hj, hw1, g4, g7, g8, g9, g25, g26, g27, g34, g35, g36, hi, hst]; refine hR _ _ _ ?_; clear hR R)
          refine seqX_hide2 fun R hR => ?_
          simp [go_sem, hj, hw1, g4, g7, g8, g9, g25, g26, g27, g34, g35, g36, hi, hst]
          refine hR _ _ _ ?_; clear hR R
          rw [seqX_nil]
          refine hK _ _ _ ?_; clear hK K
          refine hN9 _ _ _ ?_
          refine xc_reg1 2 rfl fun K hK => ?_
          simp only [show (List.range 2).map (·, true) = [(0, true), (1, true)] from rfl, rslv_cons, rslv_nil, List.getElem?_toArray, List.getElem?_cons_zero, List.getElem?_cons_succ, gres]
          iterate 2 (refine seqX_hide2 fun R hR => ?_; simp [go_sem, hj, hw1, g4, g7, g8, g9, g25, g26, g27, g34, g35, g36, hi, hst]; refine hR _ _ _ ?_; clear hR R)
          rw [seqX_nil]
          refine hK _ _ _ ?_; clear hK K
          refine hJ1 (l.length - (j + 1)) _ _ _ (by omega) ⟨j + 1, D.set p (.cells (dc x.name x.ver x.cond x.alias (.slice b1 x.tags.length c1) false iv) 95 (0, 0)), rfl, rfl, rfl, hP, by simp [go_sem, hj, hw1, g4, g7, g8, g9, g25, g26, g27, g34, g35, g36, hi, hst], by simp [go_sem, hj, hw1, g4, g7, g8, g9, g25, g26, g27, g34, g35, g36, hi, hst], by simp [go_sem, hj, hw1, g4, g7, g8, g9, g25, g26, g27, g34, g35, g36, hi, hst], by simp [go_sem, hj, hw1, g4, g7, g8, g9, g25, g26, g27, g34, g35, g36, hi, hst], by omega, hset _, hput _ (hnew _ (by simp))⟩
        | false =>
          refine xc_two fun N14 hN14 => ?_
          refine xc_reg1 1 rfl fun K hK => ?_
          simp only [show (List.range 1).map (·, true) = [(0, true)] from rfl, rslv_cons, rslv_nil, List.getElem?_toArray, List.getElem?_cons_zero, List.getElem?_cons_succ, gres]
          (refine seqX_hide2 fun R hR => ?_; simp [go_sem, hj, hw1, g4, g7, g8, g9, g25, g26, g27, g34, g35, g36, hi, hst]; refine hR _ _ _ ?_; clear hR R)
          rw [seqX_nil]
          refine hK _ _ _ ?_; clear hK K
          refine hN14 _ _ _ ?_
          refine xc_two fun N15 hN15 => ?_
          refine xc_iffalse (by simp [go_sem, hj, hw1, g4, g7, g8, g9, g25, g26, g27, g34, g35, g36, hi, hst]) ?_
          refine hX2 _ _ _ _ ?_
          refine hN12 _ _ _ ?_
          refine xc_two fun N16 hN16 => ?_
          refine xc_reg1 5 rfl fun K hK => ?_
          simp only [show (List.range 5).map (·, true) = [(0, true), (1, true), (2, true), (3, true), (4, true)] from rfl, rslv_cons, rslv_nil, List.getElem?_toArray, List.getElem?_cons_zero, List.getElem?_cons_succ, gres]
          iterate 5 (refine seqX_hide2 fun R hR => ?_; simp [go_sem, hj, hw1, g4, g7, g8, g9, g25, g26, g27, g34, g35, g36, hi, hst]; refine hR _ _ _ ?_; clear hR R)
          rw [seqX_nil]
          refine hK _ _ _ ?_; clear hK K
          refine hN16 _ _ _ ?_
          refine xc_iffalse (by simp [go_sem, hj, hw1, g4, g7, g8, g9, g25, g26, g27, g34, g35, g36, hi, hst]) ?_
          refine xc_two fun N17 hN17 => ?_
          refine xc_reg1 9 rfl fun K hK => ?_
          simp only [show (List.range 9).map (·, true) = [(0, true), (1, true), (2, true), (3, true), (4, true), (5, true), (6, true), (7, true), (8, true)] from rfl, rslv_cons, rslv_nil, List.getElem?_toArray, List.getElem?_cons_zero, List.getElem?_cons_succ, gres]
          iterate 9 (refine seqX_hide2 fun R hR => ?_; simp [go_sem, hj, hw1, g4, g7, g8, g9, g25, g26, g27, g34, g35, g36, hi, hst]; refine hR _ _ _ ?_; clear hR R)
          rw [seqX_nil]
          refine hK _ _ _ ?_; clear hK K
          refine hN17 _ _ _ ?_
          refine xc_iftrue (by simp [go_sem, hj, hw1, g4, g7, g8, g9, g25, g26, g27, g34, g35, g36, hi, hst]) ?_
          refine xc_reg1 4 rfl fun K hK => ?_
          simp only [show (List.range 4).map (·, true) = [(0, true), (1, true), (2, true), (3, true)] from rfl, rslv_cons, rslv_nil, List.getElem?_toArray, List.getElem?_cons_zero, List.getElem?_cons_succ, gres]
          iterate 3 (refine seqX_hide2 fun R hR => ?_; simp [go_sem, hj, hw1, g4, g7, g8, g9, g25, g26, g27, g34, g35, g36, hi, hst]; refine hR _ _ _ ?_; clear hR R)
          refine seqX_hide2 fun R hR => ?_
          simp [go_sem, hj, hw1, g4, g7, g8, g9, g25, g26, g27, g34, g35, g36, hi, hst]
          refine hR _ _ _ ?_; clear hR R
          rw [seqX_nil]
          refine hK _ _ _ ?_; clear hK K
          refine hN9 _ _ _ ?_
          refine xc_reg1 2 rfl fun K hK => ?_
          simp only [show (List.range 2).map (·, true) = [(0, true), (1, true)] from rfl, rslv_cons, rslv_nil, List.getElem?_toArray, List.getElem?_cons_zero, List.getElem?_cons_succ, gres]
          iterate 2 (refine seqX_hide2 fun R hR => ?_; simp [go_sem, hj, hw1, g4, g7, g8, g9, g25, g26, g27, g34, g35, g36, hi, hst]; refine hR _ _ _ ?_; clear hR R)
          rw [seqX_nil]
          refine hK _ _ _ ?_; clear hK K
          refine hJ1 (l.length - (j + 1)) _ _ _ (by omega) ⟨j + 1, D.set p (.cells (dc x.name x.ver x.cond x.alias (.slice b1 x.tags.length c1) true iv) 95 (0, 0)), rfl, rfl, rfl, hP, by simp [go_sem, hj, hw1, g4, g7, g8, g9, g25, g26, g27, g34, g35, g36, hi, hst], by simp [go_sem, hj, hw1, g4, g7, g8, g9, g25, g26, g27, g34, g35, g36, hi, hst], by simp [go_sem, hj, hw1, g4, g7, g8, g9, g25, g26, g27, g34, g35, g36, hi, hst], by simp [go_sem, hj, hw1, g4, g7, g8, g9, g25, g26, g27, g34, g35, g36, hi, hst], by omega, hset _, hput _ (hnew _ (by simp))⟩
  · skip
    rw [List.take_of_length_le (by omega), List.drop_of_length_le (by omega), List.append_nil] at hD
    refine xc_two fun N7 hN7 => ?_
    refine xc_reg1 1 rfl fun K hK => ?_
    simp only [show (List.range 1).map (·, true) = [(0, true)] from rfl, rslv_cons, rslv_nil, List.getElem?_toArray, List.getElem?_cons_zero, List.getElem?_cons_succ, gres]
    (refine seqX_hide2 fun R hR => ?_; simp [go_sem, g4, g25, g26, g27, hj]; refine hR _ _ _ ?_; clear hR R)
    rw [seqX_nil]
    refine hK _ _ _ ?_; clear hK K
    refine hN7 _ _ _ ?_
    refine xc_two fun N8 hN8 => ?_
    refine xc_iffalse (by simp [go_sem, g4, g25, g26, g27]) ?_
    refine hX1 _ _ _ _ ?_
    simp [go_sem, g4, g25, g26, g27]
    exact ⟨by rw [hTR]; exact hD, by rw [ov_nil, hE]; exact hE0⟩
end Go.Proofs.YtogfpbnbojhpoaaV

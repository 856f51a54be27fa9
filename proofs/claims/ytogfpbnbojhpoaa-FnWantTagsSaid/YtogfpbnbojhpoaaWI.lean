/- Charts: FnWantTags. -/
import Derived.Test.YtogfpbnbojhpoaaWH
namespace Go.Proofs.YtogfpbnbojhpoaaV
open Go.RowKit
set_option linter.unusedSimpArgs false
set_option linter.unusedVariables false
theorem caught35 (p q : Addr) (w : World) :
    CallsD Try.prog 35 #[.pointer (some p), .pointer (some q)] .returning w fun e u' w' => (∃ v, e = .returned v) ∧ u' = .returning ∧ w' = w := by
  refine callsD_of_wpS Try.func35 rfl fun c₀ cs hu => ?_
  apply wpS_seq
  apply wpS_region
  simp [wpOpsS, go_sem, recoverD, hu, Try.ntmps35, Exit.thenS]
  refine wpS_cond (t := false) (by simp [Act.eval, Array.replicate]) ?_
  simp only [Bool.false_eq_true, if_false]
  refine wpS_of_wp (wp_skip ?_)
  cases c₀
  simp_all [bodyPostS, results, Try.results35]
set_option maxRecDepth 20000 in
theorem ztags38 (A : View) (u : Value) (ps : List Nat) (l : List Wt) (v : RV) (r lv : Nat) (hdep : Deps A ps l) (hrow : Row (Er A ps) 1 u ps.length (ps.map ptr0)) (hT : TabV (Er A ps) v r) (h7 : kindOf v = 7) (hG : Good v lv) (hll : l.length ≤ 1000) (htl : ∀ w ∈ l, w.tags.length ≤ 1000) :
    VCalls Try.prog 38 #[u, .map (some r)] A fun x A' => Deps A' ps (tagsR v l) ∧ Er A ps ≤ Er A' ps := by
  refine xcalls Try.func38 rfl (by simp [Try.ntmps38]) ?_
  simp only [Try.f38]
  have hP : Priv A (addrs []) := Priv.nil A
  show xc _ _ _ _ _ _ (ov A [])
  refine xc_reg1 3 rfl fun K hK => ?_
  simp only [show (List.range 3).map (·, true) = [(0, true), (1, true), (2, true)] from rfl, rslv_cons, rslv_nil, List.getElem?_toArray, List.getElem?_cons_zero, List.getElem?_cons_succ, gres]
  iterate 2 (refine seqX_hide2 fun R hR => ?_; simp [go_sem]; refine hR _ _ _ ?_; clear hR R)
  refine seqX_hide2 fun R hR => ?_
  simp [go_sem]
  refine call_ov hP (process65 A u ps l v r lv hdep hrow hT h7 hG hll htl) ?_
  clear hP
  rintro x B ⟨h1, h2⟩ hP
  refine hR _ _ _ ?_; clear hR R
  rw [seqX_nil]
  refine hK _ _ _ ?_; clear hK K
  simp [go_sem]
  exact ⟨h1, h2⟩
theorem tagsR_len (v : RV) (l : List Wt) : (tagsR v l).length = l.length := by
  unfold tagsR
  split
  · rfl
  · rw [List.length_map]
theorem tagsR_all {v : RV} {l : List Wt} {P : Wt → Prop} (h : ∀ w ∈ l, P w) (hP : ∀ w b, P w → P { w with en := b }) : ∀ w ∈ tagsR v l, P w := by
  unfold tagsR
  split
  · exact h
  · rename_i u _
    intro w hw
    obtain ⟨x, hx, rfl⟩ := List.mem_map.1 hw
    exact hP _ _ (h x hx)
set_option maxRecDepth 20000 in
set_option maxHeartbeats 8000000 in
theorem wantTags13 (A : View) (u : Value) (l : List Wt) (v : RV) (c : Array Value) (h : Wants A u l) (hl : l.length ≤ 20) (hv : ∀ w ∈ l, VOK w.ver ∧ w.ver.size ≤ 2147483648 ∧ w.tags.length ≤ 10 ∧ w.imps.length ≤ 10 ∧ ∀ i ∈ w.imps, IR i) (hc : IsRV A v c) (h7 : kindOf v = 7) (hG : Good v 50) (hn : nodes v ≤ 1000) :
    VCalls Try.prog 13 #[u, .agg c] A fun r A' => ∃ x, r = .tuple #[x, .int .i64 0] ∧ A ≤ A' ∧ Wants A' x (tagsR v l) := by
  have hcz := hc.size
  have hco := hc.ones
  have hus := h.slice
  obtain ⟨bs, cp, rfl⟩ := hus
  refine xcallsD Try.func13 rfl (by simp [Try.ntmps13]) ?_
  simp only [Try.f13]
  have hP : Priv A (addrs []) := Priv.nil A
  show xc _ _ _ _ _ _ (ov A [])
  refine xc_two fun N1 hN1 => ?_
  refine xc_reg1 3 rfl fun K hK => ?_
  simp only [show (List.range 3).map (·, true) = [(0, true), (1, true), (2, true)] from rfl, rslv_cons, rslv_nil, List.getElem?_toArray, List.getElem?_cons_zero, List.getElem?_cons_succ, gres]
  refine seqX_hide2 fun R hR => ?_
  simp [go_sem, hcz, hco]
  intro q3 hq3
  replace hP := hP.cons hq3
  clear hq3
  refine hR _ _ _ ?_; clear hR R
  refine seqX_hide2 fun R hR => ?_
  simp [go_sem, hcz, hco]
  intro q4 hq4
  replace hP := hP.cons hq4
  clear hq4
  have d43 : q4 ≠ q3 := (hP.ne q3 (by simp [addrs])).1
  have d34 : q3 ≠ q4 := (hP.ne q3 (by simp [addrs])).2
  refine hR _ _ _ ?_; clear hR R
  refine seqX_hide2 fun R hR => ?_
  simp [go_sem, hcz, hco, d43, d34]
  intro q5 hq5
  replace hP := hP.cons hq5
  clear hq5
  have d54 : q5 ≠ q4 := (hP.ne q4 (by simp [addrs])).1
  have d45 : q4 ≠ q5 := (hP.ne q4 (by simp [addrs])).2
  have d53 : q5 ≠ q3 := (hP.ne q3 (by simp [addrs])).1
  have d35 : q3 ≠ q5 := (hP.ne q3 (by simp [addrs])).2
  refine hR _ _ _ ?_; clear hR R
  rw [seqX_nil]
  refine hK _ _ _ ?_; clear hK K
  refine hN1 _ _ _ ?_
  refine xc_two fun N2 hN2 => ?_
  refine xc_reg1 2 rfl fun K hK => ?_
  simp only [show (List.range 2).map (·, true) = [(0, true), (1, true)] from rfl, rslv_cons, rslv_nil, List.getElem?_toArray, List.getElem?_cons_zero, List.getElem?_cons_succ, gres]
  (refine seqX_hide2 fun R hR => ?_; simp [go_sem, hcz, hco, d43, d34, d54, d45, d53, d35]; refine hR _ _ _ ?_; clear hR R)
  refine seqX_hide2 fun R hR => ?_
  simp [go_sem, hcz, hco, d43, d34, d54, d45, d53, d35, toDefer]
  refine hR _ _ _ ?_; clear hR R
  rw [seqX_nil]
  refine hK _ _ _ ?_; clear hK K
  refine hN2 _ _ _ ?_
  refine xc_two fun N3 hN3 => ?_
  refine xc_reg1 7 rfl fun K hK => ?_
  simp only [show (List.range 7).map (·, true) = [(0, true), (1, true), (2, true), (3, true), (4, true), (5, true), (6, true)] from rfl, rslv_cons, rslv_nil, List.getElem?_toArray, List.getElem?_cons_zero, List.getElem?_cons_succ, gres]
  (refine seqX_hide2 fun R hR => ?_; simp [go_sem, hcz, hco, d43, d34, d54, d45, d53, d35]; refine hR _ _ _ ?_; clear hR R)
  refine seqX_hide2 fun R hR => ?_
  simp [go_sem, hcz, hco, d43, d34, d54, d45, d53, d35]
  refine call_ov hP (table36 v A c 50 hc hG (by decide) (by omega) (.inr h7)) ?_
  clear hP
  rintro _ A1 ⟨x, rfl, hA1, hx⟩ hP
  obtain ⟨h0, -⟩ | ⟨r, -, rfl, hT⟩ := hx
  · omega
  refine hR _ _ _ ?_; clear hR R
  iterate 5 (refine seqX_hide2 fun R hR => ?_; simp [go_sem, hcz, hco, d43, d34, d54, d45, d53, d35]; refine hR _ _ _ ?_; clear hR R)
  rw [seqX_nil]
  refine hK _ _ _ ?_; clear hK K
  refine hN3 _ _ _ ?_
  refine xc_two fun N4 hN4 => ?_
  refine xc_reg1 7 rfl fun K hK => ?_
  simp only [show (List.range 7).map (·, true) = [(0, true), (1, true), (2, true), (3, true), (4, true), (5, true), (6, true)] from rfl, rslv_cons, rslv_nil, List.getElem?_toArray, List.getElem?_cons_zero, List.getElem?_cons_succ, gres]
  (refine seqX_hide2 fun R hR => ?_; simp [go_sem, hcz, hco, d43, d34, d54, d45, d53, d35]; refine hR _ _ _ ?_; clear hR R)
  refine seqX_hide2 fun R hR => ?_
  simp [go_sem, hcz, hco, d43, d34, d54, d45, d53, d35]
  refine call_ov hP (wantsOf37 A1 _ l (h.le hA1) hl (fun w hw => ⟨(hv w hw).1, (hv w hw).2.1, (hv w hw).2.2.1, (hv w hw).2.2.2.1⟩)) ?_
  clear hP
  rintro _ A2 ⟨uv, ps, rfl, hlow, hdep, hrow⟩ hP
  have hA2 := View.le_trans hlow (Er.sub A2 ps)
  refine hR _ _ _ ?_; clear hR R
  iterate 5 (refine seqX_hide2 fun R hR => ?_; simp [go_sem, hcz, hco, d43, d34, d54, d45, d53, d35]; refine hR _ _ _ ?_; clear hR R)
  rw [seqX_nil]
  refine hK _ _ _ ?_; clear hK K
  refine hN4 _ _ _ ?_
  refine xc_two fun N5 hN5 => ?_
  refine xc_two fun N6 hN6 => ?_
  refine xc_reg1 6 rfl fun K hK => ?_
  simp only [show (List.range 6).map (·, true) = [(0, true), (1, true), (2, true), (3, true), (4, true), (5, true)] from rfl, rslv_cons, rslv_nil, List.getElem?_toArray, List.getElem?_cons_zero, List.getElem?_cons_succ, gres]
  iterate 6 (refine seqX_hide2 fun R hR => ?_; simp [go_sem, hcz, hco, d43, d34, d54, d45, d53, d35]; refine hR _ _ _ ?_; clear hR R)
  rw [seqX_nil]
  refine hK _ _ _ ?_; clear hK K
  refine hN6 _ _ _ ?_
  refine xc_iffalse (by simp [go_sem, hcz, hco, d43, d34, d54, d45, d53, d35]) ?_
  refine hN5 _ _ _ ?_
  refine xc_two fun N7 hN7 => ?_
  refine xc_reg1 3 rfl fun K hK => ?_
  simp only [show (List.range 3).map (·, true) = [(0, true), (1, true), (2, true)] from rfl, rslv_cons, rslv_nil, List.getElem?_toArray, List.getElem?_cons_zero, List.getElem?_cons_succ, gres]
  iterate 2 (refine seqX_hide2 fun R hR => ?_; simp [go_sem, hcz, hco, d43, d34, d54, d45, d53, d35]; refine hR _ _ _ ?_; clear hR R)
  refine seqX_hide2 fun R hR => ?_
  simp [go_sem, hcz, hco, d43, d34, d54, d45, d53, d35]
  refine call_ov hP (ztags38 A2 uv ps l v r 50 hdep hrow (AnyV.le hlow _ _ hT) h7 hG (by omega) (fun w hw => by have := (hv w hw).2.2.1; omega)) ?_
  clear hP
  rintro _ A3 ⟨hdep3, hE3⟩ hP
  have hA3 := View.le_trans hA1 (View.le_trans hlow (View.le_trans hE3 (Er.sub A3 ps)))
  refine hR _ _ _ ?_; clear hR R
  rw [seqX_nil]
  refine hK _ _ _ ?_; clear hK K
  refine hN7 _ _ _ ?_
  refine xc_two fun N8 hN8 => ?_
  refine xc_reg1 4 rfl fun K hK => ?_
  simp only [show (List.range 4).map (·, true) = [(0, true), (1, true), (2, true), (3, true)] from rfl, rslv_cons, rslv_nil, List.getElem?_toArray, List.getElem?_cons_zero, List.getElem?_cons_succ, gres]
  (refine seqX_hide2 fun R hR => ?_; simp [go_sem, hcz, hco, d43, d34, d54, d45, d53, d35]; refine hR _ _ _ ?_; clear hR R)
  refine seqX_hide2 fun R hR => ?_
  simp [go_sem, hcz, hco, d43, d34, d54, d45, d53, d35]
  refine call_ov hP (wantsBack39 A3 uv ps (tagsR v l) hdep3 (hrow.le hE3) (by rw [tagsR_len]; omega) (tagsR_all (fun w hw => ⟨by have := (hv w hw).2.2.1; omega, by have := (hv w hw).2.2.2.1; omega, (hv w hw).2.2.2.2⟩) fun w b h => h)) ?_
  clear hP
  rintro x A4 ⟨hw4, hA4⟩ hP
  obtain ⟨b4, c4, rfl⟩ := hw4.slice
  refine hR _ _ _ ?_; clear hR R
  refine seqX_hide2 fun R hR => ?_
  simp [go_sem, hcz, hco, d43, d34, d54, d45, d53, d35]
  refine hR _ _ _ ?_; clear hR R
  refine seqX_hide2 fun R hR => ?_
  simp [go_sem, hcz, hco, d43, d34, d54, d45, d53, d35]
  refine hR _ _ _ ?_; clear hR R
  rw [seqX_nil]
  refine hK _ _ _ ?_; clear hK K
  refine hN8 _ _ _ ?_
  have hidle : Idle Try.prog { target := .fn (.func 35) #[.pointer (some ⟨q4, 0, none⟩), .pointer (some ⟨q5, 0, none⟩)], args := #[] } := by
    intro w'
    exact ⟨_, _, 35, #[.pointer (some ⟨q4, 0, none⟩), .pointer (some ⟨q5, 0, none⟩)], rfl, by simp [go_sem, invoke], caught35 _ _ _⟩
  simp [go_sem, hcz, hco, d43, d34, d54, d45, d53, d35]
  refine ⟨hidle, View.le_trans hA3 (View.le_trans hA4 ?_), hw4.le ?_⟩
  · exact le_ov hP
  · exact le_ov hP
def ver1 : ByteArray := ⟨#[49, 46, 48, 46, 48]⟩
def want1 : Wt := ⟨⟨#[]⟩, ver1, ⟨#[]⟩, ⟨#[]⟩, [], false, []⟩
theorem vok1 : VOK ver1 := by
  have h : parts ver1 = [⟨#[49]⟩, ⟨#[48]⟩, ⟨#[48]⟩] := by kernel_rfl
  unfold VOK
  rw [h]
  refine ⟨rfl, fun p hp => ?_⟩
  simp only [List.mem_cons, List.not_mem_nil, or_false] at hp
  have h49 : PV (bl ⟨#[49]⟩) := ⟨by intro b hb; rw [show bl ⟨#[49]⟩ = [49] from rfl, List.mem_singleton] at hb; subst hb; decide, by decide, by decide, by decide⟩
  have h48 : PV (bl ⟨#[48]⟩) := ⟨by intro b hb; rw [show bl ⟨#[48]⟩ = [48] from rfl, List.mem_singleton] at hb; subst hb; decide, by decide, by decide, by decide⟩
  rcases hp with rfl | rfl | rfl
  · exact h49
  · exact h48
  · exact h48
theorem wants_one {D : View} {q : Nat} (h : D q = some (.cells (wc ⟨#[]⟩ ver1 ⟨#[]⟩ ⟨#[]⟩ nl false nl) 34 (0, 0))) : Wants D (.slice (some ⟨q, 0, none⟩) 1 1) [want1] := by
  refine ⟨some ⟨q, 0, none⟩, 1, rfl, fun j hj => ?_⟩
  obtain rfl : j = 0 := by simp at hj; omega
  exact ⟨_, _, rfl, cells_block h rfl, nl, nl, rfl, .inr ⟨rfl, rfl, rfl⟩, Elems.nil _ _ _⟩
set_option maxRecDepth 20000 in
set_option maxHeartbeats 8000000 in
theorem wtags3 (A : View) (u : Value) (l : List Wt) (v : RV) (c : Array Value) (h : Wants A u l) (hc : IsRV A v c) : VCalls Try.prog 3 #[u, .agg c] A fun r A' => r = .bool true ∧ A ≤ A' := by
  have hcz := hc.size
  have hco := hc.ones
  have hus := h.slice
  obtain ⟨bs, cp, rfl⟩ := hus
  refine xcalls Try.func3 rfl (by simp [Try.ntmps3]) ?_
  simp only [Try.f3]
  have hP : Priv A (addrs []) := Priv.nil A
  show xc _ _ _ _ _ _ (ov A [])
  refine xc_two fun N1 hN1 => ?_
  refine xc_reg1 2 rfl fun K hK => ?_
  simp only [show (List.range 2).map (·, true) = [(0, true), (1, true)] from rfl, rslv_cons, rslv_nil, List.getElem?_toArray, List.getElem?_cons_zero, List.getElem?_cons_succ, gres]
  refine seqX_hide2 fun R hR => ?_
  simp [go_sem, hcz, hco]
  intro q3 hq3
  replace hP := hP.cons hq3
  clear hq3
  refine hR _ _ _ ?_; clear hR R
  (refine seqX_hide2 fun R hR => ?_; simp [go_sem, hcz, hco]; refine hR _ _ _ ?_; clear hR R)
  rw [seqX_nil]
  refine hK _ _ _ ?_; clear hK K
  refine hN1 _ _ _ ?_
  refine xc_two fun N2 hN2 => ?_
  refine xc_two fun N3 hN3 => ?_
  refine xc_reg1 8 rfl fun K hK => ?_
  simp only [show (List.range 8).map (·, true) = [(0, true), (1, true), (2, true), (3, true), (4, true), (5, true), (6, true), (7, true)] from rfl, rslv_cons, rslv_nil, List.getElem?_toArray, List.getElem?_cons_zero, List.getElem?_cons_succ, gres]
  (refine seqX_hide2 fun R hR => ?_; simp [go_sem, hcz, hco]; refine hR _ _ _ ?_; clear hR R)
  refine seqX_hide2 fun R hR => ?_
  simp [go_sem, hcz, hco]
  refine call_ov hP (fits9 A _ l h) ?_
  clear hP
  rintro _ A1 ⟨⟨x, rfl, hx⟩, hA1⟩ hP
  cases x with
  | false =>
    refine hR _ _ _ ?_; clear hR R
    iterate 3 (refine seqX_hide2 fun R hR => ?_; simp [go_sem, hcz, hco]; refine hR _ _ _ ?_; clear hR R)
    refine seqX_hide2 fun R hR => ?_
    simp [go_sem, hcz, hco]
    refine hR _ _ _ ?_; clear hR R
    iterate 2 (refine seqX_hide2 fun R hR => ?_; simp [go_sem, hcz, hco]; refine hR _ _ _ ?_; clear hR R)
    rw [seqX_nil]
    refine hK _ _ _ ?_; clear hK K
    refine hN3 _ _ _ ?_
    refine xc_iftrue (by simp [go_sem, hcz, hco]) ?_
    refine xc_two fun N4 hN4 => ?_
    refine xc_reg1 1 rfl fun K hK => ?_
    simp only [show (List.range 1).map (·, true) = [(0, true)] from rfl, rslv_cons, rslv_nil, List.getElem?_toArray, List.getElem?_cons_zero, List.getElem?_cons_succ, gres]
    (refine seqX_hide2 fun R hR => ?_; simp [go_sem, hcz, hco]; refine hR _ _ _ ?_; clear hR R)
    rw [seqX_nil]
    refine hK _ _ _ ?_; clear hK K
    refine hN4 _ _ _ ?_
    simp [go_sem, hcz, hco]
    exact View.le_trans hA1 (le_ov hP)
  | true =>
  obtain ⟨hll, hwz⟩ := hx rfl
  refine hR _ _ _ ?_; clear hR R
  iterate 3 (refine seqX_hide2 fun R hR => ?_; simp [go_sem, hcz, hco]; refine hR _ _ _ ?_; clear hR R)
  refine seqX_hide2 fun R hR => ?_
  simp [go_sem, hcz, hco]
  refine call_ov hP (fits10 A1 v c (hc.le hA1)) ?_
  clear hP
  rintro _ A2 ⟨⟨x, rfl⟩, hA2⟩ hP
  cases x with
  | false =>
    refine hR _ _ _ ?_; clear hR R
    iterate 2 (refine seqX_hide2 fun R hR => ?_; simp [go_sem, hcz, hco]; refine hR _ _ _ ?_; clear hR R)
    rw [seqX_nil]
    refine hK _ _ _ ?_; clear hK K
    refine hN3 _ _ _ ?_
    refine xc_iftrue (by simp [go_sem, hcz, hco]) ?_
    refine xc_two fun N4 hN4 => ?_
    refine xc_reg1 1 rfl fun K hK => ?_
    simp only [show (List.range 1).map (·, true) = [(0, true)] from rfl, rslv_cons, rslv_nil, List.getElem?_toArray, List.getElem?_cons_zero, List.getElem?_cons_succ, gres]
    (refine seqX_hide2 fun R hR => ?_; simp [go_sem, hcz, hco]; refine hR _ _ _ ?_; clear hR R)
    rw [seqX_nil]
    refine hK _ _ _ ?_; clear hK K
    refine hN4 _ _ _ ?_
    simp [go_sem, hcz, hco]
    exact View.le_trans (View.le_trans hA1 hA2) (le_ov hP)
  | true =>
  refine hR _ _ _ ?_; clear hR R
  iterate 2 (refine seqX_hide2 fun R hR => ?_; simp [go_sem, hcz, hco]; refine hR _ _ _ ?_; clear hR R)
  rw [seqX_nil]
  refine hK _ _ _ ?_; clear hK K
  refine hN3 _ _ _ ?_
  refine xc_iffalse (by simp [go_sem, hcz, hco]) ?_
  refine hN2 _ _ _ ?_
  refine xc_two fun N4 hN4 => ?_
  refine xc_two fun N5 hN5 => ?_
  refine xc_reg1 8 rfl fun K hK => ?_
  simp only [show (List.range 8).map (·, true) = [(0, true), (1, true), (2, true), (3, true), (4, true), (5, true), (6, true), (7, true)] from rfl, rslv_cons, rslv_nil, List.getElem?_toArray, List.getElem?_cons_zero, List.getElem?_cons_succ, gres]
  (refine seqX_hide2 fun R hR => ?_; simp [go_sem, hcz, hco]; refine hR _ _ _ ?_; clear hR R)
  refine seqX_hide2 fun R hR => ?_
  simp [go_sem, hcz, hco]
  have hA := View.le_trans hA1 hA2
  refine call_ov hP (wants11 A2 _ l (h.le hA) hll hwz) ?_
  clear hP
  rintro _ A3 ⟨⟨x, rfl, hx⟩, hA3⟩ hP
  have hA := View.le_trans hA hA3
  cases x with
  | false =>
    refine hR _ _ _ ?_; clear hR R
    iterate 3 (refine seqX_hide2 fun R hR => ?_; simp [go_sem, hcz, hco]; refine hR _ _ _ ?_; clear hR R)
    refine seqX_hide2 fun R hR => ?_
    simp [go_sem, hcz, hco]
    refine hR _ _ _ ?_; clear hR R
    iterate 2 (refine seqX_hide2 fun R hR => ?_; simp [go_sem, hcz, hco]; refine hR _ _ _ ?_; clear hR R)
    rw [seqX_nil]
    refine hK _ _ _ ?_; clear hK K
    refine hN5 _ _ _ ?_
    refine xc_iftrue (by simp [go_sem, hcz, hco]) ?_
    refine xc_two fun N6 hN6 => ?_
    refine xc_reg1 1 rfl fun K hK => ?_
    simp only [show (List.range 1).map (·, true) = [(0, true)] from rfl, rslv_cons, rslv_nil, List.getElem?_toArray, List.getElem?_cons_zero, List.getElem?_cons_succ, gres]
    (refine seqX_hide2 fun R hR => ?_; simp [go_sem, hcz, hco]; refine hR _ _ _ ?_; clear hR R)
    rw [seqX_nil]
    refine hK _ _ _ ?_; clear hK K
    refine hN6 _ _ _ ?_
    simp [go_sem, hcz, hco]
    exact View.le_trans hA (le_ov hP)
  | true =>
  obtain ⟨hl20, hwr⟩ := hx rfl
  refine hR _ _ _ ?_; clear hR R
  iterate 3 (refine seqX_hide2 fun R hR => ?_; simp [go_sem, hcz, hco]; refine hR _ _ _ ?_; clear hR R)
  refine seqX_hide2 fun R hR => ?_
  simp [go_sem, hcz, hco]
  refine call_ov hP (tbTable12 A3 v c (hc.le hA)) ?_
  clear hP
  rintro _ A4 ⟨⟨x, rfl, hx⟩, hA4⟩ hP
  have hA := View.le_trans hA hA4
  cases x with
  | false =>
    refine hR _ _ _ ?_; clear hR R
    iterate 2 (refine seqX_hide2 fun R hR => ?_; simp [go_sem, hcz, hco]; refine hR _ _ _ ?_; clear hR R)
    rw [seqX_nil]
    refine hK _ _ _ ?_; clear hK K
    refine hN5 _ _ _ ?_
    refine xc_iftrue (by simp [go_sem, hcz, hco]) ?_
    refine xc_two fun N6 hN6 => ?_
    refine xc_reg1 1 rfl fun K hK => ?_
    simp only [show (List.range 1).map (·, true) = [(0, true)] from rfl, rslv_cons, rslv_nil, List.getElem?_toArray, List.getElem?_cons_zero, List.getElem?_cons_succ, gres]
    (refine seqX_hide2 fun R hR => ?_; simp [go_sem, hcz, hco]; refine hR _ _ _ ?_; clear hR R)
    rw [seqX_nil]
    refine hK _ _ _ ?_; clear hK K
    refine hN6 _ _ _ ?_
    simp [go_sem, hcz, hco]
    exact View.le_trans hA (le_ov hP)
  | true =>
  obtain ⟨h7, hG, hn⟩ := hx rfl
  refine hR _ _ _ ?_; clear hR R
  iterate 2 (refine seqX_hide2 fun R hR => ?_; simp [go_sem, hcz, hco]; refine hR _ _ _ ?_; clear hR R)
  rw [seqX_nil]
  refine hK _ _ _ ?_; clear hK K
  refine hN5 _ _ _ ?_
  refine xc_iffalse (by simp [go_sem, hcz, hco]) ?_
  refine hN4 _ _ _ ?_
  refine xc_two fun N6 hN6 => ?_
  refine xc_reg1 8 rfl fun K hK => ?_
  simp only [show (List.range 8).map (·, true) = [(0, true), (1, true), (2, true), (3, true), (4, true), (5, true), (6, true), (7, true)] from rfl, rslv_cons, rslv_nil, List.getElem?_toArray, List.getElem?_cons_zero, List.getElem?_cons_succ, gres]
  iterate 2 (refine seqX_hide2 fun R hR => ?_; simp [go_sem, hcz, hco]; refine hR _ _ _ ?_; clear hR R)
  refine seqX_hide2 fun R hR => ?_
  simp [go_sem, hcz, hco]
  refine call_ov hP (wantTags13 A4 _ l v c (h.le hA) hl20 (fun w hw => ⟨(hwr w hw).1, by have := (hwz w hw).1; omega, (hwr w hw).2.2.1, (hwr w hw).2.2.2.1, (hwr w hw).2.2.2.2.2.2⟩) (hc.le hA) h7 hG (by omega)) ?_
  clear hP
  rintro _ A5 ⟨x5, rfl, hA5, hw5⟩ hP
  have hA := View.le_trans hA hA5
  refine hR _ _ _ ?_; clear hR R
  iterate 5 (refine seqX_hide2 fun R hR => ?_; simp [go_sem, hcz, hco]; refine hR _ _ _ ?_; clear hR R)
  rw [seqX_nil]
  refine hK _ _ _ ?_; clear hK K
  refine hN6 _ _ _ ?_
  refine xc_two fun N7 hN7 => ?_
  refine xc_reg1 9 rfl fun K hK => ?_
  simp only [show (List.range 9).map (·, true) = [(0, true), (1, true), (2, true), (3, true), (4, true), (5, true), (6, true), (7, true), (8, true)] from rfl, rslv_cons, rslv_nil, List.getElem?_toArray, List.getElem?_cons_zero, List.getElem?_cons_succ, gres]
  (refine seqX_hide2 fun R hR => ?_; simp [go_sem, hcz, hco]; refine hR _ _ _ ?_; clear hR R)
  refine seqX_hide2 fun R hR => ?_
  simp [go_sem, hcz, hco]
  intro q33 hq33
  replace hP := hP.cons hq33
  clear hq33
  have d333 : q33 ≠ q3 := (hP.ne q3 (by simp [addrs])).1
  have d333 : q3 ≠ q33 := (hP.ne q3 (by simp [addrs])).2
  refine hR _ _ _ ?_; clear hR R
  (refine seqX_hide2 fun R hR => ?_; simp [go_sem, hcz, hco, d333, d333]; refine hR _ _ _ ?_; clear hR R)
  refine seqX_hide2 fun R hR => ?_
  simp [go_sem, hcz, hco, d333, d333]
  obtain ⟨eq33, hPn, nq33⟩ := sinkI (A := A5) (L := [(q33, .cells (wc ⟨#[]⟩ ⟨#[49, 46, 48, 46, 48]⟩ ⟨#[]⟩ ⟨#[]⟩ nl false nl) 34 (0, 0)), (q3, .cells c 27 (0, 0))]) 0 hP rfl
  rw [eq33]
  clear eq33 hP; have hP := hPn; clear hPn
  simp only [List.eraseIdx_cons_zero, List.eraseIdx_cons_succ, addrs_cons, addrs_nil] at hP ⊢
  have lq33 : A5 ≤ A5.set q33 (.cells (wc ⟨#[]⟩ ⟨#[49, 46, 48, 46, 48]⟩ ⟨#[]⟩ ⟨#[]⟩ nl false nl) 34 (0, 0)) := le_set nq33
  have hw1 : Wants (A5.set q33 (.cells (wc ⟨#[]⟩ ⟨#[49, 46, 48, 46, 48]⟩ ⟨#[]⟩ ⟨#[]⟩ nl false nl) 34 (0, 0))) (.slice (some ⟨q33, 0, none⟩) 1 1) [want1] := wants_one (set_at _ _ _)
  generalize A5.set q33 (.cells (wc ⟨#[]⟩ ⟨#[49, 46, 48, 46, 48]⟩ ⟨#[]⟩ ⟨#[]⟩ nl false nl) 34 (0, 0)) = A6 at hP lq33 hw1 ⊢
  have hA := View.le_trans hA lq33
  refine call_ov hP (wantTags13 A6 _ [want1] v c hw1 (by simp) (fun w hw => by rw [List.mem_singleton] at hw; subst hw; exact ⟨vok1, by decide, by decide, by decide, fun i hi => by cases hi⟩) (hc.le hA) h7 hG (by omega)) ?_
  clear hP
  rintro _ A7 ⟨x7, rfl, hA7, hw7⟩ hP
  have hA := View.le_trans hA hA7
  have hl7 : (tagsR v [want1]).length = 1 := tagsR_len _ _
  obtain ⟨b7, c7, rfl⟩ := hw7.slice
  refine hR _ _ _ ?_; clear hR R
  iterate 5 (refine seqX_hide2 fun R hR => ?_; simp [go_sem, hcz, hco, d333, d333, hl7]; refine hR _ _ _ ?_; clear hR R)
  rw [seqX_nil]
  refine hK _ _ _ ?_; clear hK K
  refine hN7 _ _ _ ?_
  refine xc_two fun N8 hN8 => ?_
  refine xc_reg1 15 rfl fun K hK => ?_
  simp only [show (List.range 15).map (·, true) = [(0, true), (1, true), (2, true), (3, true), (4, true), (5, true), (6, true), (7, true), (8, true), (9, true), (10, true), (11, true), (12, true), (13, true), (14, true)] from rfl, rslv_cons, rslv_nil, List.getElem?_toArray, List.getElem?_cons_zero, List.getElem?_cons_succ, gres]
  iterate 11 (refine seqX_hide2 fun R hR => ?_; simp [go_sem, hcz, hco, d333, d333, hl7]; refine hR _ _ _ ?_; clear hR R)
  refine seqX_hide2 fun R hR => ?_
  simp [go_sem, hcz, hco, d333, d333, hl7]
  refine call_ov hP (tags15 A7 _ l v c (h.le hA) (by omega) (fun w hw => by have := (hwr w hw).2.2.1; omega) (hc.le hA) hG) ?_
  clear hP
  rintro x8 A8 ⟨hw8, hA8⟩ hP
  have hA := View.le_trans hA hA8
  refine hR _ _ _ ?_; clear hR R
  refine seqX_hide2 fun R hR => ?_
  simp [go_sem, hcz, hco, d333, d333, hl7]
  refine call_ov hP (same14 A8 _ _ (tagsR v l) (hw5.le (View.le_trans lq33 (View.le_trans hA7 hA8))) hw8 (by rw [tagsR_len]; omega) (tagsR_all (fun w hw => ⟨by have := (hwr w hw).2.2.1; omega, by have := (hwr w hw).2.2.2.1; omega⟩) fun w b h => h)) ?_
  clear hP
  rintro _ A9 ⟨rfl, hA9⟩ hP
  refine hR _ _ _ ?_; clear hR R
  iterate 2 (refine seqX_hide2 fun R hR => ?_; simp [go_sem, hcz, hco, d333, d333, hl7]; refine hR _ _ _ ?_; clear hR R)
  rw [seqX_nil]
  refine hK _ _ _ ?_; clear hK K
  refine hN8 _ _ _ ?_
  simp [go_sem, hcz, hco, d333, d333, hl7]
  exact View.le_trans (View.le_trans hA hA9) (le_ov hP)
theorem law3 (W : World) (x : Value) (l : List Wt) (o : Wants (full W) x l ∧ l.length ≤ maxLen) (c : Array Value) (v : RV) (o' : IsRV (full W) v c) : VCalls Try.prog 3 #[x, .agg c] (full W) fun r A' => r = .bool true ∧ full W ≤ A' :=
  wtags3 (full W) _ l v c o.1 o'
end Go.Proofs.YtogfpbnbojhpoaaV

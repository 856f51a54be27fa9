/- Trees: law 3 (FnTreeId). -/
import Derived.Test.YthjbgpmcfcijgaaKV
import Derived.Test.YthjbgpmcfcijgaaKT
namespace Go.Proofs.YthjbgpmcfcijgaaV
open Go.RowKit
set_option linter.unusedSimpArgs false
set_option linter.unusedVariables false
theorem wd_nosl {s : ByteArray} (h : s = e0 ∨ Wd s) : NoSl s := by
  intro j hj
  rcases h with rfl | ⟨-, -, h⟩
  · exact absurd hj (Nat.not_lt_zero _)
  · intro e
    have := (h j hj).1
    rw [e] at this
    exact absurd this (by decide)
theorem wd_size {s : ByteArray} (h : s = e0 ∨ Wd s) : s.size ≤ 20 := by
  rcases h with rfl | ⟨-, h, -⟩
  · decide
  · exact h
/-- A resource's metadata. -/
def metT (name ns : ByteArray) : Tr := (mapE.put1 vName name).put1 vNs ns
theorem metT_kids {name : ByteArray} (h : name ≠ e0) (ns : ByteArray) : (metT name ns).kids = [tn vName, tn name] ++ if ns = e0 then [] else [tn vNs, tn ns] := by
  rw [metT, Tr.put1]
  split
  · rw [Tr.put1, if_neg h]; rfl
  · rw [Tr.put1, if_neg h]; rfl
theorem resT_eq {api kind name : ByteArray} (ha : api ≠ e0) (hk : kind ≠ e0) (ns : ByteArray) : resT api kind name ns = .mk 4 0 tMap e0 e0 e0 e0 e0 0 0 (-1) [tn vApi, tn api, tn vKind, tn kind, tn vMeta, metT name ns] := by
  rw [resT, Tr.put1, if_neg hk, Tr.put1, if_neg ha]
  rfl
theorem metT_eq {name : ByteArray} (h : name ≠ e0) (ns : ByteArray) : metT name ns = .mk 4 0 tMap e0 e0 e0 e0 e0 0 0 (-1) ([tn vName, tn name] ++ if ns = e0 then [] else [tn vNs, tn ns]) := by
  rw [metT, Tr.put1]
  split
  · rw [Tr.put1, if_neg h]; rfl
  · rw [Tr.put1, if_neg h]; rfl
theorem pt_tn (s : ByteArray) {lv : Nat} (h : 0 < lv) : PT lv (tn s) := by
  rw [tn, PT]
  exact ⟨h, ⟨rfl, rfl⟩, .inl rfl, fun j hj => absurd hj (Nat.not_lt_zero _)⟩
theorem nds_tn (s : ByteArray) : nds (tn s) = 1 := by
  rw [tn, nds_mk]
  rfl
theorem pt_met {name : ByteArray} (h : name ≠ e0) (ns : ByteArray) {lv : Nat} (hl : 1 < lv) : PT lv (metT name ns) := by
  rw [metT_eq h, PT]
  refine ⟨by omega, ⟨rfl, rfl⟩, .inr (.inr rfl), fun j hj => ?_⟩
  have : ∀ x ∈ ([tn vName, tn name] ++ if ns = e0 then [] else [tn vNs, tn ns]), ∃ s, x = tn s := by
    intro x hx
    split at hx
    · simp at hx; rcases hx with rfl | rfl <;> exact ⟨_, rfl⟩
    · simp at hx; rcases hx with rfl | rfl | rfl | rfl <;> exact ⟨_, rfl⟩
  obtain ⟨s, hs⟩ := this _ (List.getElem_mem hj)
  rw [hs]
  exact pt_tn s (by omega)
theorem nds_met {name : ByteArray} (h : name ≠ e0) (ns : ByteArray) : nds (metT name ns) ≤ 5 := by
  rw [metT_eq h, nds_mk]
  split <;> simp [nds_tn]
theorem pt_res {api kind name : ByteArray} (ha : api ≠ e0) (hk : kind ≠ e0) (hn : name ≠ e0) (ns : ByteArray) : PT 12 (resT api kind name ns) := by
  rw [resT_eq ha hk, PT]
  refine ⟨by omega, ⟨rfl, rfl⟩, .inr (.inr rfl), fun j hj => ?_⟩
  replace hj : j < 6 := hj
  match j, hj with
  | 0, _ => exact pt_tn _ (by omega)
  | 1, _ => exact pt_tn _ (by omega)
  | 2, _ => exact pt_tn _ (by omega)
  | 3, _ => exact pt_tn _ (by omega)
  | 4, _ => exact pt_tn _ (by omega)
  | 5, _ => exact pt_met hn ns (by omega)
theorem nds_res {api kind name : ByteArray} (ha : api ≠ e0) (hk : kind ≠ e0) (hn : name ≠ e0) (ns : ByteArray) : nds (resT api kind name ns) ≤ 400 := by
  have := nds_met hn ns
  rw [resT_eq ha hk, nds_mk]
  simp [nds_tn]
  omega
theorem fld_hit {a b : Tr} {l : List Tr} {s : ByteArray} (h : s = a.value) : fld (a :: b :: l) s = some b := by rw [fld, if_pos h]
theorem fld_tn (x : ByteArray) (b : Tr) (l : List Tr) : fld (tn x :: b :: l) x = some b := fld_hit (a := tn x) rfl
theorem fld_miss {a b : Tr} {l : List Tr} {s : ByteArray} (h : ¬ s = a.value) : fld (a :: b :: l) s = fld l s := by rw [fld, if_neg h]
theorem res_api {api kind name : ByteArray} (ha : api ≠ e0) (hk : kind ≠ e0) (ns : ByteArray) : vof (fld (resT api kind name ns).kids vApi) = api := by
  rw [resT_eq ha hk, Tr.kids, fld_tn]
  rfl
theorem res_kind {api kind name : ByteArray} (ha : api ≠ e0) (hk : kind ≠ e0) (ns : ByteArray) : vof (fld (resT api kind name ns).kids vKind) = kind := by
  rw [resT_eq ha hk, Tr.kids, fld_miss (show ¬ vKind = (tn vApi).value by decide), fld_tn]
  rfl
theorem res_meta {api kind name : ByteArray} (ha : api ≠ e0) (hk : kind ≠ e0) (ns : ByteArray) : fld (resT api kind name ns).kids vMeta = some (metT name ns) := by
  rw [resT_eq ha hk, Tr.kids, fld_miss (show ¬ vMeta = (tn vApi).value by decide), fld_miss (show ¬ vMeta = (tn vKind).value by decide), fld_tn]
theorem res_name {api kind name : ByteArray} (ha : api ≠ e0) (hk : kind ≠ e0) (hn : name ≠ e0) (ns : ByteArray) : vin (fld (resT api kind name ns).kids vMeta) vName = name := by
  rw [res_meta ha hk, vin, metT_kids hn, List.cons_append, List.cons_append, fld_tn]
  rfl
theorem res_ns {api kind name : ByteArray} (ha : api ≠ e0) (hk : kind ≠ e0) (hn : name ≠ e0) (ns : ByteArray) : vin (fld (resT api kind name ns).kids vMeta) vNs = ns := by
  rw [res_meta ha hk, vin, metT_kids hn, List.cons_append, List.cons_append, fld_miss (show ¬ vNs = (tn vName).value by decide), List.nil_append]
  split
  · rename_i h; subst h; rfl
  · rw [fld_tn]; rfl
theorem tn_ne (s : ByteArray) : NE (tn s) := ⟨by show (8 : Int) ≠ 0; decide, by show (8 : Int) ≠ 2; decide, by show tStr ≠ tNull; decide, fun h => by revert h; show (8 : Int) = 4 → _; intro h; exact absurd h (by decide)⟩
theorem met_fld {name ns nm : ByteArray} {y : Tr} (hn : name ≠ e0) (h : fld (metT name ns).kids nm = some y) : NE y := by
  rw [metT_kids hn, List.cons_append, List.cons_append, fld] at h
  split at h
  · obtain rfl := Option.some.inj h; exact tn_ne _
  · rw [List.nil_append] at h
    split at h
    · cases h
    · rw [fld] at h
      split at h
      · obtain rfl := Option.some.inj h; exact tn_ne _
      · cases h
theorem res_ok {api kind name : ByteArray} (ha : api ≠ e0) (hk : kind ≠ e0) (hn : name ≠ e0) (ns : ByteArray) : RsOk (resT api kind name ns) := by
  have hl : (metT name ns).kids.length = 2 ∨ (metT name ns).kids.length = 4 := by
    rw [metT_kids hn]
    split
    · exact .inl rfl
    · exact .inr rfl
  refine ⟨?_, ?_, ?_, ?_, fun x hx => ?_⟩
  · rw [resT_eq ha hk]; show (4 : Int) ≠ 1; decide
  · rw [resT_eq ha hk]; show tMap ≠ tNull; decide
  · rw [resT_eq ha hk]; show (6 : Nat) % 2 = 0; decide
  · rw [resT_eq ha hk]; show 6 ≤ 1000000; decide
  · rw [res_meta ha hk] at hx
    obtain rfl := Option.some.inj hx
    refine ⟨⟨?_, ?_, ?_, fun _ => ?_⟩, ?_, ?_, fun nm y hy => met_fld hn hy⟩
    · rw [metT_eq hn]; show (4 : Int) ≠ 0; decide
    · rw [metT_eq hn]; show (4 : Int) ≠ 2; decide
    · rw [metT_eq hn]; show tMap ≠ tNull; decide
    · omega
    · omega
    · omega
set_option maxRecDepth 20000 in
theorem word6 (A : View) (s : ByteArray) (hs : s.size ≤ 1125899906842624) : VCalls Try.prog 6 #[.string s] A fun r A' => FB (Wd s) r ∧ A' = A := by
  refine xcalls Try.func6 rfl (by simp [Try.ntmps6]) ?_
  simp only [Try.f6]
  have hP : Priv A (addrs []) := Priv.nil A
  show xc _ _ _ _ _ _ (ov A [])
  refine xc_two fun N1 hN1 => ?_
  refine xc_reg1 1 rfl fun K hK => ?_
  simp only [show (List.range 1).map (·, true) = [(0, true)] from rfl, rslv_cons, rslv_nil, List.getElem?_toArray, List.getElem?_cons_zero, List.getElem?_cons_succ, gres]
  (refine seqX_hide2 fun R hR => ?_; simp [go_sem]; refine hR _ _ _ ?_; clear hR R)
  rw [seqX_nil]
  refine hK _ _ _ ?_; clear hK K
  refine hN1 _ _ _ ?_
  refine xc_two fun N2 hN2 => ?_
  refine xc_reg1 3 rfl fun K hK => ?_
  simp only [show (List.range 3).map (·, true) = [(0, true), (1, true), (2, true)] from rfl, rslv_cons, rslv_nil, List.getElem?_toArray, List.getElem?_cons_zero, List.getElem?_cons_succ, gres]
  (refine seqX_hide2 fun R hR => ?_; simp [go_sem]; refine hR _ _ _ ?_; clear hR R)
  refine seqX_hide2 fun R hR => ?_
  simp [go_sem]
  refine call_same hP (word A s hs) ?_
  rintro r hr
  refine hR _ _ _ ?_; clear hR R
  (refine seqX_hide2 fun R hR => ?_; simp [go_sem]; refine hR _ _ _ ?_; clear hR R)
  rw [seqX_nil]
  refine hK _ _ _ ?_; clear hK K
  refine hN2 _ _ _ ?_
  simp [go_sem]
  exact ⟨hr, rfl⟩
set_option maxRecDepth 20000 in
theorem fits5 (A : View) (g v k n ns : ByteArray) : VCalls Try.prog 5 #[.agg #[.string g, .string v, .string k, .string n, .string ns]] A fun r A' => FB (g.size ≤ 2147483647 ∧ v.size ≤ 2147483647 ∧ k.size ≤ 2147483647 ∧ n.size ≤ 2147483647 ∧ ns.size ≤ 2147483647) r ∧ A ≤ A' := by
  refine xcalls Try.func5 rfl (by simp [Try.ntmps5]) ?_
  simp only [Try.f5]
  have hP : Priv A (addrs []) := Priv.nil A
  show xc _ _ _ _ _ _ (ov A [])
  by_cases h0 : g.size ≤ 2147483647
  rotate_left
  · have z0 : (2147483647 : Int) < g.size := by omega
    refine xc_two fun N1 hN1 => ?_
    refine xc_reg1 2 rfl fun K hK => ?_
    simp only [show (List.range 2).map (·, true) = [(0, true), (1, true)] from rfl, rslv_cons, rslv_nil, List.getElem?_toArray, List.getElem?_cons_zero, List.getElem?_cons_succ, gres]
    refine seqX_hide2 fun R hR => ?_
    simp [go_sem, z0]
    intro q1 hq1
    replace hP := hP.cons hq1
    clear hq1
    refine hR _ _ _ ?_; clear hR R
    (refine seqX_hide2 fun R hR => ?_; simp [go_sem, z0]; refine hR _ _ _ ?_; clear hR R)
    rw [seqX_nil]
    refine hK _ _ _ ?_; clear hK K
    refine hN1 _ _ _ ?_
    refine xc_two fun N2 hN2 => ?_
    refine xc_two fun N3 hN3 => ?_
    refine xc_reg1 4 rfl fun K hK => ?_
    simp only [show (List.range 4).map (·, true) = [(0, true), (1, true), (2, true), (3, true)] from rfl, rslv_cons, rslv_nil, List.getElem?_toArray, List.getElem?_cons_zero, List.getElem?_cons_succ, gres]
    iterate 4 (refine seqX_hide2 fun R hR => ?_; simp [go_sem, z0]; refine hR _ _ _ ?_; clear hR R)
    rw [seqX_nil]
    refine hK _ _ _ ?_; clear hK K
    refine hN3 _ _ _ ?_
    refine xc_iftrue (by simp [go_sem, z0]) ?_
    refine xc_two fun N4 hN4 => ?_
    refine xc_reg1 1 rfl fun K hK => ?_
    simp only [show (List.range 1).map (·, true) = [(0, true)] from rfl, rslv_cons, rslv_nil, List.getElem?_toArray, List.getElem?_cons_zero, List.getElem?_cons_succ, gres]
    (refine seqX_hide2 fun R hR => ?_; simp [go_sem, z0]; refine hR _ _ _ ?_; clear hR R)
    rw [seqX_nil]
    refine hK _ _ _ ?_; clear hK K
    refine hN4 _ _ _ ?_
    simp [go_sem, z0]
    exact ⟨FB.no _, le_ov hP⟩
  have z0 : ¬ (2147483647 : Int) < g.size := by omega
  by_cases h1 : v.size ≤ 2147483647
  rotate_left
  · have z1 : (2147483647 : Int) < v.size := by omega
    refine xc_two fun N1 hN1 => ?_
    refine xc_reg1 2 rfl fun K hK => ?_
    simp only [show (List.range 2).map (·, true) = [(0, true), (1, true)] from rfl, rslv_cons, rslv_nil, List.getElem?_toArray, List.getElem?_cons_zero, List.getElem?_cons_succ, gres]
    refine seqX_hide2 fun R hR => ?_
    simp [go_sem, z0, z1]
    intro q1 hq1
    replace hP := hP.cons hq1
    clear hq1
    refine hR _ _ _ ?_; clear hR R
    (refine seqX_hide2 fun R hR => ?_; simp [go_sem, z0, z1]; refine hR _ _ _ ?_; clear hR R)
    rw [seqX_nil]
    refine hK _ _ _ ?_; clear hK K
    refine hN1 _ _ _ ?_
    refine xc_two fun N2 hN2 => ?_
    refine xc_two fun N3 hN3 => ?_
    refine xc_reg1 4 rfl fun K hK => ?_
    simp only [show (List.range 4).map (·, true) = [(0, true), (1, true), (2, true), (3, true)] from rfl, rslv_cons, rslv_nil, List.getElem?_toArray, List.getElem?_cons_zero, List.getElem?_cons_succ, gres]
    iterate 4 (refine seqX_hide2 fun R hR => ?_; simp [go_sem, z0, z1]; refine hR _ _ _ ?_; clear hR R)
    rw [seqX_nil]
    refine hK _ _ _ ?_; clear hK K
    refine hN3 _ _ _ ?_
    refine xc_iffalse (by simp [go_sem, z0, z1]) ?_
    refine hN2 _ _ _ ?_
    refine xc_two fun N4 hN4 => ?_
    refine xc_two fun N5 hN5 => ?_
    refine xc_reg1 4 rfl fun K hK => ?_
    simp only [show (List.range 4).map (·, true) = [(0, true), (1, true), (2, true), (3, true)] from rfl, rslv_cons, rslv_nil, List.getElem?_toArray, List.getElem?_cons_zero, List.getElem?_cons_succ, gres]
    iterate 4 (refine seqX_hide2 fun R hR => ?_; simp [go_sem, z0, z1]; refine hR _ _ _ ?_; clear hR R)
    rw [seqX_nil]
    refine hK _ _ _ ?_; clear hK K
    refine hN5 _ _ _ ?_
    refine xc_iftrue (by simp [go_sem, z0, z1]) ?_
    refine xc_two fun N6 hN6 => ?_
    refine xc_reg1 1 rfl fun K hK => ?_
    simp only [show (List.range 1).map (·, true) = [(0, true)] from rfl, rslv_cons, rslv_nil, List.getElem?_toArray, List.getElem?_cons_zero, List.getElem?_cons_succ, gres]
    (refine seqX_hide2 fun R hR => ?_; simp [go_sem, z0, z1]; refine hR _ _ _ ?_; clear hR R)
    rw [seqX_nil]
    refine hK _ _ _ ?_; clear hK K
    refine hN6 _ _ _ ?_
    simp [go_sem, z0, z1]
    exact ⟨FB.no _, le_ov hP⟩
  have z1 : ¬ (2147483647 : Int) < v.size := by omega
  by_cases h2 : k.size ≤ 2147483647
  rotate_left
  · have z2 : (2147483647 : Int) < k.size := by omega
    refine xc_two fun N1 hN1 => ?_
    refine xc_reg1 2 rfl fun K hK => ?_
    simp only [show (List.range 2).map (·, true) = [(0, true), (1, true)] from rfl, rslv_cons, rslv_nil, List.getElem?_toArray, List.getElem?_cons_zero, List.getElem?_cons_succ, gres]
    refine seqX_hide2 fun R hR => ?_
    simp [go_sem, z0, z1, z2]
    intro q1 hq1
    replace hP := hP.cons hq1
    clear hq1
    refine hR _ _ _ ?_; clear hR R
    (refine seqX_hide2 fun R hR => ?_; simp [go_sem, z0, z1, z2]; refine hR _ _ _ ?_; clear hR R)
    rw [seqX_nil]
    refine hK _ _ _ ?_; clear hK K
    refine hN1 _ _ _ ?_
    refine xc_two fun N2 hN2 => ?_
    refine xc_two fun N3 hN3 => ?_
    refine xc_reg1 4 rfl fun K hK => ?_
    simp only [show (List.range 4).map (·, true) = [(0, true), (1, true), (2, true), (3, true)] from rfl, rslv_cons, rslv_nil, List.getElem?_toArray, List.getElem?_cons_zero, List.getElem?_cons_succ, gres]
    iterate 4 (refine seqX_hide2 fun R hR => ?_; simp [go_sem, z0, z1, z2]; refine hR _ _ _ ?_; clear hR R)
    rw [seqX_nil]
    refine hK _ _ _ ?_; clear hK K
    refine hN3 _ _ _ ?_
    refine xc_iffalse (by simp [go_sem, z0, z1, z2]) ?_
    refine hN2 _ _ _ ?_
    refine xc_two fun N4 hN4 => ?_
    refine xc_two fun N5 hN5 => ?_
    refine xc_reg1 4 rfl fun K hK => ?_
    simp only [show (List.range 4).map (·, true) = [(0, true), (1, true), (2, true), (3, true)] from rfl, rslv_cons, rslv_nil, List.getElem?_toArray, List.getElem?_cons_zero, List.getElem?_cons_succ, gres]
    iterate 4 (refine seqX_hide2 fun R hR => ?_; simp [go_sem, z0, z1, z2]; refine hR _ _ _ ?_; clear hR R)
    rw [seqX_nil]
    refine hK _ _ _ ?_; clear hK K
    refine hN5 _ _ _ ?_
    refine xc_iffalse (by simp [go_sem, z0, z1, z2]) ?_
    refine hN4 _ _ _ ?_
    refine xc_two fun N6 hN6 => ?_
    refine xc_two fun N7 hN7 => ?_
    refine xc_reg1 4 rfl fun K hK => ?_
    simp only [show (List.range 4).map (·, true) = [(0, true), (1, true), (2, true), (3, true)] from rfl, rslv_cons, rslv_nil, List.getElem?_toArray, List.getElem?_cons_zero, List.getElem?_cons_succ, gres]
    iterate 4 (refine seqX_hide2 fun R hR => ?_; simp [go_sem, z0, z1, z2]; refine hR _ _ _ ?_; clear hR R)
    rw [seqX_nil]
    refine hK _ _ _ ?_; clear hK K
    refine hN7 _ _ _ ?_
    refine xc_iftrue (by simp [go_sem, z0, z1, z2]) ?_
    refine xc_two fun N8 hN8 => ?_
    refine xc_reg1 1 rfl fun K hK => ?_
    simp only [show (List.range 1).map (·, true) = [(0, true)] from rfl, rslv_cons, rslv_nil, List.getElem?_toArray, List.getElem?_cons_zero, List.getElem?_cons_succ, gres]
    (refine seqX_hide2 fun R hR => ?_; simp [go_sem, z0, z1, z2]; refine hR _ _ _ ?_; clear hR R)
    rw [seqX_nil]
    refine hK _ _ _ ?_; clear hK K
    refine hN8 _ _ _ ?_
    simp [go_sem, z0, z1, z2]
    exact ⟨FB.no _, le_ov hP⟩
  have z2 : ¬ (2147483647 : Int) < k.size := by omega
  by_cases h3 : n.size ≤ 2147483647
  rotate_left
  · have z3 : (2147483647 : Int) < n.size := by omega
    refine xc_two fun N1 hN1 => ?_
    refine xc_reg1 2 rfl fun K hK => ?_
    simp only [show (List.range 2).map (·, true) = [(0, true), (1, true)] from rfl, rslv_cons, rslv_nil, List.getElem?_toArray, List.getElem?_cons_zero, List.getElem?_cons_succ, gres]
    refine seqX_hide2 fun R hR => ?_
    simp [go_sem, z0, z1, z2, z3]
    intro q1 hq1
    replace hP := hP.cons hq1
    clear hq1
    refine hR _ _ _ ?_; clear hR R
    (refine seqX_hide2 fun R hR => ?_; simp [go_sem, z0, z1, z2, z3]; refine hR _ _ _ ?_; clear hR R)
    rw [seqX_nil]
    refine hK _ _ _ ?_; clear hK K
    refine hN1 _ _ _ ?_
    refine xc_two fun N2 hN2 => ?_
    refine xc_two fun N3 hN3 => ?_
    refine xc_reg1 4 rfl fun K hK => ?_
    simp only [show (List.range 4).map (·, true) = [(0, true), (1, true), (2, true), (3, true)] from rfl, rslv_cons, rslv_nil, List.getElem?_toArray, List.getElem?_cons_zero, List.getElem?_cons_succ, gres]
    iterate 4 (refine seqX_hide2 fun R hR => ?_; simp [go_sem, z0, z1, z2, z3]; refine hR _ _ _ ?_; clear hR R)
    rw [seqX_nil]
    refine hK _ _ _ ?_; clear hK K
    refine hN3 _ _ _ ?_
    refine xc_iffalse (by simp [go_sem, z0, z1, z2, z3]) ?_
    refine hN2 _ _ _ ?_
    refine xc_two fun N4 hN4 => ?_
    refine xc_two fun N5 hN5 => ?_
    refine xc_reg1 4 rfl fun K hK => ?_
    simp only [show (List.range 4).map (·, true) = [(0, true), (1, true), (2, true), (3, true)] from rfl, rslv_cons, rslv_nil, List.getElem?_toArray, List.getElem?_cons_zero, List.getElem?_cons_succ, gres]
    iterate 4 (refine seqX_hide2 fun R hR => ?_; simp [go_sem, z0, z1, z2, z3]; refine hR _ _ _ ?_; clear hR R)
    rw [seqX_nil]
    refine hK _ _ _ ?_; clear hK K
    refine hN5 _ _ _ ?_
    refine xc_iffalse (by simp [go_sem, z0, z1, z2, z3]) ?_
    refine hN4 _ _ _ ?_
    refine xc_two fun N6 hN6 => ?_
    refine xc_two fun N7 hN7 => ?_
    refine xc_reg1 4 rfl fun K hK => ?_
    simp only [show (List.range 4).map (·, true) = [(0, true), (1, true), (2, true), (3, true)] from rfl, rslv_cons, rslv_nil, List.getElem?_toArray, List.getElem?_cons_zero, List.getElem?_cons_succ, gres]
    iterate 4 (refine seqX_hide2 fun R hR => ?_; simp [go_sem, z0, z1, z2, z3]; refine hR _ _ _ ?_; clear hR R)
    rw [seqX_nil]
    refine hK _ _ _ ?_; clear hK K
    refine hN7 _ _ _ ?_
    refine xc_iffalse (by simp [go_sem, z0, z1, z2, z3]) ?_
    refine hN6 _ _ _ ?_
    refine xc_two fun N8 hN8 => ?_
    refine xc_two fun N9 hN9 => ?_
    refine xc_reg1 4 rfl fun K hK => ?_
    simp only [show (List.range 4).map (·, true) = [(0, true), (1, true), (2, true), (3, true)] from rfl, rslv_cons, rslv_nil, List.getElem?_toArray, List.getElem?_cons_zero, List.getElem?_cons_succ, gres]
    iterate 4 (refine seqX_hide2 fun R hR => ?_; simp [go_sem, z0, z1, z2, z3]; refine hR _ _ _ ?_; clear hR R)
    rw [seqX_nil]
    refine hK _ _ _ ?_; clear hK K
    refine hN9 _ _ _ ?_
    refine xc_iftrue (by simp [go_sem, z0, z1, z2, z3]) ?_
    refine xc_two fun N10 hN10 => ?_
    refine xc_reg1 1 rfl fun K hK => ?_
    simp only [show (List.range 1).map (·, true) = [(0, true)] from rfl, rslv_cons, rslv_nil, List.getElem?_toArray, List.getElem?_cons_zero, List.getElem?_cons_succ, gres]
    (refine seqX_hide2 fun R hR => ?_; simp [go_sem, z0, z1, z2, z3]; refine hR _ _ _ ?_; clear hR R)
    rw [seqX_nil]
    refine hK _ _ _ ?_; clear hK K
    refine hN10 _ _ _ ?_
    simp [go_sem, z0, z1, z2, z3]
    exact ⟨FB.no _, le_ov hP⟩
  have z3 : ¬ (2147483647 : Int) < n.size := by omega
  by_cases h4 : ns.size ≤ 2147483647
  rotate_left
  · have z4 : (2147483647 : Int) < ns.size := by omega
    refine xc_two fun N1 hN1 => ?_
    refine xc_reg1 2 rfl fun K hK => ?_
    simp only [show (List.range 2).map (·, true) = [(0, true), (1, true)] from rfl, rslv_cons, rslv_nil, List.getElem?_toArray, List.getElem?_cons_zero, List.getElem?_cons_succ, gres]
    refine seqX_hide2 fun R hR => ?_
    simp [go_sem, z0, z1, z2, z3, z4]
    intro q1 hq1
    replace hP := hP.cons hq1
    clear hq1
    refine hR _ _ _ ?_; clear hR R
    (refine seqX_hide2 fun R hR => ?_; simp [go_sem, z0, z1, z2, z3, z4]; refine hR _ _ _ ?_; clear hR R)
    rw [seqX_nil]
    refine hK _ _ _ ?_; clear hK K
    refine hN1 _ _ _ ?_
    refine xc_two fun N2 hN2 => ?_
    refine xc_two fun N3 hN3 => ?_
    refine xc_reg1 4 rfl fun K hK => ?_
    simp only [show (List.range 4).map (·, true) = [(0, true), (1, true), (2, true), (3, true)] from rfl, rslv_cons, rslv_nil, List.getElem?_toArray, List.getElem?_cons_zero, List.getElem?_cons_succ, gres]
    iterate 4 (refine seqX_hide2 fun R hR => ?_; simp [go_sem, z0, z1, z2, z3, z4]; refine hR _ _ _ ?_; clear hR R)
    rw [seqX_nil]
    refine hK _ _ _ ?_; clear hK K
    refine hN3 _ _ _ ?_
    refine xc_iffalse (by simp [go_sem, z0, z1, z2, z3, z4]) ?_
    refine hN2 _ _ _ ?_
    refine xc_two fun N4 hN4 => ?_
    refine xc_two fun N5 hN5 => ?_
    refine xc_reg1 4 rfl fun K hK => ?_
    simp only [show (List.range 4).map (·, true) = [(0, true), (1, true), (2, true), (3, true)] from rfl, rslv_cons, rslv_nil, List.getElem?_toArray, List.getElem?_cons_zero, List.getElem?_cons_succ, gres]
    iterate 4 (refine seqX_hide2 fun R hR => ?_; simp [go_sem, z0, z1, z2, z3, z4]; refine hR _ _ _ ?_; clear hR R)
    rw [seqX_nil]
    refine hK _ _ _ ?_; clear hK K
    refine hN5 _ _ _ ?_
    refine xc_iffalse (by simp [go_sem, z0, z1, z2, z3, z4]) ?_
    refine hN4 _ _ _ ?_
    refine xc_two fun N6 hN6 => ?_
    refine xc_two fun N7 hN7 => ?_
    refine xc_reg1 4 rfl fun K hK => ?_
    simp only [show (List.range 4).map (·, true) = [(0, true), (1, true), (2, true), (3, true)] from rfl, rslv_cons, rslv_nil, List.getElem?_toArray, List.getElem?_cons_zero, List.getElem?_cons_succ, gres]
    iterate 4 (refine seqX_hide2 fun R hR => ?_; simp [go_sem, z0, z1, z2, z3, z4]; refine hR _ _ _ ?_; clear hR R)
    rw [seqX_nil]
    refine hK _ _ _ ?_; clear hK K
    refine hN7 _ _ _ ?_
    refine xc_iffalse (by simp [go_sem, z0, z1, z2, z3, z4]) ?_
    refine hN6 _ _ _ ?_
    refine xc_two fun N8 hN8 => ?_
    refine xc_two fun N9 hN9 => ?_
    refine xc_reg1 4 rfl fun K hK => ?_
    simp only [show (List.range 4).map (·, true) = [(0, true), (1, true), (2, true), (3, true)] from rfl, rslv_cons, rslv_nil, List.getElem?_toArray, List.getElem?_cons_zero, List.getElem?_cons_succ, gres]
    iterate 4 (refine seqX_hide2 fun R hR => ?_; simp [go_sem, z0, z1, z2, z3, z4]; refine hR _ _ _ ?_; clear hR R)
    rw [seqX_nil]
    refine hK _ _ _ ?_; clear hK K
    refine hN9 _ _ _ ?_
    refine xc_iffalse (by simp [go_sem, z0, z1, z2, z3, z4]) ?_
    refine hN8 _ _ _ ?_
    refine xc_two fun N10 hN10 => ?_
    refine xc_two fun N11 hN11 => ?_
    refine xc_reg1 4 rfl fun K hK => ?_
    simp only [show (List.range 4).map (·, true) = [(0, true), (1, true), (2, true), (3, true)] from rfl, rslv_cons, rslv_nil, List.getElem?_toArray, List.getElem?_cons_zero, List.getElem?_cons_succ, gres]
    iterate 4 (refine seqX_hide2 fun R hR => ?_; simp [go_sem, z0, z1, z2, z3, z4]; refine hR _ _ _ ?_; clear hR R)
    rw [seqX_nil]
    refine hK _ _ _ ?_; clear hK K
    refine hN11 _ _ _ ?_
    refine xc_iftrue (by simp [go_sem, z0, z1, z2, z3, z4]) ?_
    refine xc_two fun N12 hN12 => ?_
    refine xc_reg1 1 rfl fun K hK => ?_
    simp only [show (List.range 1).map (·, true) = [(0, true)] from rfl, rslv_cons, rslv_nil, List.getElem?_toArray, List.getElem?_cons_zero, List.getElem?_cons_succ, gres]
    (refine seqX_hide2 fun R hR => ?_; simp [go_sem, z0, z1, z2, z3, z4]; refine hR _ _ _ ?_; clear hR R)
    rw [seqX_nil]
    refine hK _ _ _ ?_; clear hK K
    refine hN12 _ _ _ ?_
    simp [go_sem, z0, z1, z2, z3, z4]
    exact ⟨FB.no _, le_ov hP⟩
  have z4 : ¬ (2147483647 : Int) < ns.size := by omega
  refine xc_two fun N1 hN1 => ?_
  refine xc_reg1 2 rfl fun K hK => ?_
  simp only [show (List.range 2).map (·, true) = [(0, true), (1, true)] from rfl, rslv_cons, rslv_nil, List.getElem?_toArray, List.getElem?_cons_zero, List.getElem?_cons_succ, gres]
  refine seqX_hide2 fun R hR => ?_
  simp [go_sem, z0, z1, z2, z3, z4]
  intro q1 hq1
  replace hP := hP.cons hq1
  clear hq1
  refine hR _ _ _ ?_; clear hR R
  (refine seqX_hide2 fun R hR => ?_; simp [go_sem, z0, z1, z2, z3, z4]; refine hR _ _ _ ?_; clear hR R)
  rw [seqX_nil]
  refine hK _ _ _ ?_; clear hK K
  refine hN1 _ _ _ ?_
  refine xc_two fun N2 hN2 => ?_
  refine xc_two fun N3 hN3 => ?_
  refine xc_reg1 4 rfl fun K hK => ?_
  simp only [show (List.range 4).map (·, true) = [(0, true), (1, true), (2, true), (3, true)] from rfl, rslv_cons, rslv_nil, List.getElem?_toArray, List.getElem?_cons_zero, List.getElem?_cons_succ, gres]
  iterate 4 (refine seqX_hide2 fun R hR => ?_; simp [go_sem, z0, z1, z2, z3, z4]; refine hR _ _ _ ?_; clear hR R)
  rw [seqX_nil]
  refine hK _ _ _ ?_; clear hK K
  refine hN3 _ _ _ ?_
  refine xc_iffalse (by simp [go_sem, z0, z1, z2, z3, z4]) ?_
  refine hN2 _ _ _ ?_
  refine xc_two fun N4 hN4 => ?_
  refine xc_two fun N5 hN5 => ?_
  refine xc_reg1 4 rfl fun K hK => ?_
  simp only [show (List.range 4).map (·, true) = [(0, true), (1, true), (2, true), (3, true)] from rfl, rslv_cons, rslv_nil, List.getElem?_toArray, List.getElem?_cons_zero, List.getElem?_cons_succ, gres]
  iterate 4 (refine seqX_hide2 fun R hR => ?_; simp [go_sem, z0, z1, z2, z3, z4]; refine hR _ _ _ ?_; clear hR R)
  rw [seqX_nil]
  refine hK _ _ _ ?_; clear hK K
  refine hN5 _ _ _ ?_
  refine xc_iffalse (by simp [go_sem, z0, z1, z2, z3, z4]) ?_
  refine hN4 _ _ _ ?_
  refine xc_two fun N6 hN6 => ?_
  refine xc_two fun N7 hN7 => ?_
  refine xc_reg1 4 rfl fun K hK => ?_
  simp only [show (List.range 4).map (·, true) = [(0, true), (1, true), (2, true), (3, true)] from rfl, rslv_cons, rslv_nil, List.getElem?_toArray, List.getElem?_cons_zero, List.getElem?_cons_succ, gres]
  iterate 4 (refine seqX_hide2 fun R hR => ?_; simp [go_sem, z0, z1, z2, z3, z4]; refine hR _ _ _ ?_; clear hR R)
  rw [seqX_nil]
  refine hK _ _ _ ?_; clear hK K
  refine hN7 _ _ _ ?_
  refine xc_iffalse (by simp [go_sem, z0, z1, z2, z3, z4]) ?_
  refine hN6 _ _ _ ?_
  refine xc_two fun N8 hN8 => ?_
  refine xc_two fun N9 hN9 => ?_
  refine xc_reg1 4 rfl fun K hK => ?_
  simp only [show (List.range 4).map (·, true) = [(0, true), (1, true), (2, true), (3, true)] from rfl, rslv_cons, rslv_nil, List.getElem?_toArray, List.getElem?_cons_zero, List.getElem?_cons_succ, gres]
  iterate 4 (refine seqX_hide2 fun R hR => ?_; simp [go_sem, z0, z1, z2, z3, z4]; refine hR _ _ _ ?_; clear hR R)
  rw [seqX_nil]
  refine hK _ _ _ ?_; clear hK K
  refine hN9 _ _ _ ?_
  refine xc_iffalse (by simp [go_sem, z0, z1, z2, z3, z4]) ?_
  refine hN8 _ _ _ ?_
  refine xc_two fun N10 hN10 => ?_
  refine xc_two fun N11 hN11 => ?_
  refine xc_reg1 4 rfl fun K hK => ?_
  simp only [show (List.range 4).map (·, true) = [(0, true), (1, true), (2, true), (3, true)] from rfl, rslv_cons, rslv_nil, List.getElem?_toArray, List.getElem?_cons_zero, List.getElem?_cons_succ, gres]
  iterate 4 (refine seqX_hide2 fun R hR => ?_; simp [go_sem, z0, z1, z2, z3, z4]; refine hR _ _ _ ?_; clear hR R)
  rw [seqX_nil]
  refine hK _ _ _ ?_; clear hK K
  refine hN11 _ _ _ ?_
  refine xc_iffalse (by simp [go_sem, z0, z1, z2, z3, z4]) ?_
  refine hN10 _ _ _ ?_
  refine xc_two fun N12 hN12 => ?_
  refine xc_reg1 1 rfl fun K hK => ?_
  simp only [show (List.range 1).map (·, true) = [(0, true)] from rfl, rslv_cons, rslv_nil, List.getElem?_toArray, List.getElem?_cons_zero, List.getElem?_cons_succ, gres]
  (refine seqX_hide2 fun R hR => ?_; simp [go_sem, z0, z1, z2, z3, z4]; refine hR _ _ _ ?_; clear hR R)
  rw [seqX_nil]
  refine hK _ _ _ ?_; clear hK K
  refine hN12 _ _ _ ?_
  simp [go_sem, z0, z1, z2, z3, z4]
  exact ⟨FB.yes ⟨h0, h1, h2, h3, h4⟩, le_ov hP⟩
theorem ne_empty {v : ByteArray} (hv : v ≠ e0) : v.toList.isEmpty = false ∧ ¬ v.toList = [] := by
  have h : ¬ v.toList = [] := fun he => absurd (show v.toList = e0.toList by rw [he]; kernel_rfl) (bytes_ne hv)
  refine ⟨?_, h⟩
  cases he : v.toList.isEmpty with
  | false => rfl
  | true => exact absurd (List.isEmpty_iff.1 he) h
theorem eqId (g v k n ns : ByteArray) : xeqS Try.prog 23 #[.string g, .string v, .string k, .string n, .string ns] #[.string g, .string v, .string k, .string n, .string ns] = some true := by
  have h1 : Try.prog.stoodInHeld 23 = false := by kernel_rfl
  have h2 : Try.prog.eqGuardType Try.prog.depth 23 = false := by kernel_rfl
  unfold xeqS
  rw [Try.underlying23]
  simp [h1, h2, eqF, ti9]
set_option maxRecDepth 20000 in
set_option maxHeartbeats 400000 in
theorem treeId3 (A : View) (g v k n ns : ByteArray) : VCalls Try.prog 3 #[.agg #[.string g, .string v, .string k, .string n, .string ns]] A fun r A' => r = .bool true ∧ A ≤ A' := by
  refine xcalls Try.func3 rfl (by simp [Try.ntmps3]) ?_
  simp only [Try.f3]
  have hP : Priv A (addrs []) := Priv.nil A
  show xc _ _ _ _ _ _ (ov A [])
  refine xc_two fun N1 hN1 => ?_
  refine xc_reg1 2 rfl fun K hK => ?_
  simp only [show (List.range 2).map (·, true) = [(0, true), (1, true)] from rfl, rslv_cons, rslv_nil, List.getElem?_toArray, List.getElem?_cons_zero, List.getElem?_cons_succ, gres]
  refine seqX_hide2 fun R hR => ?_
  simp [go_sem]
  intro q1 hq1
  replace hP := hP.cons hq1
  clear hq1
  refine hR _ _ _ ?_; clear hR R
  (refine seqX_hide2 fun R hR => ?_; simp [go_sem]; refine hR _ _ _ ?_; clear hR R)
  rw [seqX_nil]
  refine hK _ _ _ ?_; clear hK K
  refine hN1 _ _ _ ?_
  refine xc_two fun N2 hN2 => ?_
  refine xc_two fun N3 hN3 => ?_
  refine xc_reg1 3 rfl fun K hK => ?_
  simp only [show (List.range 3).map (·, true) = [(0, true), (1, true), (2, true)] from rfl, rslv_cons, rslv_nil, List.getElem?_toArray, List.getElem?_cons_zero, List.getElem?_cons_succ, gres]
  (refine seqX_hide2 fun R hR => ?_; simp [go_sem]; refine hR _ _ _ ?_; clear hR R)
  refine seqX_hide2 fun R hR => ?_
  simp [go_sem]
  refine call_ov hP (fits5 A g v k n ns) ?_
  clear hP
  rintro _ A1 ⟨⟨b, rfl, hb⟩, hA1⟩ hP
  cases b with
  | false =>
    refine hR _ _ _ ?_; clear hR R
    (refine seqX_hide2 fun R hR => ?_; simp [go_sem]; refine hR _ _ _ ?_; clear hR R)
    rw [seqX_nil]
    refine hK _ _ _ ?_; clear hK K
    refine hN3 _ _ _ ?_
    refine xc_iftrue (by simp [go_sem]) ?_
    refine xc_two fun N4 hN4 => ?_
    refine xc_reg1 1 rfl fun K hK => ?_
    simp only [show (List.range 1).map (·, true) = [(0, true)] from rfl, rslv_cons, rslv_nil, List.getElem?_toArray, List.getElem?_cons_zero, List.getElem?_cons_succ, gres]
    (refine seqX_hide2 fun R hR => ?_; simp [go_sem]; refine hR _ _ _ ?_; clear hR R)
    rw [seqX_nil]
    refine hK _ _ _ ?_; clear hK K
    refine hN4 _ _ _ ?_
    simp [go_sem]
    exact View.le_trans hA1 (le_ov hP)
  | true =>
  obtain ⟨z0, z1, z2, z3, z4⟩ := hb rfl
  refine hR _ _ _ ?_; clear hR R
  (refine seqX_hide2 fun R hR => ?_; simp [go_sem]; refine hR _ _ _ ?_; clear hR R)
  rw [seqX_nil]
  refine hK _ _ _ ?_; clear hK K
  refine hN3 _ _ _ ?_
  refine xc_iffalse (by simp [go_sem]) ?_
  refine hN2 _ _ _ ?_
  refine xc_two fun N4 hN4 => ?_
  refine xc_two fun N5 hN5 => ?_
  refine xc_reg1 13 rfl fun K hK => ?_
  simp only [show (List.range 13).map (·, true) = [(0, true), (1, true), (2, true), (3, true), (4, true), (5, true), (6, true), (7, true), (8, true), (9, true), (10, true), (11, true), (12, true)] from rfl, rslv_cons, rslv_nil, List.getElem?_toArray, List.getElem?_cons_zero, List.getElem?_cons_succ, gres]
  iterate 10 (refine seqX_hide2 fun R hR => ?_; simp [go_sem]; refine hR _ _ _ ?_; clear hR R)
  refine seqX_hide2 fun R hR => ?_
  simp [go_sem]
  intro q21 hq21
  replace hP := hP.cons hq21
  clear hq21
  have d211 : q21 ≠ q1 := (hP.ne q1 (by simp [addrs])).1
  have d121 : q1 ≠ q21 := (hP.ne q1 (by simp [addrs])).2
  refine hR _ _ _ ?_; clear hR R
  iterate 2 (refine seqX_hide2 fun R hR => ?_; simp [go_sem, d211, d121]; refine hR _ _ _ ?_; clear hR R)
  rw [seqX_nil]
  refine hK _ _ _ ?_; clear hK K
  refine hN5 _ _ _ ?_
  rw [xc_block]
  refine sink_goal 0 hP rfl fun hPn lq21 nq21 => ?_
  clear hP; have hP := hPn; clear hPn
  simp only [List.eraseIdx_cons_zero, List.eraseIdx_cons_succ, addrs_cons, addrs_nil] at hP ⊢
  have ht1 : Texts (A1.set q21 (.cells #[.string g, .string v, .string k, .string n, .string ns] 9 (0, 0))) (.slice (some ⟨q21, 0, none⟩) 5 5) [g, v, k, n, ns] := .inl ⟨_, 5, rfl, cells_block (set_at _ _ _) rfl⟩
  have hA2 := View.le_trans hA1 lq21
  generalize A1.set q21 (.cells #[.string g, .string v, .string k, .string n, .string ns] 9 (0, 0)) = D0 at hP ht1 hA2 ⊢
  generalize hls : [g, v, k, n, ns] = ls at ht1
  have hll : ls.length = 5 := by rw [← hls]; rfl
  rw [xc_loop]
  refine vloopK (fun k' e ds A' => ∃ (i : Nat) (D : View), k' = 5 - i ∧ ds = [] ∧ A' = ov D [(q1, .cells #[.string g, .string v, .string k, .string n, .string ns] 23 (0, 0))] ∧ Priv D [q1] ∧ e 1 = .pointer (some ⟨q1, 0, none⟩) ∧ e 21 = .slice (some ⟨q21, 0, none⟩) 5 5 ∧ e 22 = .int .i64 5 ∧ e 23 = .int .i64 i ∧ (i ≤ 5) ∧ (D0 ≤ D) ∧ (∀ j (h : j < ls.length), j < i → ls[j] = e0 ∨ Wd ls[j])) _ ⟨0, D0, rfl, rfl, rfl, hP, by simp [go_sem, d211, d121], by simp [go_sem, d211, d121], by simp [go_sem, d211, d121], by simp [go_sem, d211, d121], by omega, View.le_refl _, fun j h hj => by omega⟩ ?_
  clear hP
  rintro k' e ds _ ⟨i, D, rfl, rfl, rfl, hP, g1, g21, g22, g23, hil, hAD, hw⟩ J1 X1 hJ1 hX1
  refine xc_sound _ ?_
  have hw1 : IntKind.i64.wrap ((i : Int) + 1) = ((i + 1 : Nat) : Int) := by rw [wrap_in (by omega) (by omega)]; omega
  have hA := View.le_trans hA2 hAD
  by_cases hi : i < 5
  · have hii : (i : Int) < 5 := by omega
    obtain ⟨a0, ca0, f0, u0⟩ := ht1.at' (i := i) (by omega)
    simp only [Value.slice.injEq, Option.some.injEq] at f0
    obtain ⟨rfl, -, -⟩ := f0
    rw [addr_add, Nat.zero_add] at u0
    have u0 := le_cell hAD u0
    have hsz : (ls[i]'(by omega)).size ≤ 2147483647 := by
      have : ∀ x ∈ ls, x.size ≤ 2147483647 := by
        rw [← hls]
        intro x hx
        simp only [List.mem_cons, List.not_mem_nil, or_false] at hx
        rcases hx with rfl | rfl | rfl | rfl | rfl <;> assumption
      exact this _ (List.getElem_mem _)
    have step : (ls[i]'(by omega) = e0 ∨ Wd (ls[i]'(by omega))) → ∀ j (h : j < ls.length), j < i + 1 → ls[j] = e0 ∨ Wd ls[j] := fun hs j h hj => by
      rcases Nat.lt_or_eq_of_le (Nat.le_of_lt_succ hj) with h2 | h2
      · exact hw j h h2
      · subst h2; exact hs
    generalize ls[i]'(by omega) = s at u0 hsz step
    by_cases hs : s = e0
    · have hE : s.toList = [] := by rw [hs]; kernel_rfl
      refine xc_two fun N6 hN6 => ?_
      refine xc_reg1 1 rfl fun K hK => ?_
      simp only [show (List.range 1).map (·, true) = [(0, true)] from rfl, rslv_cons, rslv_nil, List.getElem?_toArray, List.getElem?_cons_zero, List.getElem?_cons_succ, gres]
      (refine seqX_hide2 fun R hR => ?_; simp [go_sem, d211, d121, g1, g21, g22, g23, hi, hii, hw1, bc hP u0, xindexAt, vload, hE]; refine hR _ _ _ ?_; clear hR R)
      rw [seqX_nil]
      refine hK _ _ _ ?_; clear hK K
      refine hN6 _ _ _ ?_
      refine xc_two fun N7 hN7 => ?_
      refine xc_iftrue (by simp [go_sem, d211, d121, g1, g21, g22, g23, hi, hii, hw1, bc hP u0, xindexAt, vload, hE]) ?_
      refine hN7 _ _ _ ?_
      refine xc_two fun N8 hN8 => ?_
      rw [xc_block]
      refine xc_two fun N9 hN9 => ?_
      refine xc_reg1 3 rfl fun K hK => ?_
      simp only [show (List.range 3).map (·, true) = [(0, true), (1, true), (2, true)] from rfl, rslv_cons, rslv_nil, List.getElem?_toArray, List.getElem?_cons_zero, List.getElem?_cons_succ, gres]
      iterate 3 (refine seqX_hide2 fun R hR => ?_; simp [go_sem, d211, d121, g1, g21, g22, g23, hi, hii, hw1, bc hP u0, xindexAt, vload, hE]; refine hR _ _ _ ?_; clear hR R)
      rw [seqX_nil]
      refine hK _ _ _ ?_; clear hK K
      refine hN9 _ _ _ ?_
      refine xc_two fun N10 hN10 => ?_
      refine xc_reg1 7 rfl fun K hK => ?_
      simp only [show (List.range 7).map (·, true) = [(0, true), (1, true), (2, true), (3, true), (4, true), (5, true), (6, true)] from rfl, rslv_cons, rslv_nil, List.getElem?_toArray, List.getElem?_cons_zero, List.getElem?_cons_succ, gres]
      iterate 4 (refine seqX_hide2 fun R hR => ?_; simp [go_sem, d211, d121, g1, g21, g22, g23, hi, hii, hw1, bc hP u0, xindexAt, vload, hE]; refine hR _ _ _ ?_; clear hR R)
      refine seqX_hide2 fun R hR => ?_
      simp [go_sem, d211, d121, g1, g21, g22, g23, hi, hii, hw1, bc hP u0, xindexAt, vload, hE]
      refine hR _ _ _ ?_; clear hR R
      iterate 2 (refine seqX_hide2 fun R hR => ?_; simp [go_sem, d211, d121, g1, g21, g22, g23, hi, hii, hw1, bc hP u0, xindexAt, vload, hE]; refine hR _ _ _ ?_; clear hR R)
      rw [seqX_nil]
      refine hK _ _ _ ?_; clear hK K
      refine hN10 _ _ _ ?_
      refine xc_iffalse (by simp [go_sem, d211, d121, g1, g21, g22, g23, hi, hii, hw1, xindexAt, vload, hE]) ?_
      refine hN8 _ _ _ ?_
      refine xc_reg1 2 rfl fun K hK => ?_
      simp only [show (List.range 2).map (·, true) = [(0, true), (1, true)] from rfl, rslv_cons, rslv_nil, List.getElem?_toArray, List.getElem?_cons_zero, List.getElem?_cons_succ, gres]
      iterate 2 (refine seqX_hide2 fun R hR => ?_; simp [go_sem, d211, d121, g1, g21, g22, g23, hi, hii, hw1, xindexAt, vload, hE]; refine hR _ _ _ ?_; clear hR R)
      rw [seqX_nil]
      refine hK _ _ _ ?_; clear hK K
      refine hJ1 (5 - (i + 1)) _ _ _ (by omega) ⟨i + 1, D, rfl, rfl, rfl, hP, by simp [go_sem, d211, d121, g1, g21, g22, g23, hi, hii, hw1, xindexAt, vload, hE], by simp [go_sem, d211, d121, g1, g21, g22, g23, hi, hii, hw1, xindexAt, vload, hE], by simp [go_sem, d211, d121, g1, g21, g22, g23, hi, hii, hw1, xindexAt, vload, hE], by simp [go_sem, d211, d121, g1, g21, g22, g23, hi, hii, hw1, xindexAt, vload, hE], by omega, hAD, step (.inl hs)⟩
    have hE := ne_empty hs
    have hE1 := hE.1
    have hE2 := hE.2
    refine xc_two fun N6 hN6 => ?_
    refine xc_reg1 1 rfl fun K hK => ?_
    simp only [show (List.range 1).map (·, true) = [(0, true)] from rfl, rslv_cons, rslv_nil, List.getElem?_toArray, List.getElem?_cons_zero, List.getElem?_cons_succ, gres]
    (refine seqX_hide2 fun R hR => ?_; simp [go_sem, d211, d121, g1, g21, g22, g23, hi, hii, hw1, bc hP u0, xindexAt, vload, hE1, hE2]; refine hR _ _ _ ?_; clear hR R)
    rw [seqX_nil]
    refine hK _ _ _ ?_; clear hK K
    refine hN6 _ _ _ ?_
    refine xc_two fun N7 hN7 => ?_
    refine xc_iftrue (by simp [go_sem, d211, d121, g1, g21, g22, g23, hi, hii, hw1, bc hP u0, xindexAt, vload, hE1, hE2]) ?_
    refine hN7 _ _ _ ?_
    refine xc_two fun N8 hN8 => ?_
    rw [xc_block]
    refine xc_two fun N9 hN9 => ?_
    refine xc_reg1 3 rfl fun K hK => ?_
    simp only [show (List.range 3).map (·, true) = [(0, true), (1, true), (2, true)] from rfl, rslv_cons, rslv_nil, List.getElem?_toArray, List.getElem?_cons_zero, List.getElem?_cons_succ, gres]
    iterate 3 (refine seqX_hide2 fun R hR => ?_; simp [go_sem, d211, d121, g1, g21, g22, g23, hi, hii, hw1, bc hP u0, xindexAt, vload, hE1, hE2]; refine hR _ _ _ ?_; clear hR R)
    rw [seqX_nil]
    refine hK _ _ _ ?_; clear hK K
    refine hN9 _ _ _ ?_
    refine xc_two fun N10 hN10 => ?_
    refine xc_reg1 7 rfl fun K hK => ?_
    simp only [show (List.range 7).map (·, true) = [(0, true), (1, true), (2, true), (3, true), (4, true), (5, true), (6, true)] from rfl, rslv_cons, rslv_nil, List.getElem?_toArray, List.getElem?_cons_zero, List.getElem?_cons_succ, gres]
    iterate 4 (refine seqX_hide2 fun R hR => ?_; simp [go_sem, d211, d121, g1, g21, g22, g23, hi, hii, hw1, bc hP u0, xindexAt, vload, hE1, hE2]; refine hR _ _ _ ?_; clear hR R)
    refine seqX_hide2 fun R hR => ?_
    simp [go_sem, d211, d121, g1, g21, g22, g23, hi, hii, hw1, bc hP u0, xindexAt, vload, hE1, hE2]
    refine call_same hP (word6 D s (by omega)) ?_
    rintro _ ⟨b, rfl, hb⟩
    cases b with
    | false =>
      refine hR _ _ _ ?_; clear hR R
      iterate 2 (refine seqX_hide2 fun R hR => ?_; simp [go_sem, d211, d121, g1, g21, g22, g23, hi, hii, hw1, bc hP u0, xindexAt, vload, hE1, hE2]; refine hR _ _ _ ?_; clear hR R)
      rw [seqX_nil]
      refine hK _ _ _ ?_; clear hK K
      refine hN10 _ _ _ ?_
      refine xc_iftrue (by simp [go_sem, d211, d121, g1, g21, g22, g23, hi, hii, hw1, bc hP u0, xindexAt, vload, hE1, hE2]) ?_
      refine xc_two fun N11 hN11 => ?_
      refine xc_reg1 1 rfl fun K hK => ?_
      simp only [show (List.range 1).map (·, true) = [(0, true)] from rfl, rslv_cons, rslv_nil, List.getElem?_toArray, List.getElem?_cons_zero, List.getElem?_cons_succ, gres]
      (refine seqX_hide2 fun R hR => ?_; simp [go_sem, d211, d121, g1, g21, g22, g23, hi, hii, hw1, bc hP u0, xindexAt, vload, hE1, hE2]; refine hR _ _ _ ?_; clear hR R)
      rw [seqX_nil]
      refine hK _ _ _ ?_; clear hK K
      refine hN11 _ _ _ ?_
      refine hX1 _ _ _ _ ?_
      simp [go_sem, d211, d121, g1, g21, g22, g23, hi, hii, hw1, xindexAt, vload, hE1, hE2]
      exact View.le_trans hA (le_ov hP)
    | true =>
      refine hR _ _ _ ?_; clear hR R
      iterate 2 (refine seqX_hide2 fun R hR => ?_; simp [go_sem, d211, d121, g1, g21, g22, g23, hi, hii, hw1, bc hP u0, xindexAt, vload, hE1, hE2]; refine hR _ _ _ ?_; clear hR R)
      rw [seqX_nil]
      refine hK _ _ _ ?_; clear hK K
      refine hN10 _ _ _ ?_
      refine xc_iffalse (by simp [go_sem, d211, d121, g1, g21, g22, g23, hi, hii, hw1, bc hP u0, xindexAt, vload, hE1, hE2]) ?_
      refine hN8 _ _ _ ?_
      refine xc_reg1 2 rfl fun K hK => ?_
      simp only [show (List.range 2).map (·, true) = [(0, true), (1, true)] from rfl, rslv_cons, rslv_nil, List.getElem?_toArray, List.getElem?_cons_zero, List.getElem?_cons_succ, gres]
      iterate 2 (refine seqX_hide2 fun R hR => ?_; simp [go_sem, d211, d121, g1, g21, g22, g23, hi, hii, hw1, bc hP u0, xindexAt, vload, hE1, hE2]; refine hR _ _ _ ?_; clear hR R)
      rw [seqX_nil]
      refine hK _ _ _ ?_; clear hK K
      refine hJ1 (5 - (i + 1)) _ _ _ (by omega) ⟨i + 1, D, rfl, rfl, rfl, hP, by simp [go_sem, d211, d121, g1, g21, g22, g23, hi, hii, hw1, xindexAt, vload, hE1, hE2], by simp [go_sem, d211, d121, g1, g21, g22, g23, hi, hii, hw1, xindexAt, vload, hE1, hE2], by simp [go_sem, d211, d121, g1, g21, g22, g23, hi, hii, hw1, xindexAt, vload, hE1, hE2], by simp [go_sem, d211, d121, g1, g21, g22, g23, hi, hii, hw1, xindexAt, vload, hE1, hE2], by omega, hAD, step (.inr (hb rfl))⟩
  have hii : ¬ (i : Int) < 5 := by omega
  refine xc_two fun N6 hN6 => ?_
  refine xc_reg1 1 rfl fun K hK => ?_
  simp only [show (List.range 1).map (·, true) = [(0, true)] from rfl, rslv_cons, rslv_nil, List.getElem?_toArray, List.getElem?_cons_zero, List.getElem?_cons_succ, gres]
  (refine seqX_hide2 fun R hR => ?_; simp [go_sem, d211, d121, g1, g21, g22, g23, hi, hii]; refine hR _ _ _ ?_; clear hR R)
  rw [seqX_nil]
  refine hK _ _ _ ?_; clear hK K
  refine hN6 _ _ _ ?_
  refine xc_two fun N7 hN7 => ?_
  refine xc_iffalse (by simp [go_sem, d211, d121, g1, g21, g22, g23, hi, hii]) ?_
  refine hX1 _ _ _ _ ?_
  refine hN4 _ _ _ ?_
  refine xc_two fun N8 hN8 => ?_
  refine xc_two fun N9 hN9 => ?_
  subst hls
  have wg : g = e0 ∨ Wd g := hw 0 (by simp) (by omega)
  have wv : v = e0 ∨ Wd v := hw 1 (by simp) (by omega)
  have hE0 : e0.toList = [] := by kernel_rfl
  by_cases hv : v = e0
  · have hv0 : v.toList = [] := by rw [hv]; kernel_rfl
    refine xc_reg1 13 rfl fun K hK => ?_
    simp only [show (List.range 13).map (·, true) = [(0, true), (1, true), (2, true), (3, true), (4, true), (5, true), (6, true), (7, true), (8, true), (9, true), (10, true), (11, true), (12, true)] from rfl, rslv_cons, rslv_nil, List.getElem?_toArray, List.getElem?_cons_zero, List.getElem?_cons_succ, gres]
    iterate 13 (refine seqX_hide2 fun R hR => ?_; simp [go_sem, d211, d121, g1, g21, g22, g23, hi, hii, hE0, hv0]; refine hR _ _ _ ?_; clear hR R)
    rw [seqX_nil]
    refine hK _ _ _ ?_; clear hK K
    refine hN9 _ _ _ ?_
    refine xc_iftrue (by simp [go_sem, d211, d121, g1, g21, g22, g23, hi, hii, hE0, hv0]) ?_
    refine xc_two fun N10 hN10 => ?_
    refine xc_reg1 1 rfl fun K hK => ?_
    simp only [show (List.range 1).map (·, true) = [(0, true)] from rfl, rslv_cons, rslv_nil, List.getElem?_toArray, List.getElem?_cons_zero, List.getElem?_cons_succ, gres]
    (refine seqX_hide2 fun R hR => ?_; simp [go_sem, d211, d121, g1, g21, g22, g23, hi, hii, hE0, hv0]; refine hR _ _ _ ?_; clear hR R)
    rw [seqX_nil]
    refine hK _ _ _ ?_; clear hK K
    refine hN10 _ _ _ ?_
    simp [go_sem, d211, d121, g1, g21, g22, g23, hi, hii, hE0, hv0]
    exact View.le_trans hA (le_ov hP)
  have hv1 := (ne_empty hv).1
  have hv2 := (ne_empty hv).2
  by_cases hk : k = e0
  · have hk0 : k.toList = [] := by rw [hk]; kernel_rfl
    refine xc_reg1 13 rfl fun K hK => ?_
    simp only [show (List.range 13).map (·, true) = [(0, true), (1, true), (2, true), (3, true), (4, true), (5, true), (6, true), (7, true), (8, true), (9, true), (10, true), (11, true), (12, true)] from rfl, rslv_cons, rslv_nil, List.getElem?_toArray, List.getElem?_cons_zero, List.getElem?_cons_succ, gres]
    iterate 13 (refine seqX_hide2 fun R hR => ?_; simp [go_sem, d211, d121, g1, g21, g22, g23, hi, hii, hE0, hv1, hv2, hk0]; refine hR _ _ _ ?_; clear hR R)
    rw [seqX_nil]
    refine hK _ _ _ ?_; clear hK K
    refine hN9 _ _ _ ?_
    refine xc_iftrue (by simp [go_sem, d211, d121, g1, g21, g22, g23, hi, hii, hE0, hv1, hv2, hk0]) ?_
    refine xc_two fun N10 hN10 => ?_
    refine xc_reg1 1 rfl fun K hK => ?_
    simp only [show (List.range 1).map (·, true) = [(0, true)] from rfl, rslv_cons, rslv_nil, List.getElem?_toArray, List.getElem?_cons_zero, List.getElem?_cons_succ, gres]
    (refine seqX_hide2 fun R hR => ?_; simp [go_sem, d211, d121, g1, g21, g22, g23, hi, hii, hE0, hv1, hv2, hk0]; refine hR _ _ _ ?_; clear hR R)
    rw [seqX_nil]
    refine hK _ _ _ ?_; clear hK K
    refine hN10 _ _ _ ?_
    simp [go_sem, d211, d121, g1, g21, g22, g23, hi, hii, hE0, hv1, hv2, hk0]
    exact View.le_trans hA (le_ov hP)
  have hk1 := (ne_empty hk).1
  have hk2 := (ne_empty hk).2
  by_cases hn : n = e0
  · have hn0 : n.toList = [] := by rw [hn]; kernel_rfl
    refine xc_reg1 13 rfl fun K hK => ?_
    simp only [show (List.range 13).map (·, true) = [(0, true), (1, true), (2, true), (3, true), (4, true), (5, true), (6, true), (7, true), (8, true), (9, true), (10, true), (11, true), (12, true)] from rfl, rslv_cons, rslv_nil, List.getElem?_toArray, List.getElem?_cons_zero, List.getElem?_cons_succ, gres]
    iterate 13 (refine seqX_hide2 fun R hR => ?_; simp [go_sem, d211, d121, g1, g21, g22, g23, hi, hii, hE0, hv1, hv2, hk1, hk2, hn0]; refine hR _ _ _ ?_; clear hR R)
    rw [seqX_nil]
    refine hK _ _ _ ?_; clear hK K
    refine hN9 _ _ _ ?_
    refine xc_iftrue (by simp [go_sem, d211, d121, g1, g21, g22, g23, hi, hii, hE0, hv1, hv2, hk1, hk2, hn0]) ?_
    refine xc_two fun N10 hN10 => ?_
    refine xc_reg1 1 rfl fun K hK => ?_
    simp only [show (List.range 1).map (·, true) = [(0, true)] from rfl, rslv_cons, rslv_nil, List.getElem?_toArray, List.getElem?_cons_zero, List.getElem?_cons_succ, gres]
    (refine seqX_hide2 fun R hR => ?_; simp [go_sem, d211, d121, g1, g21, g22, g23, hi, hii, hE0, hv1, hv2, hk1, hk2, hn0]; refine hR _ _ _ ?_; clear hR R)
    rw [seqX_nil]
    refine hK _ _ _ ?_; clear hK K
    refine hN10 _ _ _ ?_
    simp [go_sem, d211, d121, g1, g21, g22, g23, hi, hii, hE0, hv1, hv2, hk1, hk2, hn0]
    exact View.le_trans hA (le_ov hP)
  have hn1 := (ne_empty hn).1
  have hn2 := (ne_empty hn).2
  refine xc_reg1 13 rfl fun K hK => ?_
  simp only [show (List.range 13).map (·, true) = [(0, true), (1, true), (2, true), (3, true), (4, true), (5, true), (6, true), (7, true), (8, true), (9, true), (10, true), (11, true), (12, true)] from rfl, rslv_cons, rslv_nil, List.getElem?_toArray, List.getElem?_cons_zero, List.getElem?_cons_succ, gres]
  iterate 13 (refine seqX_hide2 fun R hR => ?_; simp [go_sem, d211, d121, g1, g21, g22, g23, hi, hii, hE0, hv1, hv2, hk1, hk2, hn1, hn2]; refine hR _ _ _ ?_; clear hR R)
  rw [seqX_nil]
  refine hK _ _ _ ?_; clear hK K
  refine hN9 _ _ _ ?_
  refine xc_iffalse (by simp [go_sem, d211, d121, g1, g21, g22, g23, hi, hii, hE0, hv1, hv2, hk1, hk2, hn1, hn2]) ?_
  refine hN8 _ _ _ ?_
  refine xc_two fun N10 hN10 => ?_
  refine xc_reg1 3 rfl fun K hK => ?_
  simp only [show (List.range 3).map (·, true) = [(0, true), (1, true), (2, true)] from rfl, rslv_cons, rslv_nil, List.getElem?_toArray, List.getElem?_cons_zero, List.getElem?_cons_succ, gres]
  iterate 3 (refine seqX_hide2 fun R hR => ?_; simp [go_sem, d211, d121, g1, g21, g22, g23, hi, hii, hE0, hv1, hv2, hk1, hk2, hn1, hn2]; refine hR _ _ _ ?_; clear hR R)
  rw [seqX_nil]
  refine hK _ _ _ ?_; clear hK K
  refine hN10 _ _ _ ?_
  refine xc_two fun N11 hN11 => ?_
  refine xc_two fun N12 hN12 => ?_
  have tl : ∀ (api : ByteArray) (e : Env), Priv D [q1] → e 1 = .pointer (some ⟨q1, 0, none⟩) → e 5 = .string api → (GVs g v api) → (api ≠ e0) → (api.size ≤ 100) → N11 e [] (ov D [(q1, .cells #[.string g, .string v, .string k, .string n, .string ns] 23 (0, 0))]) := by
    clear g1 g21 g22 g23
    clear hP
    intro api e hP g1 g5 hgv hapi hapz
    refine hN11 _ _ _ ?_
    refine xc_two fun N13 hN13 => ?_
    refine xc_reg1 16 rfl fun K hK => ?_
    simp only [show (List.range 16).map (·, true) = [(0, true), (1, true), (2, true), (3, true), (4, true), (5, true), (6, true), (7, true), (8, true), (9, true), (10, true), (11, true), (12, true), (13, true), (14, true), (15, true)] from rfl, rslv_cons, rslv_nil, List.getElem?_toArray, List.getElem?_cons_zero, List.getElem?_cons_succ, gres]
    iterate 8 (refine seqX_hide2 fun R hR => ?_; simp [go_sem, d211, d121, hi, hii, hE0, hv1, hv2, hk1, hk2, hn1, hn2, g1, g5]; refine hR _ _ _ ?_; clear hR R)
    refine seqX_hide2 fun R hR => ?_
    simp [go_sem, d211, d121, hi, hii, hE0, hv1, hv2, hk1, hk2, hn1, hn2, g1, g5]
    refine call_ov hP (resource8 D api k n ns) ?_
    clear hP
    rintro _ D2 ⟨c, rfl, hc, hD2⟩ hP
    have hcz := hc.size
    have hco := hc.ones
    refine hR _ _ _ ?_; clear hR R
    refine seqX_hide2 fun R hR => ?_
    simp [go_sem, d211, d121, hi, hii, hE0, hv1, hv2, hk1, hk2, hn1, hn2, g1, g5, hcz, hco]
    have hid := idOf7 D2 (resT api k n ns) 12 c g v hc (pt_res hapi hk hn ns) (nds_res hapi hk hn ns) (by omega) (res_ok hapi hk hn ns) (by rw [res_api hapi hk]; exact hgv) (by rw [res_api hapi hk]; omega)
    rw [res_kind hapi hk, res_name hapi hk hn, res_ns hapi hk hn] at hid
    refine call_ov hP hid ?_
    clear hP
    rintro _ D3 ⟨rfl, hD3⟩ hP
    have heq := eqId g v k n ns
    refine hR _ _ _ ?_; clear hR R
    iterate 3 (refine seqX_hide2 fun R hR => ?_; simp [go_sem, d211, d121, hi, hii, hE0, hv1, hv2, hk1, hk2, hn1, hn2, g1, g5, hcz, hco, heq]; refine hR _ _ _ ?_; clear hR R)
    refine seqX_hide2 fun R hR => ?_
    simp [go_sem, d211, d121, hi, hii, hE0, hv1, hv2, hk1, hk2, hn1, hn2, g1, g5, hcz, hco, heq]
    intro q6 hq6
    replace hP := hP.cons hq6
    clear hq6
    have d61 : q6 ≠ q1 := (hP.ne q1 (by simp [addrs])).1
    have d16 : q1 ≠ q6 := (hP.ne q1 (by simp [addrs])).2
    refine hR _ _ _ ?_; clear hR R
    refine seqX_hide2 fun R hR => ?_
    simp [go_sem, d211, d121, hi, hii, hE0, hv1, hv2, hk1, hk2, hn1, hn2, g1, g5, hcz, hco, heq, d61, d16]
    refine hR _ _ _ ?_; clear hR R
    (refine seqX_hide2 fun R hR => ?_; simp [go_sem, d211, d121, hi, hii, hE0, hv1, hv2, hk1, hk2, hn1, hn2, g1, g5, hcz, hco, heq, d61, d16]; refine hR _ _ _ ?_; clear hR R)
    rw [seqX_nil]
    refine hK _ _ _ ?_; clear hK K
    refine hN13 _ _ _ ?_
    refine xc_two fun N14 hN14 => ?_
    refine xc_reg1 8 rfl fun K hK => ?_
    simp only [show (List.range 8).map (·, true) = [(0, true), (1, true), (2, true), (3, true), (4, true), (5, true), (6, true), (7, true)] from rfl, rslv_cons, rslv_nil, List.getElem?_toArray, List.getElem?_cons_zero, List.getElem?_cons_succ, gres]
    iterate 8 (refine seqX_hide2 fun R hR => ?_; simp [go_sem, d211, d121, hi, hii, hE0, hv1, hv2, hk1, hk2, hn1, hn2, g1, g5, hcz, hco, heq, d61, d16]; refine hR _ _ _ ?_; clear hR R)
    rw [seqX_nil]
    refine hK _ _ _ ?_; clear hK K
    refine hN14 _ _ _ ?_
    simp [go_sem, d211, d121, hi, hii, hE0, hv1, hv2, hk1, hk2, hn1, hn2, g1, g5, hcz, hco, heq, d61, d16]
    exact View.le_trans hA (View.le_trans hD2 (View.le_trans hD3 (le_ov hP)))
  by_cases hg : g = e0
  · have hg0 : g.toList = [] := by rw [hg]; kernel_rfl
    refine xc_reg1 3 rfl fun K hK => ?_
    simp only [show (List.range 3).map (·, true) = [(0, true), (1, true), (2, true)] from rfl, rslv_cons, rslv_nil, List.getElem?_toArray, List.getElem?_cons_zero, List.getElem?_cons_succ, gres]
    iterate 3 (refine seqX_hide2 fun R hR => ?_; simp [go_sem, d211, d121, g1, g21, g22, g23, hi, hii, hE0, hv1, hv2, hk1, hk2, hn1, hn2, hg0]; refine hR _ _ _ ?_; clear hR R)
    rw [seqX_nil]
    refine hK _ _ _ ?_; clear hK K
    refine hN12 _ _ _ ?_
    refine xc_iffalse (by simp [go_sem, d211, d121, g1, g21, g22, g23, hi, hii, hE0, hv1, hv2, hk1, hk2, hn1, hn2, hg0]) ?_
    exact tl (v) _ hP (by simp [go_sem, d211, d121, g1, g21, g22, g23, hi, hii, hE0, hv1, hv2, hk1, hk2, hn1, hn2, hg0]) (by simp [go_sem, d211, d121, g1, g21, g22, g23, hi, hii, hE0, hv1, hv2, hk1, hk2, hn1, hn2, hg0]) (.inl ⟨hg, rfl, wd_nosl wv⟩) (hv) (by have := wd_size wv; omega)
  have hg1 := (ne_empty hg).1
  have hg2 := (ne_empty hg).2
  have hap := gv_size (g := g) (v := v) rfl
  have hsg := wd_size wg
  have hsv := wd_size wv
  have y1 : g.size ≤ 9223372036854775806 := by omega
  have y2 : g.size + 1 + v.size ≤ 9223372036854775807 := by omega
  have y3 : g.size + 1 ≤ 9223372036854775807 := by omega
  refine xc_reg1 3 rfl fun K hK => ?_
  simp only [show (List.range 3).map (·, true) = [(0, true), (1, true), (2, true)] from rfl, rslv_cons, rslv_nil, List.getElem?_toArray, List.getElem?_cons_zero, List.getElem?_cons_succ, gres]
  iterate 3 (refine seqX_hide2 fun R hR => ?_; simp [go_sem, d211, d121, g1, g21, g22, g23, hi, hii, hE0, hv1, hv2, hk1, hk2, hn1, hn2, hg1, hg2, y1, y2, y3]; refine hR _ _ _ ?_; clear hR R)
  rw [seqX_nil]
  refine hK _ _ _ ?_; clear hK K
  refine hN12 _ _ _ ?_
  refine xc_iftrue (by simp [go_sem, d211, d121, g1, g21, g22, g23, hi, hii, hE0, hv1, hv2, hk1, hk2, hn1, hn2, hg1, hg2, y1, y2, y3]) ?_
  refine xc_reg1 6 rfl fun K hK => ?_
  simp only [show (List.range 6).map (·, true) = [(0, true), (1, true), (2, true), (3, true), (4, true), (5, true)] from rfl, rslv_cons, rslv_nil, List.getElem?_toArray, List.getElem?_cons_zero, List.getElem?_cons_succ, gres]
  iterate 6 (refine seqX_hide2 fun R hR => ?_; simp [go_sem, d211, d121, g1, g21, g22, g23, hi, hii, hE0, hv1, hv2, hk1, hk2, hn1, hn2, hg1, hg2, y1, y2, y3]; refine hR _ _ _ ?_; clear hR R)
  rw [seqX_nil]
  refine hK _ _ _ ?_; clear hK K
  exact tl (g ++ ⟨#[47]⟩ ++ v) _ hP (by simp [go_sem, d211, d121, g1, g21, g22, g23, hi, hii, hE0, hv1, hv2, hk1, hk2, hn1, hn2, hg1, hg2, y1, y2, y3]) (by simp [go_sem, d211, d121, g1, g21, g22, g23, hi, hii, hE0, hv1, hv2, hk1, hk2, hn1, hn2, hg1, hg2, y1, y2, y3]) (.inr ⟨wd_nosl wg, rfl⟩) (fun e => by rw [e] at hap; have h0 : e0.size = 0 := rfl; omega) (by have := wd_size wg; have := wd_size wv; omega)
theorem law3 (W : World) (g v k n ns : ByteArray) : VCalls Try.prog 3 #[.agg #[.string g, .string v, .string k, .string n, .string ns]] (full W) fun r A' => r = .bool true ∧ full W ≤ A' := treeId3 (full W) g v k n ns
end Go.Proofs.YthjbgpmcfcijgaaV

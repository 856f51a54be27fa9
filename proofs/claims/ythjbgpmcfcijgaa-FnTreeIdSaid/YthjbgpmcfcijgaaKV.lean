/- Trees: spec.Resource. -/
import Derived.Test.YthjbgpmcfcijgaaKU
import Derived.Test.YthjbgpmcfcijgaaKS
namespace Go.Proofs.YthjbgpmcfcijgaaV
open Go.RowKit
set_option linter.unusedSimpArgs false
set_option linter.unusedVariables false
theorem put_kids (t x y : Tr) : (t.put x y).kids = t.kids ++ [x, y] := by
  obtain ⟨k, st, tag, val, an, h, ln, f, row, col, al, kk, rfl⟩ := t.ex
  rfl
/-- A mapping with a text more, if there is one. -/
def Tr.put1 (t : Tr) (s v : ByteArray) : Tr := if v = e0 then t else t.put (tn s) (tn v)
set_option maxRecDepth 20000 in
theorem res21 (A : View) (t : Tr) (c : Array Value) (s v : ByteArray) (hc : IsTr A t c) (hkl : t.kids.length ≤ 1000000) (hn : fld t.kids s = none) : VCalls Try.prog 21 #[.agg c, .string s, .string v] A fun r A' => ∃ c', r = .agg c' ∧ IsTr A' (t.put1 s v) c' ∧ A ≤ A' := by
  have hcz := hc.size
  have hco := hc.ones
  refine xcalls Try.func21 rfl (by simp [Try.ntmps21]) ?_
  simp only [Try.f21]
  have hP : Priv A (addrs []) := Priv.nil A
  show xc _ _ _ _ _ _ (ov A [])
  by_cases hv : v = e0
  · subst hv
    have hv' : e0.toList.isEmpty = true := by kernel_rfl
    refine xc_two fun N1 hN1 => ?_
    refine xc_reg1 2 rfl fun K hK => ?_
    simp only [show (List.range 2).map (·, true) = [(0, true), (1, true)] from rfl, rslv_cons, rslv_nil, List.getElem?_toArray, List.getElem?_cons_zero, List.getElem?_cons_succ, gres]
    refine seqX_hide2 fun R hR => ?_
    simp [go_sem, hcz, hco, hv']
    intro q3 hq3
    replace hP := hP.cons hq3
    clear hq3
    refine hR _ _ _ ?_; clear hR R
    refine seqX_hide2 fun R hR => ?_
    simp [go_sem, hcz, hco, hv']
    intro q6 hq6
    replace hP := hP.cons hq6
    clear hq6
    have d63 : q6 ≠ q3 := (hP.ne q3 (by simp [addrs])).1
    have d36 : q3 ≠ q6 := (hP.ne q3 (by simp [addrs])).2
    refine hR _ _ _ ?_; clear hR R
    rw [seqX_nil]
    refine hK _ _ _ ?_; clear hK K
    refine hN1 _ _ _ ?_
    refine xc_two fun N2 hN2 => ?_
    refine xc_two fun N3 hN3 => ?_
    refine xc_reg1 2 rfl fun K hK => ?_
    simp only [show (List.range 2).map (·, true) = [(0, true), (1, true)] from rfl, rslv_cons, rslv_nil, List.getElem?_toArray, List.getElem?_cons_zero, List.getElem?_cons_succ, gres]
    iterate 2 (refine seqX_hide2 fun R hR => ?_; simp [go_sem, hcz, hco, hv', d63, d36]; refine hR _ _ _ ?_; clear hR R)
    rw [seqX_nil]
    refine hK _ _ _ ?_; clear hK K
    refine hN3 _ _ _ ?_
    refine xc_iftrue (by simp [go_sem, hcz, hco, hv', d63, d36]) ?_
    refine xc_two fun N4 hN4 => ?_
    refine xc_reg1 2 rfl fun K hK => ?_
    simp only [show (List.range 2).map (·, true) = [(0, true), (1, true)] from rfl, rslv_cons, rslv_nil, List.getElem?_toArray, List.getElem?_cons_zero, List.getElem?_cons_succ, gres]
    (refine seqX_hide2 fun R hR => ?_; simp [go_sem, hcz, hco, hv', d63, d36]; refine hR _ _ _ ?_; clear hR R)
    refine seqX_hide2 fun R hR => ?_
    simp [go_sem, hcz, hco, hv', d63, d36]
    refine hR _ _ _ ?_; clear hR R
    rw [seqX_nil]
    refine hK _ _ _ ?_; clear hK K
    refine hN4 _ _ _ ?_
    simp [go_sem, hcz, hco, hv', d63, d36]
    rw [Tr.put1, if_pos rfl]
    refine ⟨hc.le ?_, ?_⟩
    · exact le_ov hP
    · exact le_ov hP
  have hv' : v.toList.isEmpty = false := by
    cases he : v.toList.isEmpty with
    | false => rfl
    | true => exact absurd (show v.toList = e0.toList by rw [List.isEmpty_iff.1 he]; kernel_rfl) (bytes_ne hv)
  have hv2 : ¬ v.toList = [] := fun e => by rw [e] at hv'; cases hv'
  refine xc_two fun N1 hN1 => ?_
  refine xc_reg1 2 rfl fun K hK => ?_
  simp only [show (List.range 2).map (·, true) = [(0, true), (1, true)] from rfl, rslv_cons, rslv_nil, List.getElem?_toArray, List.getElem?_cons_zero, List.getElem?_cons_succ, gres]
  refine seqX_hide2 fun R hR => ?_
  simp [go_sem, hcz, hco, hv', hv2]
  intro q3 hq3
  replace hP := hP.cons hq3
  clear hq3
  refine hR _ _ _ ?_; clear hR R
  refine seqX_hide2 fun R hR => ?_
  simp [go_sem, hcz, hco, hv', hv2]
  intro q6 hq6
  replace hP := hP.cons hq6
  clear hq6
  have d63 : q6 ≠ q3 := (hP.ne q3 (by simp [addrs])).1
  have d36 : q3 ≠ q6 := (hP.ne q3 (by simp [addrs])).2
  refine hR _ _ _ ?_; clear hR R
  rw [seqX_nil]
  refine hK _ _ _ ?_; clear hK K
  refine hN1 _ _ _ ?_
  refine xc_two fun N2 hN2 => ?_
  refine xc_two fun N3 hN3 => ?_
  refine xc_reg1 2 rfl fun K hK => ?_
  simp only [show (List.range 2).map (·, true) = [(0, true), (1, true)] from rfl, rslv_cons, rslv_nil, List.getElem?_toArray, List.getElem?_cons_zero, List.getElem?_cons_succ, gres]
  iterate 2 (refine seqX_hide2 fun R hR => ?_; simp [go_sem, hcz, hco, hv', hv2, d63, d36]; refine hR _ _ _ ?_; clear hR R)
  rw [seqX_nil]
  refine hK _ _ _ ?_; clear hK K
  refine hN3 _ _ _ ?_
  refine xc_iffalse (by simp [go_sem, hcz, hco, hv', hv2, d63, d36]) ?_
  refine hN2 _ _ _ ?_
  refine xc_two fun N4 hN4 => ?_
  rw [xc_draws]
  refine vdrawK [(0, true), (1, true), (2, true), (3, true), (4, false), (5, false)] (ov A [(q6, .cells (trc 0 0 ⟨#[]⟩ ⟨#[]⟩ ⟨#[]⟩ ⟨#[]⟩ ⟨#[]⟩ ⟨#[]⟩ 0 0 0 (.slice none 0 0)) 31 (0, 0)), (q3, .cells c 31 (0, 0))]) mixed (by kernel_rfl) (View.le_refl _) fun K hK => ?_
  simp only [rslv_cons, rslv_nil, List.getElem?_toArray, List.getElem?_cons_zero, List.getElem?_cons_succ, gres]
  iterate 3 (refine seqR_hide fun R hR => ?_; simp [go_sem, hcz, hco, hv', hv2, d63, d36]; refine hR _ _ _ ?_; clear hR R)
  refine seqR_hide fun R hR => ?_
  simp [go_sem, hcz, hco, hv', hv2, d63, d36]
  refine call_ov hP (text16 A v) ?_
  clear hP
  rintro _ A2 ⟨rfl, hA2⟩ hP
  refine ⟨ov_mono hA2, hR _ _ _ ?_⟩; clear hR R
  refine seqR_hide fun R hR => ?_
  simp [go_sem, hcz, hco, hv', hv2, d63, d36]
  refine call_ov hP (fieldSet22 A2 t (tn v) c _ s (hc.le hA2) (text_is A2 v) hkl hn) ?_
  clear hP
  rintro _ A3 ⟨c', rfl, hc', hA3⟩ hP
  have hA := View.le_trans hA2 hA3
  have hcz' := hc'.size
  have hco' := hc'.ones
  refine hR _ _ _ ?_; clear hR R
  refine seqR_hide fun R hR => ?_
  simp [go_sem, hcz, hco, hv', hv2, d63, d36, hcz', hco']
  refine hR _ _ _ ?_; clear hR R
  rw [seqR_nil]
  refine hK _ _ _ ?_; clear hK K
  refine hN4 _ _ _ ?_
  simp [go_sem, hcz, hco, hv', hv2, d63, d36, hcz', hco']
  rw [Tr.put1, if_neg hv]
  refine ⟨hc'.le ?_, View.le_trans hA ?_⟩
  · exact le_ov hP
  · exact le_ov hP
def mapE : Tr := mapN [] []
theorem mapE_kids : mapE.kids = [] := rfl
theorem put1_kids1 (a x : ByteArray) : (mapE.put1 a x).kids = [] ∨ (mapE.put1 a x).kids = [tn a, tn x] := by
  unfold Tr.put1
  split
  · exact .inl rfl
  · exact .inr rfl
theorem put1_kids2 (a x b y : ByteArray) : ((mapE.put1 a x).put1 b y).kids = [] ∨ ((mapE.put1 a x).put1 b y).kids = [tn a, tn x] ∨ ((mapE.put1 a x).put1 b y).kids = [tn b, tn y] ∨ ((mapE.put1 a x).put1 b y).kids = [tn a, tn x, tn b, tn y] := by
  unfold Tr.put1
  split
  · split
    · exact .inl rfl
    · exact .inr (.inl rfl)
  · split
    · exact .inr (.inr (.inl rfl))
    · exact .inr (.inr (.inr rfl))
theorem put1_side (a x b : ByteArray) (h : ¬ b = a) : (mapE.put1 a x).kids.length ≤ 1000000 ∧ fld (mapE.put1 a x).kids b = none := by
  rcases put1_kids1 a x with e | e
  · rw [e]; exact ⟨by decide, rfl⟩
  · rw [e]
    refine ⟨by simp, ?_⟩
    rw [fld, if_neg (show ¬ b = (tn a).value from h)]
    rfl
theorem put1_side2 (x y : ByteArray) : ((mapE.put1 vApi x).put1 vKind y).kids.length ≤ 1000000 ∧ fld ((mapE.put1 vApi x).put1 vKind y).kids vMeta = none := by
  have h1 : ¬ vMeta = (tn vApi).value := by decide
  have h2 : ¬ vMeta = (tn vKind).value := by decide
  rcases put1_kids2 vApi x vKind y with e | e | e | e
  · rw [e]; exact ⟨by decide, rfl⟩
  · rw [e]; exact ⟨by simp, by rw [fld, if_neg h1]; rfl⟩
  · rw [e]; exact ⟨by simp, by rw [fld, if_neg h2]; rfl⟩
  · rw [e]; exact ⟨by simp, by rw [fld, if_neg h1, fld, if_neg h2]; rfl⟩
/-- A resource's tree. -/
def resT (api kind name ns : ByteArray) : Tr := ((mapE.put1 vApi api).put1 vKind kind).put (tn vMeta) ((mapE.put1 vName name).put1 vNs ns)
set_option maxRecDepth 20000 in
theorem resource8 (A : View) (api kind name ns : ByteArray) : VCalls Try.prog 8 #[.agg #[.string api, .string kind, .string name, .string ns, .slice none 0 0, .slice none 0 0]] A fun r A' => ∃ c, r = .agg c ∧ IsTr A' (resT api kind name ns) c ∧ A ≤ A' := by
  refine xcalls Try.func8 rfl (by simp [Try.ntmps8]) ?_
  simp only [Try.f8]
  have hP : Priv A (addrs []) := Priv.nil A
  show xc _ _ _ _ _ _ (ov A [])
  refine xc_two fun N1 hN1 => ?_
  refine xc_reg1 2 rfl fun K hK => ?_
  simp only [show (List.range 2).map (·, true) = [(0, true), (1, true)] from rfl, rslv_cons, rslv_nil, List.getElem?_toArray, List.getElem?_cons_zero, List.getElem?_cons_succ, gres]
  refine seqX_hide2 fun R hR => ?_
  simp [go_sem]
  intro q1 hq1
  replace hP := hP.cons hq1
  clear hq1
  refine hR _ _ _ ?_; clear hR R
  refine seqX_hide2 fun R hR => ?_
  simp [go_sem]
  intro q2 hq2
  replace hP := hP.cons hq2
  clear hq2
  have d21 : q2 ≠ q1 := (hP.ne q1 (by simp [addrs])).1
  have d12 : q1 ≠ q2 := (hP.ne q1 (by simp [addrs])).2
  refine hR _ _ _ ?_; clear hR R
  rw [seqX_nil]
  refine hK _ _ _ ?_; clear hK K
  refine hN1 _ _ _ ?_
  refine xc_two fun N2 hN2 => ?_
  refine xc_reg1 6 rfl fun K hK => ?_
  simp only [show (List.range 6).map (·, true) = [(0, true), (1, true), (2, true), (3, true), (4, true), (5, true)] from rfl, rslv_cons, rslv_nil, List.getElem?_toArray, List.getElem?_cons_zero, List.getElem?_cons_succ, gres]
  refine seqX_hide2 fun R hR => ?_
  simp [go_sem, d21, d12]
  refine call_ov hP (mapNode15 A [] [] _ _ (.inr ⟨rfl, rfl, rfl⟩) (Elems.nil _ _ _) rfl (by decide)) ?_
  clear hP
  rintro _ A2 ⟨c1, rfl, hc1, hA2⟩ hP
  refine hR _ _ _ ?_; clear hR R
  refine seqX_hide2 fun R hR => ?_
  simp [go_sem, d21, d12]
  refine call_ov hP (mapNode15 A2 [] [] _ _ (.inr ⟨rfl, rfl, rfl⟩) (Elems.nil _ _ _) rfl (by decide)) ?_
  clear hP
  rintro _ A3 ⟨c2, rfl, hc2, hA3⟩ hP
  have hz1 := hc1.size
  have ho1 := hc1.ones
  have hz2 := hc2.size
  have ho2 := hc2.ones
  refine hR _ _ _ ?_; clear hR R
  refine seqX_hide2 fun R hR => ?_
  simp [go_sem, d21, d12, hz1, ho1, hz2, ho2]
  intro q3 hq3
  replace hP := hP.cons hq3
  clear hq3
  have d32 : q3 ≠ q2 := (hP.ne q2 (by simp [addrs])).1
  have d23 : q2 ≠ q3 := (hP.ne q2 (by simp [addrs])).2
  have d31 : q3 ≠ q1 := (hP.ne q1 (by simp [addrs])).1
  have d13 : q1 ≠ q3 := (hP.ne q1 (by simp [addrs])).2
  refine hR _ _ _ ?_; clear hR R
  refine seqX_hide2 fun R hR => ?_
  simp [go_sem, d21, d12, hz1, ho1, hz2, ho2, d32, d23, d31, d13]
  intro q4 hq4
  replace hP := hP.cons hq4
  clear hq4
  have d43 : q4 ≠ q3 := (hP.ne q3 (by simp [addrs])).1
  have d34 : q3 ≠ q4 := (hP.ne q3 (by simp [addrs])).2
  have d42 : q4 ≠ q2 := (hP.ne q2 (by simp [addrs])).1
  have d24 : q2 ≠ q4 := (hP.ne q2 (by simp [addrs])).2
  have d41 : q4 ≠ q1 := (hP.ne q1 (by simp [addrs])).1
  have d14 : q1 ≠ q4 := (hP.ne q1 (by simp [addrs])).2
  refine hR _ _ _ ?_; clear hR R
  refine seqX_hide2 fun R hR => ?_
  simp [go_sem, d21, d12, hz1, ho1, hz2, ho2, d32, d23, d31, d13, d43, d34, d42, d24, d41, d14]
  refine hR _ _ _ ?_; clear hR R
  refine seqX_hide2 fun R hR => ?_
  simp [go_sem, d21, d12, hz1, ho1, hz2, ho2, d32, d23, d31, d13, d43, d34, d42, d24, d41, d14]
  refine hR _ _ _ ?_; clear hR R
  rw [seqX_nil]
  refine hK _ _ _ ?_; clear hK K
  refine hN2 _ _ _ ?_
  refine xc_two fun N3 hN3 => ?_
  refine xc_reg1 1 rfl fun K hK => ?_
  simp only [show (List.range 1).map (·, true) = [(0, true)] from rfl, rslv_cons, rslv_nil, List.getElem?_toArray, List.getElem?_cons_zero, List.getElem?_cons_succ, gres]
  (refine seqX_hide2 fun R hR => ?_; simp [go_sem, d21, d12, hz1, ho1, hz2, ho2, d32, d23, d31, d13, d43, d34, d42, d24, d41, d14]; refine hR _ _ _ ?_; clear hR R)
  rw [seqX_nil]
  refine hK _ _ _ ?_; clear hK K
  refine hN3 _ _ _ ?_
  refine xc_two fun N4 hN4 => ?_
  rw [xc_draws]
  refine vdrawK [(0, true), (1, true), (2, true), (3, true), (4, true), (5, true), (6, true), (7, true), (8, false), (9, false)] (ov A3 [(q4, .cells c2 31 (0, 0)), (q3, .cells c1 31 (0, 0)), (q2, .cells (trc 0 0 ⟨#[]⟩ ⟨#[]⟩ ⟨#[]⟩ ⟨#[]⟩ ⟨#[]⟩ ⟨#[]⟩ 0 0 0 (.slice none 0 0)) 31 (0, 0)), (q1, .cells #[.string api, .string kind, .string name, .string ns, .slice none 0 0, .slice none 0 0] 35 (0, 0))]) mixed (by kernel_rfl) (View.le_refl _) fun K hK => ?_
  simp only [rslv_cons, rslv_nil, List.getElem?_toArray, List.getElem?_cons_zero, List.getElem?_cons_succ, gres]
  iterate 5 (refine seqR_hide fun R hR => ?_; simp [go_sem, d21, d12, hz1, ho1, hz2, ho2, d32, d23, d31, d13, d43, d34, d42, d24, d41, d14]; refine hR _ _ _ ?_; clear hR R)
  refine seqR_hide fun R hR => ?_
  simp [go_sem, d21, d12, hz1, ho1, hz2, ho2, d32, d23, d31, d13, d43, d34, d42, d24, d41, d14]
  refine call_ov hP (res21 A3 mapE c1 vApi api (hc1.le hA3) (by rw [mapE_kids]; decide) rfl) ?_
  clear hP
  rintro _ A4 ⟨c3, rfl, hc3, hA4⟩ hP
  have hz3 := hc3.size
  have ho3 := hc3.ones
  refine ⟨ov_mono hA4, hR _ _ _ ?_⟩; clear hR R
  iterate 2 (refine seqR_hide fun R hR => ?_; simp [go_sem, d21, d12, hz1, ho1, hz2, ho2, d32, d23, d31, d13, d43, d34, d42, d24, d41, d14, hz3, ho3]; refine hR _ _ _ ?_; clear hR R)
  refine seqR_hide fun R hR => ?_
  simp [go_sem, d21, d12, hz1, ho1, hz2, ho2, d32, d23, d31, d13, d43, d34, d42, d24, d41, d14, hz3, ho3]
  refine call_ov hP (res21 A4 (mapE.put1 vApi api) c3 vKind kind hc3 (put1_side vApi api vKind (by decide)).1 (put1_side vApi api vKind (by decide)).2) ?_
  clear hP
  rintro _ A5 ⟨c5, rfl, hc5, hA5⟩ hP
  have hz5 := hc5.size
  have ho5 := hc5.ones
  have hA35 := View.le_trans hA4 hA5
  refine hR _ _ _ ?_; clear hR R
  refine seqR_hide fun R hR => ?_
  simp [go_sem, d21, d12, hz1, ho1, hz2, ho2, d32, d23, d31, d13, d43, d34, d42, d24, d41, d14, hz3, ho3, hz5, ho5]
  refine hR _ _ _ ?_; clear hR R
  rw [seqR_nil]
  refine hK _ _ _ ?_; clear hK K
  refine hN4 _ _ _ ?_
  refine xc_two fun N5 hN5 => ?_
  rw [xc_draws]
  refine vdrawK [(0, true), (1, true), (2, true), (3, true), (4, true), (5, true), (6, true), (7, true), (8, false), (9, false)] (ov A5 [(q4, .cells c2 31 (0, 0)), (q3, .cells c5 31 (0, 0)), (q2, .cells (trc 0 0 ⟨#[]⟩ ⟨#[]⟩ ⟨#[]⟩ ⟨#[]⟩ ⟨#[]⟩ ⟨#[]⟩ 0 0 0 (.slice none 0 0)) 31 (0, 0)), (q1, .cells #[.string api, .string kind, .string name, .string ns, .slice none 0 0, .slice none 0 0] 35 (0, 0))]) mixed (by kernel_rfl) (View.le_refl _) fun K hK => ?_
  simp only [rslv_cons, rslv_nil, List.getElem?_toArray, List.getElem?_cons_zero, List.getElem?_cons_succ, gres]
  iterate 5 (refine seqR_hide fun R hR => ?_; simp [go_sem, d21, d12, hz1, ho1, hz2, ho2, d32, d23, d31, d13, d43, d34, d42, d24, d41, d14, hz3, ho3, hz5, ho5]; refine hR _ _ _ ?_; clear hR R)
  refine seqR_hide fun R hR => ?_
  simp [go_sem, d21, d12, hz1, ho1, hz2, ho2, d32, d23, d31, d13, d43, d34, d42, d24, d41, d14, hz3, ho3, hz5, ho5]
  refine call_ov hP (res21 A5 mapE c2 vName name (hc2.le hA35) (by rw [mapE_kids]; decide) rfl) ?_
  clear hP
  rintro _ A6 ⟨c6, rfl, hc6, hA6⟩ hP
  have hz6 := hc6.size
  have ho6 := hc6.ones
  refine ⟨ov_mono hA6, hR _ _ _ ?_⟩; clear hR R
  iterate 2 (refine seqR_hide fun R hR => ?_; simp [go_sem, d21, d12, hz1, ho1, hz2, ho2, d32, d23, d31, d13, d43, d34, d42, d24, d41, d14, hz3, ho3, hz5, ho5, hz6, ho6]; refine hR _ _ _ ?_; clear hR R)
  refine seqR_hide fun R hR => ?_
  simp [go_sem, d21, d12, hz1, ho1, hz2, ho2, d32, d23, d31, d13, d43, d34, d42, d24, d41, d14, hz3, ho3, hz5, ho5, hz6, ho6]
  refine call_ov hP (res21 A6 (mapE.put1 vName name) c6 vNs ns hc6 (put1_side vName name vNs (by decide)).1 (put1_side vName name vNs (by decide)).2) ?_
  clear hP
  rintro _ A7 ⟨c7, rfl, hc7, hA7⟩ hP
  have hz7 := hc7.size
  have ho7 := hc7.ones
  have hA57 := View.le_trans hA6 hA7
  refine hR _ _ _ ?_; clear hR R
  refine seqR_hide fun R hR => ?_
  simp [go_sem, d21, d12, hz1, ho1, hz2, ho2, d32, d23, d31, d13, d43, d34, d42, d24, d41, d14, hz3, ho3, hz5, ho5, hz6, ho6, hz7, ho7]
  refine hR _ _ _ ?_; clear hR R
  rw [seqR_nil]
  refine hK _ _ _ ?_; clear hK K
  refine hN5 _ _ _ ?_
  refine xc_two fun N6 hN6 => ?_
  refine xc_two fun N7 hN7 => ?_
  refine xc_reg1 4 rfl fun K hK => ?_
  simp only [show (List.range 4).map (·, true) = [(0, true), (1, true), (2, true), (3, true)] from rfl, rslv_cons, rslv_nil, List.getElem?_toArray, List.getElem?_cons_zero, List.getElem?_cons_succ, gres]
  iterate 4 (refine seqX_hide2 fun R hR => ?_; simp [go_sem, d21, d12, hz1, ho1, hz2, ho2, d32, d23, d31, d13, d43, d34, d42, d24, d41, d14, hz3, ho3, hz5, ho5, hz6, ho6, hz7, ho7]; refine hR _ _ _ ?_; clear hR R)
  rw [seqX_nil]
  refine hK _ _ _ ?_; clear hK K
  refine hN7 _ _ _ ?_
  refine xc_iffalse (by simp [go_sem, d21, d12, hz1, ho1, hz2, ho2, d32, d23, d31, d13, d43, d34, d42, d24, d41, d14, hz3, ho3, hz5, ho5, hz6, ho6, hz7, ho7]) ?_
  refine hN6 _ _ _ ?_
  refine xc_two fun N8 hN8 => ?_
  refine xc_two fun N9 hN9 => ?_
  refine xc_reg1 4 rfl fun K hK => ?_
  simp only [show (List.range 4).map (·, true) = [(0, true), (1, true), (2, true), (3, true)] from rfl, rslv_cons, rslv_nil, List.getElem?_toArray, List.getElem?_cons_zero, List.getElem?_cons_succ, gres]
  iterate 4 (refine seqX_hide2 fun R hR => ?_; simp [go_sem, d21, d12, hz1, ho1, hz2, ho2, d32, d23, d31, d13, d43, d34, d42, d24, d41, d14, hz3, ho3, hz5, ho5, hz6, ho6, hz7, ho7]; refine hR _ _ _ ?_; clear hR R)
  rw [seqX_nil]
  refine hK _ _ _ ?_; clear hK K
  refine hN9 _ _ _ ?_
  refine xc_iffalse (by simp [go_sem, d21, d12, hz1, ho1, hz2, ho2, d32, d23, d31, d13, d43, d34, d42, d24, d41, d14, hz3, ho3, hz5, ho5, hz6, ho6, hz7, ho7]) ?_
  refine hN8 _ _ _ ?_
  refine xc_two fun N10 hN10 => ?_
  refine xc_reg1 4 rfl fun K hK => ?_
  simp only [show (List.range 4).map (·, true) = [(0, true), (1, true), (2, true), (3, true)] from rfl, rslv_cons, rslv_nil, List.getElem?_toArray, List.getElem?_cons_zero, List.getElem?_cons_succ, gres]
  iterate 2 (refine seqX_hide2 fun R hR => ?_; simp [go_sem, d21, d12, hz1, ho1, hz2, ho2, d32, d23, d31, d13, d43, d34, d42, d24, d41, d14, hz3, ho3, hz5, ho5, hz6, ho6, hz7, ho7]; refine hR _ _ _ ?_; clear hR R)
  refine seqX_hide2 fun R hR => ?_
  simp [go_sem, d21, d12, hz1, ho1, hz2, ho2, d32, d23, d31, d13, d43, d34, d42, d24, d41, d14, hz3, ho3, hz5, ho5, hz6, ho6, hz7, ho7]
  refine call_ov hP (fieldSet22 A7 ((mapE.put1 vApi api).put1 vKind kind) _ c5 c7 vMeta (hc5.le hA57) hc7 (put1_side2 _ _).1 (put1_side2 _ _).2) ?_
  clear hP
  rintro _ A8 ⟨c8, rfl, hc8, hA8⟩ hP
  have hz8 := hc8.size
  have ho8 := hc8.ones
  have hA := View.le_trans hA2 (View.le_trans hA3 (View.le_trans hA35 (View.le_trans hA57 hA8)))
  refine hR _ _ _ ?_; clear hR R
  refine seqX_hide2 fun R hR => ?_
  simp [go_sem, d21, d12, hz1, ho1, hz2, ho2, d32, d23, d31, d13, d43, d34, d42, d24, d41, d14, hz3, ho3, hz5, ho5, hz6, ho6, hz7, ho7, hz8, ho8]
  refine hR _ _ _ ?_; clear hR R
  rw [seqX_nil]
  refine hK _ _ _ ?_; clear hK K
  refine hN10 _ _ _ ?_
  simp [go_sem, d21, d12, hz1, ho1, hz2, ho2, d32, d23, d31, d13, d43, d34, d42, d24, d41, d14, hz3, ho3, hz5, ho5, hz6, ho6, hz7, ho7, hz8, ho8]
  refine ⟨hc8.le ?_, View.le_trans hA ?_⟩
  · exact le_ov hP
  · exact le_ov hP
end Go.Proofs.YthjbgpmcfcijgaaV

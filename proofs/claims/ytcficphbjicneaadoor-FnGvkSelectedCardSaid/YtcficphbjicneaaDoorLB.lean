/- Groups, versions and kinds: what is selected. -/
import Derived.Test.YtcficphbjicneaaDoorLA
namespace Go.Proofs.YtcficphbjicneaaDoorV
open Go.RowKit
def pass (x y : ByteArray) : Bool := y.toList.isEmpty || (x.toList == y.toList)
def sel (a0 a1 a2 b0 b1 b2 : ByteArray) : Bool := pass a0 b0 && (pass a1 b1 && pass a2 b2)
abbrev idv (a b c d f : ByteArray) : Value := .agg #[.string a, .string b, .string c, .string d, .string f]
abbrev gvv (a b c : ByteArray) (q : Bool) : Value := .agg #[.string a, .string b, .string c, .bool q]
theorem fits5 (A : View) (a b c d f : ByteArray) : VCalls Tryd.prog 5 #[idv a b c d f] A fun r A' => (∃ q, r = .bool q ∧ (q = true → a.size ≤ 2147483647 ∧ b.size ≤ 2147483647 ∧ c.size ≤ 2147483647 ∧ d.size ≤ 2147483647 ∧ f.size ≤ 2147483647)) ∧ A ≤ A' := by
  refine xcalls Tryd.func5 rfl (by simp [Tryd.ntmps5]) ?_
  simp [go_sem, Tryd.f5, xnew, Value.cells]
  intro m hm
  have hA := set_at A m (.cells #[.string a, .string b, .string c, .string d, .string f] 23)
  have d0 := cell_of hA (i := 0) rfl
  have d1 := cell_of hA (i := 1) rfl
  have d2 := cell_of hA (i := 2) rfl
  have d3 := cell_of hA (i := 3) rfl
  have d4 := cell_of hA (i := 4) rfl
  have hle : A ≤ A.set m (.cells #[.string a, .string b, .string c, .string d, .string f] 23) := le_set hm
  generalize A.set m (.cells #[.string a, .string b, .string c, .string d, .string f] 23) = A1 at *
  by_cases h0 : (2147483647 : Int) < a.size
  · simp [go_sem, xfieldAt, vload, d0, xlen, xbin, eqPlain, h0]; exact hle
  by_cases h1 : (2147483647 : Int) < b.size
  · simp [go_sem, xfieldAt, vload, d0, d1, xlen, xbin, eqPlain, h0, h1]; exact hle
  by_cases h2 : (2147483647 : Int) < c.size
  · simp [go_sem, xfieldAt, vload, d0, d1, d2, xlen, xbin, eqPlain, h0, h1, h2]; exact hle
  by_cases h3 : (2147483647 : Int) < d.size
  · simp [go_sem, xfieldAt, vload, d0, d1, d2, d3, xlen, xbin, eqPlain, h0, h1, h2, h3]; exact hle
  by_cases h4 : (2147483647 : Int) < f.size
  · simp [go_sem, xfieldAt, vload, d0, d1, d2, d3, d4, xlen, xbin, eqPlain, h0, h1, h2, h3, h4]; exact hle
  · simp [go_sem, xfieldAt, vload, d0, d1, d2, d3, d4, xlen, xbin, eqPlain, h0, h1, h2, h3, h4]; exact ⟨by omega, hle⟩
theorem gvk15 (A : View) (a b c d f : ByteArray) : VCalls Tryd.prog 15 #[idv a b c d f] A fun r A' => r = gvv a b c false ∧ A ≤ A' := by
  refine xcalls Tryd.func15 rfl (by simp [Tryd.ntmps15]) ?_
  simp [go_sem, Tryd.f15, xnew, Value.cells, zeroOf]
  intro m hm m2 hm2
  have hA : ((A.set m (.cells #[.string a, .string b, .string c, .string d, .string f] 23)).set m2 (.cells #[.string ⟨#[]⟩, .string ⟨#[]⟩, .string ⟨#[]⟩, .bool false] 41)) m = some (.cells #[.string a, .string b, .string c, .string d, .string f] 23) := by
    rw [set_other (fun hx => by rw [← hx, set_at] at hm2; cases hm2), set_at]
  have hA2 := set_at (A.set m (.cells #[.string a, .string b, .string c, .string d, .string f] 23)) m2 (.cells #[.string ⟨#[]⟩, .string ⟨#[]⟩, .string ⟨#[]⟩, .bool false] 41)
  have d0 := cell_of hA (i := 0) rfl
  have d1 := cell_of hA (i := 1) rfl
  have d2 := cell_of hA (i := 2) rfl
  have hle : A ≤ (A.set m (.cells #[.string a, .string b, .string c, .string d, .string f] 23)).set m2 (.cells #[.string ⟨#[]⟩, .string ⟨#[]⟩, .string ⟨#[]⟩, .bool false] 41) := View.le_trans (le_set hm) (le_set hm2)
  have hn2 : A m2 = none := by rw [set_other (fun hx => by rw [hx, set_at] at hm2; cases hm2)] at hm2; exact hm2
  have hst := xstore_agg (P := Tryd.prog) (vs := #[.string a, .string b, .string c, .bool false]) ti41 rfl hA2 rfl (by simp [one])
  generalize (A.set m (.cells #[.string a, .string b, .string c, .string d, .string f] 23)).set m2 (.cells #[.string ⟨#[]⟩, .string ⟨#[]⟩, .string ⟨#[]⟩, .bool false] 41) = A1 at *
  have hb := cells_block (set_at A1 m2 (.cells #[.string a, .string b, .string c, .bool false] 41)) (n := 4) rfl
  simp [go_sem, xfieldAt, vload, d0, d1, d2, xbuild, Instr.fill, Value.cells, hst, hb]
  exact le_set' hle hn2
set_option maxHeartbeats 2000000 in
theorem eq17 (A : View) (a b c a' b' c' : ByteArray) (q q' : Bool) : VCalls Tryd.prog 17 #[gvv a b c q, gvv a' b' c' q'] A fun r A' => (∃ x, r = .bool x) ∧ A ≤ A' := by
  refine xcalls Tryd.func17 rfl (by simp [Tryd.ntmps17]) ?_
  simp only [Tryd.f17]
  refine xc_step fun C hC => ?_
  simp [go_sem, xnew, Value.cells]
  intro m hm m2 hm2
  subst hC
  have hA : ((A.set m (.cells #[.string a, .string b, .string c, .bool q] 41)).set m2 (.cells #[.string a', .string b', .string c', .bool q'] 41)) m = some (.cells #[.string a, .string b, .string c, .bool q] 41) := by
    rw [set_other (fun hx => by rw [← hx, set_at] at hm2; cases hm2), set_at]
  have hA2 := set_at (A.set m (.cells #[.string a, .string b, .string c, .bool q] 41)) m2 (.cells #[.string a', .string b', .string c', .bool q'] 41)
  have hle : A ≤ (A.set m (.cells #[.string a, .string b, .string c, .bool q] 41)).set m2 (.cells #[.string a', .string b', .string c', .bool q'] 41) := View.le_trans (le_set hm) (le_set hm2)
  generalize (A.set m (.cells #[.string a, .string b, .string c, .bool q] 41)).set m2 (.cells #[.string a', .string b', .string c', .bool q'] 41) = A1 at *
  have d0 := cell_of hA (i := 0) rfl
  have d1 := cell_of hA (i := 1) rfl
  have d2 := cell_of hA (i := 2) rfl
  have f0 := cell_of hA2 (i := 0) rfl
  have f1 := cell_of hA2 (i := 1) rfl
  have f2 := cell_of hA2 (i := 2) rfl
  refine xc_reg 20 rfl fun K hK => ?_
  simp only [show (List.range 20).map (·, true) = [(0, true), (1, true), (2, true), (3, true), (4, true), (5, true), (6, true), (7, true), (8, true), (9, true), (10, true), (11, true), (12, true), (13, true), (14, true), (15, true), (16, true), (17, true), (18, true), (19, true)] from rfl, rslv_cons, rslv_nil, List.getElem?_toArray, List.getElem?_cons_zero, List.getElem?_cons_succ, gres]
  cases h0 : (a.toList == a'.toList) with
  | false => (repeat (refine seqX_hide fun R hR => ?_; simp [go_sem, xfieldAt, vload, d0, f0, d1, f1, d2, f2, xbin, eqPlain, wantR, h0]; subst hR)); rw [seqX_nil]; refine hK _ _ _ ?_; simp [go_sem]; exact hle
  | true =>
    cases h1 : (b.toList == b'.toList) with
    | false => (repeat (refine seqX_hide fun R hR => ?_; simp [go_sem, xfieldAt, vload, d0, f0, d1, f1, d2, f2, xbin, eqPlain, wantR, h0, h1]; subst hR)); rw [seqX_nil]; refine hK _ _ _ ?_; simp [go_sem]; exact hle
    | true => (repeat (refine seqX_hide fun R hR => ?_; simp [go_sem, xfieldAt, vload, d0, f0, d1, f1, d2, f2, xbin, eqPlain, wantR, h0, h1]; subst hR)); rw [seqX_nil]; refine hK _ _ _ ?_; simp [go_sem]; exact ⟨(Classical.em _).symm, hle⟩
set_option maxHeartbeats 2000000 in
/-- What is selected. -/
theorem sel18 (A : View) (a b c a' b' c' : ByteArray) (q q' : Bool) (m : Nat) (hA2 : A m = some (.cells #[.string a', .string b', .string c', .bool q'] 41)) :
    VCalls Tryd.prog 18 #[gvv a b c q, .pointer (some ⟨m, 0, none⟩)] A fun r A' => r = .bool (sel a b c a' b' c') ∧ A ≤ A' := by
  refine xcalls Tryd.func18 rfl (by simp [Tryd.ntmps18]) ?_
  simp only [Tryd.f18]
  refine xc_step fun C hC => ?_
  simp [go_sem, xnew, Value.cells]
  intro n hn
  subst hC
  have hmn : m ≠ n := fun hx => by rw [← hx, hA2] at hn; cases hn
  have hA := set_at A n (.cells #[.string a, .string b, .string c, .bool q] 41)
  have hB : (A.set n (.cells #[.string a, .string b, .string c, .bool q] 41)) m = some (.cells #[.string a', .string b', .string c', .bool q'] 41) := by rw [set_other hmn]; exact hA2
  have hle : A ≤ A.set n (.cells #[.string a, .string b, .string c, .bool q] 41) := le_set hn
  generalize A.set n (.cells #[.string a, .string b, .string c, .bool q] 41) = A1 at *
  have d0 := cell_of hA (i := 0) rfl
  have d1 := cell_of hA (i := 1) rfl
  have d2 := cell_of hA (i := 2) rfl
  have f0 := cell_of hB (i := 0) rfl
  have f1 := cell_of hB (i := 1) rfl
  have f2 := cell_of hB (i := 2) rfl
  have em : ∀ s : ByteArray, s.toList.isEmpty = true → ¬ 0 < s.size := by
    intro s hs
    rw [ByteArray.toList_eq] at hs
    have : s.data.toList.length = s.size := by rw [Array.length_toList]; rfl
    have h2 : s.data.toList = [] := by simpa using hs
    rw [h2] at this
    simp at this
    omega
  have ne : ∀ s : ByteArray, s.toList.isEmpty = false → 0 < s.size := by
    intro s hs
    rw [ByteArray.toList_eq] at hs
    have : s.data.toList.length = s.size := by rw [Array.length_toList]; rfl
    have h2 : s.data.toList ≠ [] := by simpa using hs
    have := List.length_pos_iff.2 h2
    omega
  refine xc_step fun C hC => ?_
  simp [go_sem, xbin, eqPlain]
  subst hC
  refine xc_step fun C hC => ?_
  have tail : pass a a' = true → ∀ e' : Env, e' 1 = .pointer (some ⟨m, 0, none⟩) → e' 2 = .pointer (some ⟨n, 0, none⟩) → xc Tryd.prog 46 C (xend Tryd.prog 46 [ResultVar.tmp 4] fun r A' => r = .bool (sel a b c a' b' c') ∧ A ≤ A') e' [] A1 := by
    intro p0 e' g1 g2
    subst hC
    refine xc_step fun C hC => ?_
    have tail : pass b b' = true → ∀ e' : Env, e' 1 = .pointer (some ⟨m, 0, none⟩) → e' 2 = .pointer (some ⟨n, 0, none⟩) → xc Tryd.prog 46 C (xend Tryd.prog 46 [ResultVar.tmp 4] fun r A' => r = .bool (sel a b c a' b' c') ∧ A ≤ A') e' [] A1 := by
      intro p1 e' g1 g2
      subst hC
      refine xc_step fun C hC => ?_
      have tail : pass c c' = true → ∀ e' : Env, e' 1 = .pointer (some ⟨m, 0, none⟩) → e' 2 = .pointer (some ⟨n, 0, none⟩) → xc Tryd.prog 46 C (xend Tryd.prog 46 [ResultVar.tmp 4] fun r A' => r = .bool (sel a b c a' b' c') ∧ A ≤ A') e' [] A1 := by
        intro p2 e' g1 g2
        subst hC
        simp [go_sem, sel, p0, p1, p2]
        exact hle
      clear hC
      cases h0 : c'.toList.isEmpty with
      | true =>
        have hz := em _ h0
        simp [go_sem, g1, g2, xnil, xfieldAt, vload, f2, xlen, xbin, eqPlain, hz]
        exact tail (by simp [pass, h0]) _ (by simp [go_sem, g1, g2]) (by simp [go_sem, g1, g2])
      | false =>
        have hz := ne _ h0
        simp [go_sem, g1, g2, xnil, xfieldAt, vload, f2, xlen, xbin, eqPlain, hz]
        refine vdrawK [(0, true), (1, true), (2, true), (3, true), (4, true), (5, true), (6, true)] A1 mixed (by kernel_rfl) (View.le_refl _) fun K hK => ?_
        simp only [rslv_cons, rslv_nil, List.getElem?_toArray, List.getElem?_cons_zero, List.getElem?_cons_succ, gres]
        cases h1 : (c.toList == c'.toList) with
        | true =>
          simp [go_sem, g1, g2, xnil, xfieldAt, vload, d2, f2, xbin, eqPlain, h1]
          refine hK _ _ _ ?_
          simp [go_sem]
          exact tail (by simp [pass, h1]) _ (by simp [go_sem, g1, g2]) (by simp [go_sem, g1, g2])
        | false =>
          have hp : pass c c' = false := by simp only [pass, h0, h1, Bool.or_self]
          simp [go_sem, g1, g2, xnil, xfieldAt, vload, d2, f2, xbin, eqPlain, h1]
          refine hK _ _ _ ?_
          simp [go_sem, sel, hp]
          exact hle
    clear hC
    cases h0 : b'.toList.isEmpty with
    | true =>
      have hz := em _ h0
      simp [go_sem, g1, g2, xnil, xfieldAt, vload, f1, xlen, xbin, eqPlain, hz]
      exact tail (by simp [pass, h0]) _ (by simp [go_sem, g1, g2]) (by simp [go_sem, g1, g2])
    | false =>
      have hz := ne _ h0
      simp [go_sem, g1, g2, xnil, xfieldAt, vload, f1, xlen, xbin, eqPlain, hz]
      refine vdrawK [(0, true), (1, true), (2, true), (3, true), (4, true), (5, true), (6, true)] A1 mixed (by kernel_rfl) (View.le_refl _) fun K hK => ?_
      simp only [rslv_cons, rslv_nil, List.getElem?_toArray, List.getElem?_cons_zero, List.getElem?_cons_succ, gres]
      cases h1 : (b.toList == b'.toList) with
      | true =>
        simp [go_sem, g1, g2, xnil, xfieldAt, vload, d1, f1, xbin, eqPlain, h1]
        refine hK _ _ _ ?_
        simp [go_sem]
        exact tail (by simp [pass, h1]) _ (by simp [go_sem, g1, g2]) (by simp [go_sem, g1, g2])
      | false =>
        have hp : pass b b' = false := by simp only [pass, h0, h1, Bool.or_self]
        simp [go_sem, g1, g2, xnil, xfieldAt, vload, d1, f1, xbin, eqPlain, h1]
        refine hK _ _ _ ?_
        simp [go_sem, sel, hp]
        exact hle
  clear hC
  cases h0 : a'.toList.isEmpty with
  | true =>
    have hz := em _ h0
    simp [go_sem, xnil, xfieldAt, vload, f0, xlen, xbin, eqPlain, hz]
    exact tail (by simp [pass, h0]) _ (by simp [go_sem]) (by simp [go_sem])
  | false =>
    have hz := ne _ h0
    simp [go_sem, xnil, xfieldAt, vload, f0, xlen, xbin, eqPlain, hz]
    refine vdrawK [(0, true), (1, true), (2, true), (3, true), (4, true), (5, true), (6, true)] A1 mixed (by kernel_rfl) (View.le_refl _) fun K hK => ?_
    simp only [rslv_cons, rslv_nil, List.getElem?_toArray, List.getElem?_cons_zero, List.getElem?_cons_succ, gres]
    cases h1 : (a.toList == a'.toList) with
    | true =>
      simp [go_sem, xnil, xfieldAt, vload, d0, f0, xbin, eqPlain, h1]
      refine hK _ _ _ ?_
      simp [go_sem]
      exact tail (by simp [pass, h1]) _ (by simp [go_sem]) (by simp [go_sem])
    | false =>
      have hp : pass a a' = false := by simp only [pass, h0, h1, Bool.or_self]
      simp [go_sem, xnil, xfieldAt, vload, d0, f0, xbin, eqPlain, h1]
      refine hK _ _ _ ?_
      simp [go_sem, sel, hp]
      exact hle
end Go.Proofs.YtcficphbjicneaaDoorV

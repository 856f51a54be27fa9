/- Groups, versions and kinds: the three answers; what the reference says; the law. -/
import Derived.Test.YtcficphbjicneaaDoorLD
import Derived.Test.YtcficphbjicneaaDoorV7
namespace Go.Proofs.YtcficphbjicneaaDoorV
open Go.RowKit
theorem two_blocks {A : View} {m m2 : Nat} {c d : Array Value} {e1 e2 : TypeId} (hm2 : (A.set m (.cells c e1)) m2 = none) :
    m ≠ m2 ∧ A m2 = none ∧ ((A.set m (.cells c e1)).set m2 (.cells d e2)) m = some (.cells c e1 (0, 0)) ∧ ((A.set m (.cells c e1)).set m2 (.cells d e2)) m2 = some (.cells d e2 (0, 0)) := by
  have d12 : m ≠ m2 := fun hx => by rw [← hx, set_at] at hm2; cases hm2
  exact ⟨d12, by rw [set_other d12.symm] at hm2; exact hm2, by rw [set_other d12, set_at], set_at _ _ _⟩
set_option maxHeartbeats 4000000 in
theorem less7 (A : View) (G : GV A) (a b c d f a' b' c' d' f' : ByteArray) (ha : a.size ≤ 1000) (hb : b.size ≤ 1000) (hc : c.size ≤ 1000) (ha' : a'.size ≤ 1000) (hb' : b'.size ≤ 1000) (hc' : c'.size ≤ 1000) :
    VCalls Tryd.prog 7 #[idv a b c d f, idv a' b' c' d' f'] A fun r A' => (∃ x y, r = .tuple #[.bool x, .bool y, .bool (sel a b c a' b' c')]) ∧ A ≤ A' := by
  refine xcalls Tryd.func7 rfl (by simp [Tryd.ntmps7]) ?_
  simp only [Tryd.f7]
  refine xc_step fun C hC => ?_
  simp [go_sem, xnew, Value.cells]
  intro m hm m2 hm2
  subst hC
  obtain ⟨d12, hn2, hA, hA2⟩ := two_blocks (d := idc a' b' c' d' f') (e2 := 23) hm2
  have hle : A ≤ (A.set m (.cells (idc a b c d f) 23)).set m2 (.cells (idc a' b' c' d' f') 23) := View.le_trans (le_set hm) (le_set hm2)
  generalize (A.set m (.cells (idc a b c d f) 23)).set m2 (.cells (idc a' b' c' d' f') 23) = A1 at *
  have s1 := cells_block hA (n := 5) rfl
  have s2 := cells_block hA2 (n := 5) rfl
  refine xc_step fun C hC => ?_
  rw [xc_seq, xc_draws]
  refine vdrawK [(0, true), (1, true), (2, true), (3, true), (4, true), (5, true), (6, true), (7, true)] A1 mixed (by kernel_rfl) (View.le_refl _) fun K hK => ?_
  simp only [rslv_cons, rslv_nil, List.getElem?_toArray, List.getElem?_cons_zero, List.getElem?_cons_succ, gres]
  simp [go_sem, vload, s1, s2]
  refine (gvk15 A1 a b c d f).mono ?_
  rintro _ B1 ⟨rfl, l1⟩
  refine ⟨l1, ?_⟩
  refine (gvk15 B1 a' b' c' d' f').mono ?_
  rintro _ B2 ⟨rfl, l2⟩
  have l3 := View.le_trans l1 l2
  refine ⟨l3, ?_⟩
  clear l1 l2
  simp [go_sem, xnew, Value.cells, zeroOf]
  intro m3 hm3 m4 hm4
  obtain ⟨d34, hn4, hB3, hB4⟩ := two_blocks (d := #[Value.string ⟨#[]⟩, .string ⟨#[]⟩, .string ⟨#[]⟩, .bool false]) (e2 := 41) hm4
  have l4 : B2 ≤ (B2.set m3 (.cells #[Value.string ⟨#[]⟩, .string ⟨#[]⟩, .string ⟨#[]⟩, .bool false] 41)).set m4 (.cells #[Value.string ⟨#[]⟩, .string ⟨#[]⟩, .string ⟨#[]⟩, .bool false] 41) := View.le_trans (le_set hm3) (le_set hm4)
  generalize (B2.set m3 (.cells #[Value.string ⟨#[]⟩, .string ⟨#[]⟩, .string ⟨#[]⟩, .bool false] 41)).set m4 (.cells #[Value.string ⟨#[]⟩, .string ⟨#[]⟩, .string ⟨#[]⟩, .bool false] 41) = B3 at *
  have hs3 := xstore_agg (P := Tryd.prog) (vs := #[.string a, .string b, .string c, .bool false]) ti41 rfl hB3 rfl (by simp [one])
  have hB4' : (B3.set m3 (.cells #[.string a, .string b, .string c, .bool false] 41)) m4 = some (.cells #[Value.string ⟨#[]⟩, .string ⟨#[]⟩, .string ⟨#[]⟩, .bool false] 41 (0, 0)) := by rw [set_other d34.symm]; exact hB4
  have hs4 := xstore_agg (P := Tryd.prog) (vs := #[.string a', .string b', .string c', .bool false]) ti41 rfl hB4' rfl (by simp [one])
  have e3 : ((B3.set m3 (.cells #[.string a, .string b, .string c, .bool false] 41)).set m4 (.cells #[.string a', .string b', .string c', .bool false] 41)) m3 = some (.cells #[.string a, .string b, .string c, .bool false] 41 (0, 0)) := by rw [set_other d34, set_at]
  have e4 := set_at (B3.set m3 (.cells #[.string a, .string b, .string c, .bool false] 41)) m4 (.cells #[.string a', .string b', .string c', .bool false] 41)
  have l5 : B2 ≤ B3.set m3 (.cells #[.string a, .string b, .string c, .bool false] 41) := le_set' l4 hm3
  have l6 : B2 ≤ (B3.set m3 (.cells #[.string a, .string b, .string c, .bool false] 41)).set m4 (.cells #[.string a', .string b', .string c', .bool false] 41) := le_set' l5 hn4
  simp [hs3, onS_some]
  refine ⟨View.le_trans l3 l5, ?_⟩
  simp [hs4, onS_some, go_sem]
  refine ⟨View.le_trans l3 l6, hK _ _ _ ?_⟩
  clear hK hs3 hs4 hB4' l5
  generalize (B3.set m3 (.cells #[.string a, .string b, .string c, .bool false] 41)).set m4 (.cells #[.string a', .string b', .string c', .bool false] 41) = B5 at *
  simp only [thenQ_normal]
  subst hC
  have G5 : GV B5 := G.le (View.le_trans hle (View.le_trans l3 l6))
  have t1 := cells_block e3 (n := 4) rfl
  have t2 := cells_block e4 (n := 4) rfl
  first | rw [xc_seq, xc_draws] | rw [xc_draws]
  refine vdrawK [(0, true), (1, true), (2, true), (3, true), (4, true), (5, true), (6, true), (7, true), (8, true), (9, true), (10, true)] B5 mixed (by kernel_rfl) (View.le_refl _) fun K hK => ?_
  simp only [rslv_cons, rslv_nil, List.getElem?_toArray, List.getElem?_cons_zero, List.getElem?_cons_succ, gres]
  simp [go_sem, vload, t1, t2]
  refine (less16 B5 a b c a' b' c' false false G5 ha hb hc ha' hb' hc').mono ?_
  rintro _ B6 ⟨⟨x, rfl⟩, l7⟩
  refine ⟨l7, ?_⟩
  refine (eq17 B6 a b c a' b' c' false false).mono ?_
  rintro _ B7 ⟨⟨y, rfl⟩, l8⟩
  refine ⟨View.le_trans l7 l8, ?_⟩
  refine (sel18 B7 a b c a' b' c' false false m4 (l8 _ _ (l7 _ _ e4))).mono ?_
  rintro _ B8 ⟨rfl, l9⟩
  refine ⟨View.le_trans l7 (View.le_trans l8 l9), ?_⟩
  refine hK _ _ _ ?_
  simp [go_sem]
  exact ⟨by cases x <;> cases y <;> simp, View.le_trans hle (View.le_trans l3 (View.le_trans l6 (View.le_trans l7 (View.le_trans l8 l9))))⟩
theorem isEmpty_nil : (ByteArray.mk #[]).toList.isEmpty = true := by rw [ByteArray.toList_eq]; rfl
theorem pass_nil (x : ByteArray) : pass x ⟨#[]⟩ = true := by unfold pass; rw [isEmpty_nil]; rfl
set_option maxHeartbeats 4000000 in
theorem ky8 (A : View) (a b c d f a' b' c' d' f' : ByteArray) : VCalls Tryd.prog 8 #[idv a b c d f, idv a' b' c' d' f'] A fun r A' => r = .bool (sel a b c a' b' c') ∧ A ≤ A' := by
  refine xcalls Tryd.func8 rfl (by simp [Tryd.ntmps8]) ?_
  simp only [Tryd.f8]
  refine xc_step fun C hC => ?_
  simp [go_sem, xnew, Value.cells]
  intro m hm m2 hm2
  subst hC
  obtain ⟨d12, hn2, hA, hA2⟩ := two_blocks (d := idc a' b' c' d' f') (e2 := 23) hm2
  have hle : A ≤ (A.set m (.cells (idc a b c d f) 23)).set m2 (.cells (idc a' b' c' d' f') 23) := View.le_trans (le_set hm) (le_set hm2)
  generalize (A.set m (.cells (idc a b c d f) 23)).set m2 (.cells (idc a' b' c' d' f') 23) = A1 at *
  have d0 := cell_of hA (i := 0) rfl
  have d1 := cell_of hA (i := 1) rfl
  have d2 := cell_of hA (i := 2) rfl
  have f0 := cell_of hA2 (i := 0) rfl
  have f1 := cell_of hA2 (i := 1) rfl
  have f2 := cell_of hA2 (i := 2) rfl
  have c0 : (a'.toList == a.toList) = (a.toList == a'.toList) := BEq.comm
  have c1 : (b'.toList == b.toList) = (b.toList == b'.toList) := BEq.comm
  have c2 : (c'.toList == c.toList) = (c.toList == c'.toList) := BEq.comm
  refine xc_reg 35 rfl fun K hK => ?_
  have fin : ∀ (e' : Env) (q : Bool), e' 4 = .bool q → q = sel a b c a' b' c' → K e' [] A1 := by
    intro e' q g4 hq
    refine hK _ _ _ ?_
    simp [go_sem, g4, hq]
    exact hle
  clear hK
  refine seqX_parts [(0, true), (1, true), (2, true), (3, true), (4, true), (5, true), (6, true), (7, true), (8, true), (9, true)] [(10, true), (11, true), (12, true), (13, true), (14, true), (15, true), (16, true), (17, true), (18, true), (19, true), (20, true), (21, true), (22, true), (23, true), (24, true), (25, true), (26, true), (27, true), (28, true), (29, true), (30, true), (31, true), (32, true), (33, true), (34, true)] rfl fun K1 hK1 => ?_
  have part2 : ∀ e' : Env, e' 2 = .pointer (some ⟨m, 0, none⟩) → e' 3 = .pointer (some ⟨m2, 0, none⟩) → e' 14 = .bool true → pass a a' = true → K1 e' [] A1 := by
    intro e' g2 g3 g14 p0
    refine hK1 _ _ _ ?_
    clear hK1
    refine seqX_parts [(10, true), (11, true), (12, true), (13, true), (14, true), (15, true), (16, true), (17, true), (18, true), (19, true), (20, true), (21, true)] [(22, true), (23, true), (24, true), (25, true), (26, true), (27, true), (28, true), (29, true), (30, true), (31, true), (32, true), (33, true), (34, true)] rfl fun K1 hK1 => ?_
    have part3 : ∀ e' : Env, e' 2 = .pointer (some ⟨m, 0, none⟩) → e' 3 = .pointer (some ⟨m2, 0, none⟩) → e' 26 = .bool true → pass b b' = true → K1 e' [] A1 := by
      clear g2 g3 g14
      intro e' g2 g3 g26 p1
      refine hK1 _ _ _ ?_
      clear hK1
      simp only [rslv_cons, rslv_nil, List.getElem?_toArray, List.getElem?_cons_zero, List.getElem?_cons_succ, gres]
      cases k1 : c'.toList.isEmpty with
      | true =>
        (repeat (refine seqX_hide fun R hR => ?_; simp [go_sem, xfieldAt, vload, d0, f0, d1, f1, d2, f2, xbin, eqPlain, wantR, undef, g2, g3, g26, k1]; subst hR)); rw [seqX_nil]
        exact fin _ true (by simp [go_sem]) (by unfold sel; rw [p0, p1, show pass c c' = true by simp only [pass, k1]; rfl]; rfl)
      | false =>
        cases k2 : (c.toList == c'.toList) with
        | true =>
          rw [k2] at c2
          (repeat (refine seqX_hide fun R hR => ?_; simp [go_sem, xfieldAt, vload, d0, f0, d1, f1, d2, f2, xbin, eqPlain, wantR, undef, g2, g3, g26, k1, c2]; subst hR)); rw [seqX_nil]
          exact fin _ true (by simp [go_sem]) (by unfold sel; rw [p0, p1, show pass c c' = true by simp only [pass, k1, k2]; rfl]; rfl)
        | false =>
          rw [k2] at c2
          (repeat (refine seqX_hide fun R hR => ?_; simp [go_sem, xfieldAt, vload, d0, f0, d1, f1, d2, f2, xbin, eqPlain, wantR, undef, g2, g3, g26, k1, c2]; subst hR)); rw [seqX_nil]
          exact fin _ false (by simp [go_sem]) (by unfold sel; rw [p0, p1, show pass c c' = false by simp only [pass, k1, k2]; rfl]; rfl)
    simp only [rslv_cons, rslv_nil, List.getElem?_toArray, List.getElem?_cons_zero, List.getElem?_cons_succ, gres]
    cases k1 : b'.toList.isEmpty with
    | true =>
      (repeat (refine seqX_hide fun R hR => ?_; simp [go_sem, xfieldAt, vload, d0, f0, d1, f1, d2, f2, xbin, eqPlain, wantR, undef, g2, g3, g14, k1]; subst hR)); rw [seqX_nil]
      exact part3 _ (by simp [go_sem, g2]) (by simp [go_sem, g3]) (by simp [go_sem]) (by simp [pass, k1])
    | false =>
      cases k2 : (b.toList == b'.toList) with
      | true =>
        rw [k2] at c1
        (repeat (refine seqX_hide fun R hR => ?_; simp [go_sem, xfieldAt, vload, d0, f0, d1, f1, d2, f2, xbin, eqPlain, wantR, undef, g2, g3, g14, k1, c1]; subst hR)); rw [seqX_nil]
        exact part3 _ (by simp [go_sem, g2]) (by simp [go_sem, g3]) (by simp [go_sem]) (by simp only [pass, k1, k2]; rfl)
      | false =>
        rw [k2] at c1
        (repeat (refine seqX_hide fun R hR => ?_; simp [go_sem, xfieldAt, vload, d0, f0, d1, f1, d2, f2, xbin, eqPlain, wantR, undef, g2, g3, g14, k1, c1]; subst hR)); rw [seqX_nil]
        refine hK1 _ _ _ ?_
        simp only [rslv_cons, rslv_nil, List.getElem?_toArray, List.getElem?_cons_zero, List.getElem?_cons_succ, gres]
        (repeat (refine seqX_hide fun R hR => ?_; simp [go_sem, xfieldAt, vload, d0, f0, d1, f1, d2, f2, xbin, eqPlain, wantR, undef, g2, g3, g14]; subst hR)); rw [seqX_nil]
        exact fin _ false (by simp [go_sem]) (by unfold sel; rw [p0, show pass b b' = false by simp only [pass, k1, k2]; rfl]; rfl)
  simp only [rslv_cons, rslv_nil, List.getElem?_toArray, List.getElem?_cons_zero, List.getElem?_cons_succ, gres]
  cases k1 : a'.toList.isEmpty with
  | true =>
    (repeat (refine seqX_hide fun R hR => ?_; simp [go_sem, xfieldAt, vload, d0, f0, d1, f1, d2, f2, xbin, eqPlain, wantR, undef, k1]; subst hR)); rw [seqX_nil]
    exact part2 _ (by simp [go_sem]) (by simp [go_sem]) (by simp [go_sem]) (by simp [pass, k1])
  | false =>
    cases k2 : (a.toList == a'.toList) with
    | true =>
      rw [k2] at c0
      (repeat (refine seqX_hide fun R hR => ?_; simp [go_sem, xfieldAt, vload, d0, f0, d1, f1, d2, f2, xbin, eqPlain, wantR, undef, k1, c0]; subst hR)); rw [seqX_nil]
      exact part2 _ (by simp [go_sem]) (by simp [go_sem]) (by simp [go_sem]) (by simp only [pass, k1, k2]; rfl)
    | false =>
      rw [k2] at c0
      (repeat (refine seqX_hide fun R hR => ?_; simp [go_sem, xfieldAt, vload, d0, f0, d1, f1, d2, f2, xbin, eqPlain, wantR, undef, k1, c0]; subst hR)); rw [seqX_nil]
      refine hK1 _ _ _ ?_
      simp only [rslv_cons, rslv_nil, List.getElem?_toArray, List.getElem?_cons_zero, List.getElem?_cons_succ, gres]
      (repeat (refine seqX_hide fun R hR => ?_; simp [go_sem, xfieldAt, vload, d0, f0, d1, f1, d2, f2, xbin, eqPlain, wantR, undef]; subst hR)); rw [seqX_nil]
      exact fin _ false (by simp [go_sem]) (by simp only [sel, pass, k1, k2]; rfl)
/-- The law's two ids. -/
structure S2 (A A' : View) (m m2 : Nat) (a b c d f g v k n p : ByteArray) : Prop where
  h1 : A' m = some (.cells (idc a b c d f) 23 (0, 0))
  h2 : A' m2 = some (.cells (idc g v k n p) 23 (0, 0))
  le : A ≤ A'
  n1 : A m = none
  n2 : A m2 = none
  d : m ≠ m2
theorem S2.mono {A A' B : View} {m m2 : Nat} {a b c d f g v k n p : ByteArray} (s : S2 A A' m m2 a b c d f g v k n p) (h : A' ≤ B) : S2 A B m m2 a b c d f g v k n p :=
  ⟨h _ _ s.h1, h _ _ s.h2, View.le_trans s.le h, s.n1, s.n2, s.d⟩
theorem S2.put {A A' : View} {m m2 : Nat} {a b c d f g v k n p : ByteArray} (s : S2 A A' m m2 a b c d f g v k n p) (g' v' k' n' p' : ByteArray) : S2 A (A'.set m2 (.cells (idc g' v' k' n' p') 23 (0, 0))) m m2 a b c d f g' v' k' n' p' :=
  ⟨by rw [set_other s.d]; exact s.h1, set_at _ _ _, le_set' s.le s.n2, s.n1, s.n2, s.d⟩
set_option maxHeartbeats 4000000 in
theorem law3 (A : View) (G : GV A) (a b c d f a' b' c' d' f' : ByteArray) (w : Int) : VCalls Tryd.prog 3 #[idv a b c d f, idv a' b' c' d' f', .int .u8 w] A fun r A' => r = .bool true ∧ A ≤ A' := by
  refine xcalls Tryd.func3 rfl (by simp [Tryd.ntmps3]) ?_
  simp only [Tryd.f3]
  refine xc_step fun C hC => ?_
  simp [go_sem, xnew, Value.cells]
  intro m hm m2 hm2
  subst hC
  obtain ⟨d12, hn2, hA, hA2⟩ := two_blocks (d := idc a' b' c' d' f') (e2 := 23) hm2
  have hle : A ≤ (A.set m (.cells (idc a b c d f) 23)).set m2 (.cells (idc a' b' c' d' f') 23) := View.le_trans (le_set hm) (le_set hm2)
  generalize (A.set m (.cells (idc a b c d f) 23)).set m2 (.cells (idc a' b' c' d' f') 23) = A1 at *
  have s1 := cells_block hA (n := 5) rfl
  have s2 := cells_block hA2 (n := 5) rfl
  refine xc_step fun C hC => ?_
  simp [go_sem, vload, s1, gval]
  refine (fits5 A1 a b c d f).mono ?_
  rintro _ B1 ⟨⟨q, rfl, hq⟩, l1⟩
  cases q with
  | false =>
    simp [go_sem, xunop, gval, undef]
    exact View.le_trans hle l1
  | true =>
  obtain ⟨ha, hb, hc, hd, hf⟩ := hq rfl
  have s3 := cells_block (l1 _ _ hA2) (n := 5) rfl
  simp [go_sem, xunop, gval, vload, s3]
  refine (fits5 B1 a' b' c' d' f').mono ?_
  rintro _ B2 ⟨⟨q, rfl, hq'⟩, l2⟩
  cases q with
  | false =>
    simp [go_sem, xunop, gval]
    exact View.le_trans hle (View.le_trans l1 l2)
  | true =>
  obtain ⟨ha', hb', hc', hd', hf'⟩ := hq' rfl
  simp [go_sem, xunop, gval]
  subst hC
  have hS : S2 A B2 m m2 a b c d f a' b' c' d' f' := ⟨l2 _ _ (l1 _ _ hA), l2 _ _ (l1 _ _ hA2), View.le_trans hle (View.le_trans l1 l2), hm, hn2, d12⟩
  clear hA hA2 hle s1 s2 s3 l1 l2 hm hm2 hq hq'
  have s1 := cells_block hS.h1 (n := 5) rfl
  have s2 := cells_block hS.h2 (n := 5) rfl
  refine xc_step fun C hC => ?_
  rw [xc_seq, xc_draws]
  refine vdrawK [(0, true), (1, true), (2, true), (3, true), (4, false), (5, false)] B2 mixed (by kernel_rfl) (View.le_refl _) fun K hK => ?_
  simp only [rslv_cons, rslv_nil, List.getElem?_toArray, List.getElem?_cons_zero, List.getElem?_cons_succ, gres]
  simp [go_sem, vload, s1, s2]
  refine (kyId6 B2 a b c d f ha hb hc hd hf).mono ?_
  rintro _ B3 ⟨⟨ga, va, ka, na, pa, rfl, za1, za2, za3, za4, za5⟩, l1⟩
  refine ⟨l1, ?_⟩
  refine (kyId6 B3 a' b' c' d' f' ha' hb' hc' hd' hf').mono ?_
  rintro _ B4 ⟨⟨gb, vb, kb, nb, pb, rfl, zb1, zb2, zb3, zb4, zb5⟩, l2⟩
  refine ⟨View.le_trans l1 l2, ?_⟩
  have hS := (hS.mono l1).mono l2
  have hs1 := xstore_agg (P := Tryd.prog) (vs := idc ga va ka na pa) ti23 rfl hS.h1 rfl (by simp [one])
  have hB2' : (B4.set m (.cells (idc ga va ka na pa) 23)) m2 = some (.cells (idc a' b' c' d' f') 23 (0, 0)) := by rw [set_other d12.symm]; exact hS.h2
  have hs2 := xstore_agg (P := Tryd.prog) (vs := idc gb vb kb nb pb) ti23 rfl hB2' rfl (by simp [one])
  have hS2 : S2 A ((B4.set m (.cells (idc ga va ka na pa) 23)).set m2 (.cells (idc gb vb kb nb pb) 23)) m m2 ga va ka na pa gb vb kb nb pb :=
    ⟨by rw [set_other d12, set_at], set_at _ _ _, le_set' (le_set' hS.le hS.n1) hS.n2, hS.n1, hS.n2, d12⟩
  simp [hs1, hs2, onS_some, go_sem]
  refine hK _ _ _ ?_
  clear hK hs1 hs2 hB2' hS s1 s2 l1 l2
  generalize (B4.set m (.cells (idc ga va ka na pa) 23)).set m2 (.cells (idc gb vb kb nb pb) 23) = B5 at hS2
  simp only [thenQ_normal]
  subst hC
  have hS := hS2
  clear hS2
  refine xc_step fun C hC => ?_
  have tail1 : ∀ (e' : Env) (B : View) (gb : ByteArray), e' 2 = .int .u8 w → e' 3 = .pointer (some ⟨m, 0, none⟩) → e' 4 = .pointer (some ⟨m2, 0, none⟩) → S2 A B m m2 ga va ka na pa gb vb kb nb pb → gb.size ≤ 20 → xc Tryd.prog 59 C (xend Tryd.prog 59 [ResultVar.tmp 6] fun r A' => r = .bool true ∧ A ≤ A') e' [] B := by
    clear hS zb1
    intro e' B gb g2 g3 g4 hS zb1
    subst hC
    refine xc_step fun C hC => ?_
    have tail2 : ∀ (e' : Env) (B : View) (vb : ByteArray), e' 2 = .int .u8 w → e' 3 = .pointer (some ⟨m, 0, none⟩) → e' 4 = .pointer (some ⟨m2, 0, none⟩) → S2 A B m m2 ga va ka na pa gb vb kb nb pb → vb.size ≤ 20 → xc Tryd.prog 59 C (xend Tryd.prog 59 [ResultVar.tmp 6] fun r A' => r = .bool true ∧ A ≤ A') e' [] B := by
      clear hS zb2 g2 g3 g4
      intro e' B vb g2 g3 g4 hS zb2
      subst hC
      refine xc_step fun C hC => ?_
      have tail3 : ∀ (e' : Env) (B : View) (kb : ByteArray), e' 2 = .int .u8 w → e' 3 = .pointer (some ⟨m, 0, none⟩) → e' 4 = .pointer (some ⟨m2, 0, none⟩) → S2 A B m m2 ga va ka na pa gb vb kb nb pb → kb.size ≤ 20 → xc Tryd.prog 59 C (xend Tryd.prog 59 [ResultVar.tmp 6] fun r A' => r = .bool true ∧ A ≤ A') e' [] B := by
        clear hS zb3 g2 g3 g4
        intro e' B kb g2 g3 g4 hS zb3
        subst hC
        have s1 := cells_block hS.h1 (n := 5) rfl
        have s2 := cells_block hS.h2 (n := 5) rfl
        refine xc_step fun C hC => ?_
        simp [go_sem, g2, g3, g4, vload, s1, s2]
        refine (less7 B (G.le hS.le) ga va ka na pa gb vb kb nb pb (by omega) (by omega) (by omega) (by omega) (by omega) (by omega)).mono ?_
        rintro _ B1 ⟨⟨x1, y1, rfl⟩, l1⟩
        simp [go_sem]
        subst hC
        have hS := hS.mono l1
        have s1 := cells_block hS.h1 (n := 5) rfl
        refine xc_step fun C hC => ?_
        simp [go_sem, g3, vload, s1, xbuild, Instr.fill, Value.cells]
        refine (less7 B1 (G.le hS.le) ga va ka na pa ⟨#[]⟩ ⟨#[]⟩ ⟨#[]⟩ ⟨#[]⟩ ⟨#[]⟩ (by omega) (by omega) (by omega) (by simp [ByteArray.size]) (by simp [ByteArray.size]) (by simp [ByteArray.size])).mono ?_
        rintro _ B2 ⟨⟨x2, y2, rfl⟩, l2⟩
        have hall : sel ga va ka ⟨#[]⟩ ⟨#[]⟩ ⟨#[]⟩ = true := by unfold sel; rw [pass_nil, pass_nil, pass_nil]; rfl
        rw [hall]
        simp [go_sem]
        subst hC
        have hS := hS.mono l2
        have s1 := cells_block hS.h1 (n := 5) rfl
        have s2 := cells_block hS.h2 (n := 5) rfl
        simp [go_sem, g3, g4, vload, s1, s2]
        refine (ky8 B2 ga va ka na pa gb vb kb nb pb).mono ?_
        rintro _ B3 ⟨rfl, l3⟩
        cases sel ga va ka gb vb kb <;>
        · simp [go_sem, xbin, eqPlain, gval]
          exact View.le_trans hS.le l3
      simp [go_sem, g2, g3, g4, xbin, eqPlain]
      rw [cond2_bool]
      split
      · have hst : xstore Tryd.prog 9 (.pointer (some ⟨m2, 2, none⟩)) (.string ⟨#[]⟩) B = some (B.set m2 (.cells (idc gb vb ⟨#[]⟩ nb pb) 23 (0, 0))) := xstore_field ti9 hS.h2 (by simp) rfl
        simp [go_sem, g2, g3, g4, xfieldAt, hst]
        exact tail3 _ _ _ (by simp [go_sem, g2, g3, g4]) (by simp [go_sem, g2, g3, g4]) (by simp [go_sem, g2, g3, g4]) (hS.put _ _ _ _ _) (by simp [ByteArray.size])
      · exact tail3 _ _ _ (by simp [go_sem, g2, g3, g4]) (by simp [go_sem, g2, g3, g4]) (by simp [go_sem, g2, g3, g4]) hS (by omega)
    simp [go_sem, g2, g3, g4, xbin, eqPlain]
    rw [cond2_bool]
    split
    · have hst : xstore Tryd.prog 9 (.pointer (some ⟨m2, 1, none⟩)) (.string ⟨#[]⟩) B = some (B.set m2 (.cells (idc gb ⟨#[]⟩ kb nb pb) 23 (0, 0))) := xstore_field ti9 hS.h2 (by simp) rfl
      simp [go_sem, g2, g3, g4, xfieldAt, hst]
      exact tail2 _ _ _ (by simp [go_sem, g2, g3, g4]) (by simp [go_sem, g2, g3, g4]) (by simp [go_sem, g2, g3, g4]) (hS.put _ _ _ _ _) (by simp [ByteArray.size])
    · exact tail2 _ _ _ (by simp [go_sem, g2, g3, g4]) (by simp [go_sem, g2, g3, g4]) (by simp [go_sem, g2, g3, g4]) hS (by omega)
  simp [go_sem, xbin, eqPlain]
  rw [cond2_bool]
  split
  · have hst : xstore Tryd.prog 9 (.pointer (some ⟨m2, 0, none⟩)) (.string ⟨#[]⟩) B5 = some (B5.set m2 (.cells (idc ⟨#[]⟩ vb kb nb pb) 23 (0, 0))) := xstore_field ti9 hS.h2 (by simp) rfl
    simp [go_sem, xfieldAt, hst]
    exact tail1 _ _ _ (by simp [go_sem]) (by simp [go_sem]) (by simp [go_sem]) (hS.put _ _ _ _ _) (by simp [ByteArray.size])
  · exact tail1 _ _ _ (by simp [go_sem]) (by simp [go_sem]) (by simp [go_sem]) hS (by omega)
end Go.Proofs.YtcficphbjicneaaDoorV

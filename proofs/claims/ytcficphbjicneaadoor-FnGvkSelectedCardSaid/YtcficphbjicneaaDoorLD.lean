/- Groups, versions and kinds: an id of plain texts; the three answers; what the reference says. -/
import Derived.Test.YtcficphbjicneaaDoorLC
namespace Go.Proofs.YtcficphbjicneaaDoorV
open Go.RowKit
abbrev idc (a b c d f : ByteArray) : Array Value := #[.string a, .string b, .string c, .string d, .string f]
/-- The three blocks of kyId. -/
structure St (A A' : View) (m1 m2 m3 : Nat) (a b c d f g v k n p : ByteArray) : Prop where
  h1 : A' m1 = some (.cells (idc a b c d f) 23 (0, 0))
  h2 : A' m2 = some (.cells (idc ⟨#[]⟩ ⟨#[]⟩ ⟨#[]⟩ ⟨#[]⟩ ⟨#[]⟩) 23 (0, 0))
  h3 : A' m3 = some (.cells (idc g v k n p) 23 (0, 0))
  le : A ≤ A'
  n2 : A m2 = none
  n3 : A m3 = none
  d13 : m1 ≠ m3
  d23 : m2 ≠ m3
theorem St.mono {A A' B : View} {m1 m2 m3 : Nat} {a b c d f g v k n p : ByteArray} (s : St A A' m1 m2 m3 a b c d f g v k n p) (h : A' ≤ B) : St A B m1 m2 m3 a b c d f g v k n p :=
  ⟨h _ _ s.h1, h _ _ s.h2, h _ _ s.h3, View.le_trans s.le h, s.n2, s.n3, s.d13, s.d23⟩
theorem St.put {A A' : View} {m1 m2 m3 : Nat} {a b c d f g v k n p : ByteArray} (s : St A A' m1 m2 m3 a b c d f g v k n p) (g' v' k' n' p' : ByteArray) :
    St A (A'.set m3 (.cells (idc g' v' k' n' p') 23 (0, 0))) m1 m2 m3 a b c d f g' v' k' n' p' :=
  ⟨by rw [set_other s.d13]; exact s.h1, by rw [set_other s.d23]; exact s.h2, set_at _ _ _, le_set' s.le s.n3, s.n2, s.n3, s.d13, s.d23⟩
set_option maxHeartbeats 4000000 in
theorem kyId6 (A : View) (a b c d f : ByteArray) (ha : a.size ≤ 2147483647) (hb : b.size ≤ 2147483647) (hc : c.size ≤ 2147483647) (hd : d.size ≤ 2147483647) (hf : f.size ≤ 2147483647) :
    VCalls Tryd.prog 6 #[idv a b c d f] A fun r A' => (∃ g v k n p, r = idv g v k n p ∧ g.size ≤ 20 ∧ v.size ≤ 20 ∧ k.size ≤ 20 ∧ n.size ≤ 20 ∧ p.size ≤ 20) ∧ A ≤ A' := by
  refine xcalls Tryd.func6 rfl (by simp [Tryd.ntmps6]) ?_
  simp only [Tryd.f6]
  refine xc_step fun C hC => ?_
  simp [go_sem, xnew, Value.cells, zeroOf]
  intro m1 hm1 m2 hm2
  subst hC
  have d12 : m1 ≠ m2 := fun hx => by rw [← hx, set_at] at hm2; cases hm2
  have hA : ((A.set m1 (.cells (idc a b c d f) 23)).set m2 (.cells (idc ⟨#[]⟩ ⟨#[]⟩ ⟨#[]⟩ ⟨#[]⟩ ⟨#[]⟩) 23)) m1 = some (.cells (idc a b c d f) 23 (0, 0)) := by
    rw [set_other d12, set_at]
  have hA2 := set_at (A.set m1 (.cells (idc a b c d f) 23)) m2 (.cells (idc ⟨#[]⟩ ⟨#[]⟩ ⟨#[]⟩ ⟨#[]⟩ ⟨#[]⟩) 23)
  have hle : A ≤ (A.set m1 (.cells (idc a b c d f) 23)).set m2 (.cells (idc ⟨#[]⟩ ⟨#[]⟩ ⟨#[]⟩ ⟨#[]⟩ ⟨#[]⟩) 23) := View.le_trans (le_set hm1) (le_set hm2)
  have hn2 : A m2 = none := by rw [set_other d12.symm] at hm2; exact hm2
  generalize (A.set m1 (.cells (idc a b c d f) 23)).set m2 (.cells (idc ⟨#[]⟩ ⟨#[]⟩ ⟨#[]⟩ ⟨#[]⟩ ⟨#[]⟩) 23) = A1 at *
  have e0 := cell_of hA (i := 0) rfl
  have e1 := cell_of hA (i := 1) rfl
  have e2 := cell_of hA (i := 2) rfl
  have e3 := cell_of hA (i := 3) rfl
  have e4 := cell_of hA (i := 4) rfl
  refine xc_step fun C hC => ?_
  rw [xc_seq, xc_draws]
  refine vdrawK [(0, true), (1, true), (2, true), (3, true), (4, true), (5, true), (6, true), (7, true), (8, true), (9, true), (10, true), (11, true), (12, true), (13, true), (14, true)] A1 mixed (by kernel_rfl) (View.le_refl _) fun K hK => ?_
  simp only [rslv_cons, rslv_nil, List.getElem?_toArray, List.getElem?_cons_zero, List.getElem?_cons_succ, gres]
  simp [go_sem, xfieldAt, vload, e0, e1, e2, e3, e4]
  have hb14 : ∀ s : ByteArray, s.size ≤ 2147483647 → s.size ≤ 9223372036854775807 := fun s h => by omega
  refine (plain14 A1 a (hb14 a ha)).mono ?_
  rintro _ B1 ⟨⟨g, rfl, hg⟩, l1⟩
  refine ⟨l1, ?_⟩
  refine (plain14 B1 b (hb14 b hb)).mono ?_
  rintro _ B2 ⟨⟨v, rfl, hv⟩, l2⟩
  refine ⟨View.le_trans l1 l2, ?_⟩
  refine (plain14 B2 d (hb14 d hd)).mono ?_
  rintro _ B3 ⟨⟨n, rfl, hn⟩, l3⟩
  refine ⟨View.le_trans l1 (View.le_trans l2 l3), ?_⟩
  refine (plain14 B3 f (hb14 f hf)).mono ?_
  rintro _ B4 ⟨⟨p, rfl, hp⟩, l4⟩
  have l5 := View.le_trans l1 (View.le_trans l2 (View.le_trans l3 l4))
  refine ⟨l5, ?_⟩
  clear l1 l2 l3 l4
  simp [go_sem, xbuild, Instr.fill, xnew, Value.cells, zeroOf]
  intro m3 hm3
  have d13 : m1 ≠ m3 := fun hx => by have := l5 _ _ hA; rw [hx, hm3] at this; cases this
  have d23 : m2 ≠ m3 := fun hx => by have := l5 _ _ hA2; rw [hx, hm3] at this; cases this
  have hn3 : A m3 = none := none_le (View.le_trans hle l5) hm3
  have hst := xstore_agg (P := Tryd.prog) (vs := idc g v ⟨#[]⟩ n p) ti23 rfl (set_at B4 m3 (.cells (idc ⟨#[]⟩ ⟨#[]⟩ ⟨#[]⟩ ⟨#[]⟩ ⟨#[]⟩) 23)) rfl (by simp [one])
  rw [set_set] at hst
  have hS : St A (B4.set m3 (.cells (idc g v ⟨#[]⟩ n p) 23)) m1 m2 m3 a b c d f g v ⟨#[]⟩ n p :=
    ⟨by rw [set_other d13]; exact l5 _ _ hA, by rw [set_other d23]; exact l5 _ _ hA2, set_at _ _ _, le_set' (View.le_trans hle l5) hn3, hn2, hn3, d13, d23⟩
  have hle5 : A1 ≤ B4.set m3 (.cells (idc g v ⟨#[]⟩ n p) 23) := le_set' l5 (none_le l5 hm3)
  simp [hst, onS_some]
  refine ⟨hle5, hK _ _ _ ?_⟩
  clear hle5 hK hst l5
  generalize B4.set m3 (.cells (idc g v ⟨#[]⟩ n p) 23) = B5 at hS
  simp only [thenQ_normal]
  subst hC
  refine xc_step fun C hC => ?_
  have tail1 : ∀ (e' : Env) (B : View) (k : ByteArray), e' 1 = .pointer (some ⟨m1, 0, none⟩) → e' 2 = .pointer (some ⟨m2, 0, none⟩) → e' 3 = .pointer (some ⟨m3, 0, none⟩) → St A B m1 m2 m3 a b c d f g v k n p → k.size ≤ 20 → xc Tryd.prog 42 C (xend Tryd.prog 42 [ResultVar.cell 2 23] fun r A' => (∃ g v k n p, r = idv g v k n p ∧ g.size ≤ 20 ∧ v.size ≤ 20 ∧ k.size ≤ 20 ∧ n.size ≤ 20 ∧ p.size ≤ 20) ∧ A ≤ A') e' [] B := by
    intro e' B k g1 g2 g3 hS hk
    subst hC
    refine xc_step fun C hC => ?_
    have tail2 : ∀ (e' : Env) (B : View) (g : ByteArray), e' 1 = .pointer (some ⟨m1, 0, none⟩) → e' 2 = .pointer (some ⟨m2, 0, none⟩) → e' 3 = .pointer (some ⟨m3, 0, none⟩) → St A B m1 m2 m3 a b c d f g v k n p → g.size ≤ 20 → xc Tryd.prog 42 C (xend Tryd.prog 42 [ResultVar.cell 2 23] fun r A' => (∃ g v k n p, r = idv g v k n p ∧ g.size ≤ 20 ∧ v.size ≤ 20 ∧ k.size ≤ 20 ∧ n.size ≤ 20 ∧ p.size ≤ 20) ∧ A ≤ A') e' [] B := by
      clear hS hg g1 g2 g3
      intro e' B g g1 g2 g3 hS hg
      subst hC
      refine xc_step fun C hC => ?_
      have tail3 : ∀ (e' : Env) (B : View) (n : ByteArray), e' 1 = .pointer (some ⟨m1, 0, none⟩) → e' 2 = .pointer (some ⟨m2, 0, none⟩) → e' 3 = .pointer (some ⟨m3, 0, none⟩) → St A B m1 m2 m3 a b c d f g v k n p → n.size ≤ 20 → xc Tryd.prog 42 C (xend Tryd.prog 42 [ResultVar.cell 2 23] fun r A' => (∃ g v k n p, r = idv g v k n p ∧ g.size ≤ 20 ∧ v.size ≤ 20 ∧ k.size ≤ 20 ∧ n.size ≤ 20 ∧ p.size ≤ 20) ∧ A ≤ A') e' [] B := by
        clear hS hn g1 g2 g3
        intro e' B n g1 g2 g3 hS hn
        subst hC
        have c3 := cells_block hS.h3 (n := 5) rfl
        have hst := xstore_agg (P := Tryd.prog) (vs := idc g v k n p) ti23 rfl hS.h2 rfl (by simp [one])
        have c2 := cells_block (set_at B m2 (.cells (idc g v k n p) 23 (0, 0))) (n := 5) rfl
        simp [go_sem, g1, g2, g3, vload, c3, hst, c2]
        refine ⟨?_, le_set' hS.le hS.n2⟩
        exact ⟨g, v, k, n, p, by simp, hg, by omega, hk, hn, by omega⟩
      have f3 := cell_of hS.h1 (i := 3) rfl
      have q3 := cell_of hS.h3 (i := 3) rfl
      by_cases h3 : (3 : Int) < d.size
      · have hz2 : (ByteArray.mk #[46, 120]).size = 2 := rfl
        have hadd : n.size ≤ 9223372036854775805 := by omega
        have hsz : (n ++ ByteArray.mk #[46, 120]).size ≤ 20 := by rw [ByteArray.size_append]; have h2 : (ByteArray.mk #[46, 120]).size = 2 := rfl; omega
        have hst : xstore Tryd.prog 9 (.pointer (some ⟨m3, 3, none⟩)) (.string (n ++ ByteArray.mk #[46, 120])) B = some (B.set m3 (.cells (idc g v k (n ++ ByteArray.mk #[46, 120]) p) 23 (0, 0))) := xstore_field ti9 hS.h3 (by simp) rfl
        simp [go_sem, g1, g2, g3, xfieldAt, vload, f3, q3, xlen, xbin, eqPlain, h3, hadd, hst]
        exact tail3 _ _ _ (by simp [go_sem, g1]) (by simp [go_sem, g2]) (by simp [go_sem, g3]) (hS.put _ _ _ _ _) hsz
      · simp [go_sem, g1, g2, g3, xfieldAt, vload, f3, q3, xlen, xbin, eqPlain, h3]
        exact tail3 _ _ _ (by simp [go_sem, g1]) (by simp [go_sem, g2]) (by simp [go_sem, g3]) hS (by omega)
    have f0 := cell_of hS.h1 (i := 0) rfl
    have q0 := cell_of hS.h3 (i := 0) rfl
    by_cases h0 : (3 : Int) < a.size
    · have hz2 : (ByteArray.mk #[46, 105, 111]).size = 3 := rfl
      have hadd : g.size ≤ 9223372036854775804 := by omega
      have hsz : (g ++ ByteArray.mk #[46, 105, 111]).size ≤ 20 := by rw [ByteArray.size_append]; have h2 : (ByteArray.mk #[46, 105, 111]).size = 3 := rfl; omega
      have hst : xstore Tryd.prog 9 (.pointer (some ⟨m3, 0, none⟩)) (.string (g ++ ByteArray.mk #[46, 105, 111])) B = some (B.set m3 (.cells (idc (g ++ ByteArray.mk #[46, 105, 111]) v k n p) 23 (0, 0))) := xstore_field ti9 hS.h3 (by simp) rfl
      simp [go_sem, g1, g2, g3, xfieldAt, vload, f0, q0, xlen, xbin, eqPlain, h0, hadd, hst]
      exact tail2 _ _ _ (by simp [go_sem, g1]) (by simp [go_sem, g2]) (by simp [go_sem, g3]) (hS.put _ _ _ _ _) hsz
    · simp [go_sem, g1, g2, g3, xfieldAt, vload, f0, q0, xlen, xbin, eqPlain, h0]
      exact tail2 _ _ _ (by simp [go_sem, g1]) (by simp [go_sem, g2]) (by simp [go_sem, g3]) hS (by omega)
  have f2 := cell_of hS.h1 (i := 2) rfl
  cases hc2 : c.toList.isEmpty with
  | true =>
    simp [go_sem, xfieldAt, vload, f2, xbin, eqPlain, hc2]
    exact tail1 _ _ _ (by simp [go_sem]) (by simp [go_sem]) (by simp [go_sem]) hS (by simp [ByteArray.size])
  | false =>
    simp [go_sem, xfieldAt, vload, f2, xbin, eqPlain, hc2]
    refine (plain14 B5 c (hb14 c hc)).mono ?_
    rintro _ B6 ⟨⟨k, rfl, hk⟩, l6⟩
    have hS6 := hS.mono l6
    have hz2 : (ByteArray.mk #[90, 122]).size = 2 := rfl
    have hadd : k.size ≤ 9223372036854775805 := by omega
    have hadd2 : 2 + k.size ≤ 9223372036854775807 := by omega
    have hsz : (ByteArray.mk #[90, 122] ++ k).size ≤ 20 := by rw [ByteArray.size_append]; have h2 : (ByteArray.mk #[90, 122]).size = 2 := rfl; omega
    have hst : xstore Tryd.prog 9 (.pointer (some ⟨m3, 2, none⟩)) (.string (ByteArray.mk #[90, 122] ++ k)) B6 = some (B6.set m3 (.cells (idc g v (ByteArray.mk #[90, 122] ++ k) n p) 23 (0, 0))) := xstore_field ti9 hS6.h3 (by simp) rfl
    simp [go_sem, xbin, eqPlain, hadd, hadd2, hz2, xfieldAt, hst]
    exact tail1 _ _ _ (by simp [go_sem]) (by simp [go_sem]) (by simp [go_sem]) (hS6.put _ _ _ _ _) hsz
end Go.Proofs.YtcficphbjicneaaDoorV

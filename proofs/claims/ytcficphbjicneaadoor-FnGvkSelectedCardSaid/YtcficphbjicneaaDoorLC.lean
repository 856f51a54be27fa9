/- Groups, versions and kinds: which is less (left open), ids of plain texts, the three answers. -/
import Derived.Test.YtcficphbjicneaaDoorLB
namespace Go.Proofs.YtcficphbjicneaaDoorV
open Go.RowKit
set_option maxHeartbeats 2000000 in
theorem less16 (A : View) (a b c a' b' c' : ByteArray) (q q' : Bool) (G : GV A) (ha : a.size ≤ 1000) (hb : b.size ≤ 1000) (hc : c.size ≤ 1000) (ha' : a'.size ≤ 1000) (hb' : b'.size ≤ 1000) (hc' : c'.size ≤ 1000) :
    VCalls Tryd.prog 16 #[gvv a b c q, gvv a' b' c' q'] A fun r A' => (∃ x, r = .bool x) ∧ A ≤ A' := by
  refine xcalls Tryd.func16 rfl (by simp [Tryd.ntmps16]) ?_
  simp only [Tryd.f16]
  refine xc_step fun C hC => ?_
  simp [go_sem, xnew, Value.cells]
  intro m hm m2 hm2
  subst hC
  have hA : ((A.set m (.cells #[.string a, .string b, .string c, .bool q] 41)).set m2 (.cells #[.string a', .string b', .string c', .bool q'] 41)) m = some (.cells #[.string a, .string b, .string c, .bool q] 41) := by
    rw [set_other (fun hx => by rw [← hx, set_at] at hm2; cases hm2), set_at]
  have hA2 := set_at (A.set m (.cells #[.string a, .string b, .string c, .bool q] 41)) m2 (.cells #[.string a', .string b', .string c', .bool q'] 41)
  have hle : A ≤ (A.set m (.cells #[.string a, .string b, .string c, .bool q] 41)).set m2 (.cells #[.string a', .string b', .string c', .bool q'] 41) := View.le_trans (le_set hm) (le_set hm2)
  generalize (A.set m (.cells #[.string a, .string b, .string c, .bool q] 41)).set m2 (.cells #[.string a', .string b', .string c', .bool q'] 41) = A1 at *
  have d2 := cell_of hA (i := 2) rfl
  have f2 := cell_of hA2 (i := 2) rfl
  have hs1 := cells_block hA (n := 4) rfl
  have hs2 := cells_block hA2 (n := 4) rfl
  have G1 := G.le hle
  refine xc_step fun C hC => ?_
  simp [go_sem, xfieldAt, vload, d2]
  refine (orders23 A1 c G1).mono ?_
  rintro _ _ ⟨⟨n1, rfl⟩, rfl⟩
  rename_i A1
  subst hC
  refine xc_step fun C hC => ?_
  simp [go_sem, xfieldAt, vload, f2]
  refine (orders23 A1 c' G1).mono ?_
  rintro _ _ ⟨⟨n2, rfl⟩, rfl⟩
  rename_i A1
  subst hC
  refine xc_step fun C hC => ?_
  cases hn : (n1 != n2) with
  | true =>
    simp [go_sem, xbin, eqPlain, hn]
    exact ⟨by omega, hle⟩
  | false =>
    simp [go_sem, xbin, eqPlain, hn]
    subst hC
    simp [go_sem]
    refine vdrawK [(0, true), (1, true), (2, true), (3, true), (4, true), (5, true)] A1 mixed (by kernel_rfl) (View.le_refl _) fun K hK => ?_
    simp only [rslv_cons, rslv_nil, List.getElem?_toArray, List.getElem?_cons_zero, List.getElem?_cons_succ, gres]
    simp [go_sem, vload, hs1, hs2]
    refine (stable24 A1 a b c q ha hb hc).mono ?_
    rintro _ A2 ⟨⟨s1, rfl⟩, hA2'⟩
    refine ⟨hA2', ?_⟩
    refine (stable24 A2 a' b' c' q' ha' hb' hc').mono ?_
    rintro _ A3 ⟨⟨s2, rfl⟩, hA3'⟩
    refine ⟨View.le_trans hA2' hA3', ?_⟩
    simp [go_sem, xbin, eqPlain]
    refine hK _ _ _ ?_
    simp [go_sem]
    exact View.le_trans hle (View.le_trans hA2' hA3')
set_option maxHeartbeats 2000000 in
theorem plain14 (A : View) (s : ByteArray) (hs : s.size ≤ 9223372036854775807) : VCalls Tryd.prog 14 #[.string s] A fun r A' => (∃ t, r = .string t ∧ t.size ≤ 12) ∧ A ≤ A' := by
  refine xcalls Tryd.func14 rfl (by simp [Tryd.ntmps14]) ?_
  simp [go_sem, Tryd.f14]
  refine vloopK (fun k e ds A' => ∃ i : Nat, k + i = s.size ∧ ds = [] ∧ e 0 = .string s ∧ e 4 = .int .i64 i ∧ A ≤ A' ∧ ∃ u, e 3 = u ∧ ∃ l : List UInt8, l.length ≤ 12 ∧ Own A A' 5 1 u l.length (l.map bv)) s.size
    ⟨0, by simp, rfl, by simp [go_sem], by simp [go_sem], View.le_refl _, .slice none 0 0, by simp [go_sem], [], by simp, Own.nil _ _ _ _⟩ ?_
  rintro k e ds A1 ⟨i, hk, rfl, h0, h4, hle, u, h3, l, hl12, hown⟩ J X hJ hX
  refine xc_sound _ ?_
  obtain ⟨bu, cu, eu⟩ := hown.row.slice
  have tail : ∀ e' : Env, e' 3 = u → X (.exit 0) e' [] A1 := by
    intro e' g3
    refine hX _ _ _ _ ?_
    have hsz : (ByteArray.mk l.toArray).size ≤ 12 := by simpa [ByteArray.size] using hl12
    rcases hown.row with ⟨a, cap, hu, hc⟩ | ⟨hu, hn, _⟩
    · rw [Nat.mul_one] at hc
      simp [go_sem, g3, hu, xconv]
      refine xb2s (l := l) (a := a) (len := l.length) (cap := cap) Tryd.underlying58 Tryd.underlying5 Tryd.underlying9 (by simp [go_sem]) hc ?_
      simp [go_sem]
      exact ⟨hsz, hle⟩
    · simp [go_sem, g3, hu, xconv]
      refine xb2s_nil (len := 0) (cap := 0) Tryd.underlying58 Tryd.underlying5 Tryd.underlying9 (by simp [go_sem]) ?_
      simp [go_sem]
      exact hle
  by_cases hi : i < s.size
  · by_cases hlt : l.length < 12
    · have hlt' : (l.length : Int) < 12 := by omega
      have hg : s[i]? = some s[i] := getElem?_pos s i hi
      have hw := wrap_nat (i := i) (by omega)
      generalize hC : s[i] = c at hg
      have hcr : (c.toNat : Int) < 256 := by have := c.toNat_lt; omega
      have acc : ∀ (b2 : Nat), A1 b2 = none → ∀ K : Value → View → Prop, (∀ v' A3, A ≤ A3 → Own A A3 5 1 v' (l ++ [c]).length ((l ++ [c]).map bv) → K v' A3) →
          xappend Tryd.prog 58 58 u (.slice (some ⟨b2, 0, none⟩) 1 1) (A1.set b2 (.cells #[.int .u8 c.toNat] 5)) K := by
        intro b2 hb2 K hK
        refine xappend_own ti58 ti58 (fun k => by simp) ti5 rfl (by decide) (hown.le (le_set hb2)) (View.le_trans hle (le_set hb2)) appended_one (by simp) (by simp [one]) (by omega) fun v' A3 h1' h2' h3' => ?_
        refine hK v' A3 h1' ?_
        simpa [bv] using h2'
      refine xc_step fun C hC => ?_
      simp [go_sem, h0, h3, h4, eu, xlen, xbin, eqPlain, hi, hlt', gval]
      subst hC
      refine xc_step fun C hC => ?_
      rw [xc_seq, xc_block]
      refine xc_step fun C2 hC2 => ?_
      simp [go_sem, h0, h4, xindex, hg]
      subst hC2
      have accT : ∀ e' : Env, e' 0 = .string s → e' 3 = u → e' 4 = .int .i64 i → e' 5 = .int .u8 c.toNat → e' 45 = .bool true → ∀ K : VQ, True := fun _ _ _ _ _ _ _ => trivial
      clear accT
      have cs : (97 ≤ (c.toNat : Int) ∧ (c.toNat : Int) ≤ 122) ∨ (¬ (c.toNat : Int) ≤ 122) ∨ (91 ≤ (c.toNat : Int) ∧ ¬ 97 ≤ (c.toNat : Int)) ∨ (65 ≤ (c.toNat : Int) ∧ (c.toNat : Int) ≤ 90) ∨
          (¬ (c.toNat : Int) ≤ 57 ∧ ¬ 65 ≤ (c.toNat : Int)) ∨ (48 ≤ (c.toNat : Int) ∧ (c.toNat : Int) ≤ 57) ∨ ((c.toNat : Int) = 45) ∨ (¬ 48 ≤ (c.toNat : Int) ∧ (c.toNat : Int) ≠ 45) := by omega
      refine xc_reg 26 rfl fun K hK => ?_
      simp only [show (List.range 26).map (·, true) = [(0, true), (1, true), (2, true), (3, true), (4, true), (5, true), (6, true), (7, true), (8, true), (9, true), (10, true), (11, true), (12, true), (13, true), (14, true), (15, true), (16, true), (17, true), (18, true), (19, true), (20, true), (21, true), (22, true), (23, true), (24, true), (25, true)] from rfl, rslv_cons, rslv_nil, List.getElem?_toArray, List.getElem?_cons_zero, List.getElem?_cons_succ, gres]
      rcases cs with ⟨p1, p2⟩ | p2 | ⟨p3', p1⟩ | ⟨p3, p4⟩ | ⟨p6, p3⟩ | ⟨p5, p6⟩ | p7' | ⟨p5, p7'⟩
      · (repeat (refine seqX_hide fun R hR => ?_; simp [go_sem, xbin, eqPlain, wantR, undef, p1, p2]; subst hR))
        rw [seqX_nil]
        refine hK _ _ _ ?_
        simp [go_sem, h3, eu, xnew, Instr.fill, zerosB, Value.cells]
        intro b2 hb2
        rw [← eu]
        refine acc b2 hb2 _ fun v' A3 k1 k2 => ?_
        subst hC
        simp [go_sem, h4, xbin, eqPlain, hw]
        exact hJ (k - 1) _ _ _ (by omega) ⟨i + 1, by omega, rfl, by simp [go_sem, h0], by simp [go_sem], k1, v', by simp [go_sem], l ++ [c], by simp; omega, k2⟩
      · have p1 : (97 : Int) ≤ c.toNat := by omega
        have p3 : (65 : Int) ≤ c.toNat := by omega
        have p4 : ¬ (c.toNat : Int) ≤ 90 := by omega
        have p5 : (48 : Int) ≤ c.toNat := by omega
        have p6 : ¬ (c.toNat : Int) ≤ 57 := by omega
        have p7 : ((c.toNat : Int) == 45) = false := by simp; omega
        (repeat (refine seqX_hide fun R hR => ?_; simp [go_sem, xbin, eqPlain, wantR, undef, p1, p2, p3, p4, p5, p6, p7]; subst hR))
        rw [seqX_nil]
        refine hK _ _ _ ?_
        simp [go_sem]
        subst hC
        simp [go_sem, h4, xbin, eqPlain, hw]
        exact hJ (k - 1) _ _ _ (by omega) ⟨i + 1, by omega, rfl, by simp [go_sem, h0], by simp [go_sem], hle, u, by simp [go_sem, h3, eu], l, hl12, hown⟩
      · have p3 : (65 : Int) ≤ c.toNat := by omega
        have p4 : ¬ (c.toNat : Int) ≤ 90 := by omega
        have p5 : (48 : Int) ≤ c.toNat := by omega
        have p6 : ¬ (c.toNat : Int) ≤ 57 := by omega
        have p7 : ((c.toNat : Int) == 45) = false := by simp; omega
        (repeat (refine seqX_hide fun R hR => ?_; simp [go_sem, xbin, eqPlain, wantR, undef, p1, p3, p4, p5, p6, p7]; subst hR))
        rw [seqX_nil]
        refine hK _ _ _ ?_
        simp [go_sem]
        subst hC
        simp [go_sem, h4, xbin, eqPlain, hw]
        exact hJ (k - 1) _ _ _ (by omega) ⟨i + 1, by omega, rfl, by simp [go_sem, h0], by simp [go_sem], hle, u, by simp [go_sem, h3, eu], l, hl12, hown⟩
      · have p1 : ¬ (97 : Int) ≤ c.toNat := by omega
        (repeat (refine seqX_hide fun R hR => ?_; simp [go_sem, xbin, eqPlain, wantR, undef, p1, p3, p4]; subst hR))
        rw [seqX_nil]
        refine hK _ _ _ ?_
        simp [go_sem, h3, eu, xnew, Instr.fill, zerosB, Value.cells]
        intro b2 hb2
        rw [← eu]
        refine acc b2 hb2 _ fun v' A3 k1 k2 => ?_
        subst hC
        simp [go_sem, h4, xbin, eqPlain, hw]
        exact hJ (k - 1) _ _ _ (by omega) ⟨i + 1, by omega, rfl, by simp [go_sem, h0], by simp [go_sem], k1, v', by simp [go_sem], l ++ [c], by simp; omega, k2⟩
      · have p1 : ¬ (97 : Int) ≤ c.toNat := by omega
        have p5 : (48 : Int) ≤ c.toNat := by omega
        have p7 : ((c.toNat : Int) == 45) = false := by simp; omega
        (repeat (refine seqX_hide fun R hR => ?_; simp [go_sem, xbin, eqPlain, wantR, undef, p1, p3, p5, p6, p7]; subst hR))
        rw [seqX_nil]
        refine hK _ _ _ ?_
        simp [go_sem]
        subst hC
        simp [go_sem, h4, xbin, eqPlain, hw]
        exact hJ (k - 1) _ _ _ (by omega) ⟨i + 1, by omega, rfl, by simp [go_sem, h0], by simp [go_sem], hle, u, by simp [go_sem, h3, eu], l, hl12, hown⟩
      · have p1 : ¬ (97 : Int) ≤ c.toNat := by omega
        have p3 : ¬ (65 : Int) ≤ c.toNat := by omega
        (repeat (refine seqX_hide fun R hR => ?_; simp [go_sem, xbin, eqPlain, wantR, undef, p1, p3, p5, p6]; subst hR))
        rw [seqX_nil]
        refine hK _ _ _ ?_
        simp [go_sem, h3, eu, xnew, Instr.fill, zerosB, Value.cells]
        intro b2 hb2
        rw [← eu]
        refine acc b2 hb2 _ fun v' A3 k1 k2 => ?_
        subst hC
        simp [go_sem, h4, xbin, eqPlain, hw]
        exact hJ (k - 1) _ _ _ (by omega) ⟨i + 1, by omega, rfl, by simp [go_sem, h0], by simp [go_sem], k1, v', by simp [go_sem], l ++ [c], by simp; omega, k2⟩
      · have p1 : ¬ (97 : Int) ≤ c.toNat := by omega
        have p3 : ¬ (65 : Int) ≤ c.toNat := by omega
        have p5 : ¬ (48 : Int) ≤ c.toNat := by omega
        have p7 : ((c.toNat : Int) == 45) = true := by simp; omega
        (repeat (refine seqX_hide fun R hR => ?_; simp [go_sem, xbin, eqPlain, wantR, undef, p1, p3, p5, p7]; subst hR))
        rw [seqX_nil]
        refine hK _ _ _ ?_
        simp [go_sem, h3, eu, xnew, Instr.fill, zerosB, Value.cells]
        intro b2 hb2
        rw [← eu]
        refine acc b2 hb2 _ fun v' A3 k1 k2 => ?_
        subst hC
        simp [go_sem, h4, xbin, eqPlain, hw]
        exact hJ (k - 1) _ _ _ (by omega) ⟨i + 1, by omega, rfl, by simp [go_sem, h0], by simp [go_sem], k1, v', by simp [go_sem], l ++ [c], by simp; omega, k2⟩
      · have p1 : ¬ (97 : Int) ≤ c.toNat := by omega
        have p3 : ¬ (65 : Int) ≤ c.toNat := by omega
        have p7 : ((c.toNat : Int) == 45) = false := by simp; omega
        (repeat (refine seqX_hide fun R hR => ?_; simp [go_sem, xbin, eqPlain, wantR, undef, p1, p3, p5, p7]; subst hR))
        rw [seqX_nil]
        refine hK _ _ _ ?_
        simp [go_sem]
        subst hC
        simp [go_sem, h4, xbin, eqPlain, hw]
        exact hJ (k - 1) _ _ _ (by omega) ⟨i + 1, by omega, rfl, by simp [go_sem, h0], by simp [go_sem], hle, u, by simp [go_sem, h3, eu], l, hl12, hown⟩
    · have hlt' : ¬ (l.length : Int) < 12 := by omega
      refine xc_step fun C hC => ?_
      simp [go_sem, h0, h3, h4, eu, xlen, xbin, eqPlain, hi, hlt', gval]
      exact tail _ (by simp [go_sem, h3, eu])
  · refine xc_step fun C hC => ?_
    simp [go_sem, h0, h4, xlen, xbin, eqPlain, hi, gval]
    exact tail _ (by simp [go_sem, h3])
end Go.Proofs.YtcficphbjicneaaDoorV

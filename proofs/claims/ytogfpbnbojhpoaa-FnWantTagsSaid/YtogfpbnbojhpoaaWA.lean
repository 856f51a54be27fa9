/- Charts: impl.plain. -/
import Derived.Test.YtogfpbnbojhpoaaUZ
namespace Go.Proofs.YtogfpbnbojhpoaaV
open Go.RowKit
set_option linter.unusedSimpArgs false
set_option linter.unusedVariables false
theorem bl_drop (s : ByteArray) (i : Nat) (h : i < s.size) : (bl s).drop i = s[i] :: (bl s).drop (i + 1) := by
  have h3 : i < (bl s).length := by rw [bl_length]; exact h
  rw [List.drop_eq_getElem_cons h3]
  rfl
set_option maxRecDepth 20000 in
set_option maxHeartbeats 4000000 in
theorem plain64g (A : View) (s : ByteArray) (hs : s.size ≤ 2147483648) : VCalls Try.prog 64 #[.string s] A fun r A' => r = .bool (pgo (bl s) 0 0 false) ∧ A' = A := by
  have hLs : (bl s).length = s.size := bl_length s
  refine xcalls Try.func64 rfl (by simp [Try.ntmps64]) ?_
  simp only [Try.f64]
  have hP : Priv A (addrs []) := Priv.nil A
  show xc _ _ _ _ _ _ (ov A [])
  refine xc_two fun N1 hN1 => ?_
  refine xc_reg1 1 rfl fun K hK => ?_
  simp only [show (List.range 1).map (·, true) = [(0, true)] from rfl, rslv_cons, rslv_nil, List.getElem?_toArray, List.getElem?_cons_zero, List.getElem?_cons_succ, gres]
  (refine seqX_hide2 fun R hR => ?_; simp [go_sem]; refine hR _ _ _ ?_; clear hR R)
  rw [seqX_nil]
  refine hK _ _ _ ?_; clear hK K
  refine hN1 _ _ _ ?_
  refine xc_two fun N2 hN2 => ?_
  refine xc_reg1 2 rfl fun K hK => ?_
  simp only [show (List.range 2).map (·, true) = [(0, true), (1, true)] from rfl, rslv_cons, rslv_nil, List.getElem?_toArray, List.getElem?_cons_zero, List.getElem?_cons_succ, gres]
  iterate 2 (refine seqX_hide2 fun R hR => ?_; simp [go_sem]; refine hR _ _ _ ?_; clear hR R)
  rw [seqX_nil]
  refine hK _ _ _ ?_; clear hK K
  refine hN2 _ _ _ ?_
  refine xc_two fun N3 hN3 => ?_
  refine xc_two fun N4 hN4 => ?_
  refine xc_reg1 1 rfl fun K hK => ?_
  simp only [show (List.range 1).map (·, true) = [(0, true)] from rfl, rslv_cons, rslv_nil, List.getElem?_toArray, List.getElem?_cons_zero, List.getElem?_cons_succ, gres]
  (refine seqX_hide2 fun R hR => ?_; simp [go_sem]; refine hR _ _ _ ?_; clear hR R)
  rw [seqX_nil]
  refine hK _ _ _ ?_; clear hK K
  refine hN4 _ _ _ ?_
  rw [xc_block]
  rw [xc_loop]
  refine vloopK (fun k' e ds A' => ∃ (i : Nat) (d : Nat) (n : Nat) (z : Bool), k' = s.size - i ∧ ds = [] ∧ A' = ov A [] ∧ Priv A [] ∧ e 0 = .string s ∧ e 3 = .int .i64 d ∧ e 4 = .int .i64 n ∧ e 5 = .int .i64 i ∧ (i ≤ s.size) ∧ (d ≤ i) ∧ (n ≤ i) ∧ (n ≠ 0 → ∃ b, s[i - n]? = some b ∧ (b == 48) = z) ∧ (pgo ((bl s).drop i) d n z = pgo (bl s) 0 0 false)) _ ⟨0, 0, 0, false, rfl, rfl, rfl, hP, by simp [go_sem], by simp [go_sem], by simp [go_sem], by simp [go_sem], by omega, by omega, by omega, fun h => absurd rfl h, by simp⟩ ?_
  clear hP
  rintro k' e ds A' ⟨i, d, n, z, rfl, rfl, hV, hP, g0, g3, g4, g5, hil, hdi, hni, hz, hwk⟩ J1 X1 hJ1 hX1
  refine xc_sound _ ?_
  replace hV := Eq.symm hV; subst hV; replace hP : Priv A (addrs []) := hP
  have hw1 := wrap_nat (i := i) (by omega)
  have hw2 := wrap_nat (i := d) (by omega)
  have hw0 : IntKind.i64.wrap 1 = 1 := by decide
  have hw3 := wrap_nat (i := n) (by omega)
  have hws : IntKind.i64.wrap ((i : Int) - (n : Int)) = ((i - n : Nat) : Int) := by
    rw [wrap_in (by omega) (by omega)]; omega
  by_cases hi : i < s.size
  · have hg : s[i]? = some s[i] := getElem?_pos s i hi
    rw [bl_drop s i hi, pgo] at hwk
    by_cases hd : 48 ≤ s[i].toNat ∧ s[i].toNat ≤ 57
    · rw [if_pos hd] at hwk
      have h1 : (48 : Int) ≤ s[i].toNat := by omega
      have h2 : (s[i].toNat : Int) ≤ 57 := by omega
      by_cases hn0 : n = 0
      · subst hn0
        rw [if_neg (by simp), if_pos rfl] at hwk
        refine xc_two fun N5 hN5 => ?_
        refine xc_two fun N6 hN6 => ?_
        refine xc_reg1 4 rfl fun K hK => ?_
        simp only [show (List.range 4).map (·, true) = [(0, true), (1, true), (2, true), (3, true)] from rfl, rslv_cons, rslv_nil, List.getElem?_toArray, List.getElem?_cons_zero, List.getElem?_cons_succ, gres]
        iterate 4 (refine seqX_hide2 fun R hR => ?_; simp [go_sem, g0, g3, g4, g5, hi, hg, hw1, hw2, hw3, hw0, hws, xindex, h1, h2, hd.1, hd.2]; refine hR _ _ _ ?_; clear hR R)
        rw [seqX_nil]
        refine hK _ _ _ ?_; clear hK K
        refine hN6 _ _ _ ?_
        refine xc_iftrue (by simp [go_sem, g0, g3, g4, g5, hi, hg, hw1, hw2, hw3, hw0, hws, xindex, h1, h2, hd.1, hd.2]) ?_
        refine hN5 _ _ _ ?_
        refine xc_two fun N7 hN7 => ?_
        rw [xc_block]
        refine xc_two fun N8 hN8 => ?_
        refine xc_reg1 4 rfl fun K hK => ?_
        simp only [show (List.range 4).map (·, true) = [(0, true), (1, true), (2, true), (3, true)] from rfl, rslv_cons, rslv_nil, List.getElem?_toArray, List.getElem?_cons_zero, List.getElem?_cons_succ, gres]
        iterate 4 (refine seqX_hide2 fun R hR => ?_; simp [go_sem, g0, g3, g4, g5, hi, hg, hw1, hw2, hw3, hw0, hws, xindex, h1, h2, hd.1, hd.2]; refine hR _ _ _ ?_; clear hR R)
        rw [seqX_nil]
        refine hK _ _ _ ?_; clear hK K
        refine hN8 _ _ _ ?_
        rw [xc_block]
        refine xc_two fun N9 hN9 => ?_
        refine xc_reg1 7 rfl fun K hK => ?_
        simp only [show (List.range 7).map (·, true) = [(0, true), (1, true), (2, true), (3, true), (4, true), (5, true), (6, true)] from rfl, rslv_cons, rslv_nil, List.getElem?_toArray, List.getElem?_cons_zero, List.getElem?_cons_succ, gres]
        iterate 7 (refine seqX_hide2 fun R hR => ?_; simp [go_sem, g0, g3, g4, g5, hi, hg, hw1, hw2, hw3, hw0, hws, xindex, h1, h2, hd.1, hd.2]; refine hR _ _ _ ?_; clear hR R)
        rw [seqX_nil]
        refine hK _ _ _ ?_; clear hK K
        refine hN9 _ _ _ ?_
        refine xc_iftrue (by simp [go_sem, g0, g3, g4, g5, hi, hg, hw1, hw2, hw3, hw0, hws, xindex, h1, h2, hd.1, hd.2]) ?_
        refine xc_two fun N10 hN10 => ?_
        refine xc_two fun N11 hN11 => ?_
        refine xc_reg1 14 rfl fun K hK => ?_
        simp only [show (List.range 14).map (·, true) = [(0, true), (1, true), (2, true), (3, true), (4, true), (5, true), (6, true), (7, true), (8, true), (9, true), (10, true), (11, true), (12, true), (13, true)] from rfl, rslv_cons, rslv_nil, List.getElem?_toArray, List.getElem?_cons_zero, List.getElem?_cons_succ, gres]
        iterate 14 (refine seqX_hide2 fun R hR => ?_; simp [go_sem, g0, g3, g4, g5, hi, hg, hw1, hw2, hw3, hw0, hws, xindex, h1, h2, hd.1, hd.2]; refine hR _ _ _ ?_; clear hR R)
        rw [seqX_nil]
        refine hK _ _ _ ?_; clear hK K
        refine hN11 _ _ _ ?_
        refine xc_iffalse (by simp [go_sem, g0, g3, g4, g5, hi, hg, hw1, hw2, hw3, hw0, hws, xindex, h1, h2, hd.1, hd.2]) ?_
        refine hN10 _ _ _ ?_
        refine xc_reg1 3 rfl fun K hK => ?_
        simp only [show (List.range 3).map (·, true) = [(0, true), (1, true), (2, true)] from rfl, rslv_cons, rslv_nil, List.getElem?_toArray, List.getElem?_cons_zero, List.getElem?_cons_succ, gres]
        iterate 3 (refine seqX_hide2 fun R hR => ?_; simp [go_sem, g0, g3, g4, g5, hi, hg, hw1, hw2, hw3, hw0, hws, xindex, h1, h2, hd.1, hd.2]; refine hR _ _ _ ?_; clear hR R)
        rw [seqX_nil]
        refine hK _ _ _ ?_; clear hK K
        refine hN7 _ _ _ ?_
        refine xc_reg1 3 rfl fun K hK => ?_
        simp only [show (List.range 3).map (·, true) = [(0, true), (1, true), (2, true)] from rfl, rslv_cons, rslv_nil, List.getElem?_toArray, List.getElem?_cons_zero, List.getElem?_cons_succ, gres]
        iterate 3 (refine seqX_hide2 fun R hR => ?_; simp [go_sem, g0, g3, g4, g5, hi, hg, hw1, hw2, hw3, hw0, hws, xindex, h1, h2, hd.1, hd.2]; refine hR _ _ _ ?_; clear hR R)
        rw [seqX_nil]
        refine hK _ _ _ ?_; clear hK K
        refine hJ1 (s.size - (i + 1)) _ _ _ (by omega) ⟨i + 1, d, 1, s[i] == 48, rfl, rfl, rfl, hP, by simp [go_sem, g0, g3, g4, g5, hi, hg, hw1, hw2, hw3, hw0, hws, xindex, h1, h2, hd.1, hd.2], by simp [go_sem, g0, g3, g4, g5, hi, hg, hw1, hw2, hw3, hw0, hws, xindex, h1, h2, hd.1, hd.2], by simp [go_sem, g0, g3, g4, g5, hi, hg, hw1, hw2, hw3, hw0, hws, xindex, h1, h2, hd.1, hd.2], by simp [go_sem, g0, g3, g4, g5, hi, hg, hw1, hw2, hw3, hw0, hws, xindex, h1, h2, hd.1, hd.2], by omega, by omega, by omega, fun _ => ⟨s[i], by simp, rfl⟩, hwk⟩
      · obtain ⟨b, hb, hbz⟩ := hz hn0
        have hn0i : ((n : Int) == 0) = false := by simp [hn0]
        have hn0j : ¬ (n : Int) = 0 := by omega
        have hnp : 0 < n := by omega
        by_cases hb48 : b = 48
        · have hz1 : z = true := by rw [← hbz, hb48]; rfl
          have hbi : (b.toNat : Int) = 48 := by rw [hb48]; rfl
          rw [if_pos (.inl ⟨hn0, hz1⟩)] at hwk
          refine xc_two fun N5 hN5 => ?_
          refine xc_two fun N6 hN6 => ?_
          refine xc_reg1 4 rfl fun K hK => ?_
          simp only [show (List.range 4).map (·, true) = [(0, true), (1, true), (2, true), (3, true)] from rfl, rslv_cons, rslv_nil, List.getElem?_toArray, List.getElem?_cons_zero, List.getElem?_cons_succ, gres]
          iterate 4 (refine seqX_hide2 fun R hR => ?_; simp [go_sem, g0, g3, g4, g5, hi, hg, hw1, hw2, hw3, hw0, hws, xindex, h1, h2, hd.1, hd.2, hn0, hn0i, hn0j, hnp, hb, hbi]; refine hR _ _ _ ?_; clear hR R)
          rw [seqX_nil]
          refine hK _ _ _ ?_; clear hK K
          refine hN6 _ _ _ ?_
          refine xc_iftrue (by simp [go_sem, g0, g3, g4, g5, hi, hg, hw1, hw2, hw3, hw0, hws, xindex, h1, h2, hd.1, hd.2, hn0, hn0i, hn0j, hnp, hb, hbi]) ?_
          refine hN5 _ _ _ ?_
          refine xc_two fun N7 hN7 => ?_
          rw [xc_block]
          refine xc_two fun N8 hN8 => ?_
          refine xc_reg1 4 rfl fun K hK => ?_
          simp only [show (List.range 4).map (·, true) = [(0, true), (1, true), (2, true), (3, true)] from rfl, rslv_cons, rslv_nil, List.getElem?_toArray, List.getElem?_cons_zero, List.getElem?_cons_succ, gres]
          iterate 4 (refine seqX_hide2 fun R hR => ?_; simp [go_sem, g0, g3, g4, g5, hi, hg, hw1, hw2, hw3, hw0, hws, xindex, h1, h2, hd.1, hd.2, hn0, hn0i, hn0j, hnp, hb, hbi]; refine hR _ _ _ ?_; clear hR R)
          rw [seqX_nil]
          refine hK _ _ _ ?_; clear hK K
          refine hN8 _ _ _ ?_
          rw [xc_block]
          refine xc_two fun N9 hN9 => ?_
          refine xc_reg1 7 rfl fun K hK => ?_
          simp only [show (List.range 7).map (·, true) = [(0, true), (1, true), (2, true), (3, true), (4, true), (5, true), (6, true)] from rfl, rslv_cons, rslv_nil, List.getElem?_toArray, List.getElem?_cons_zero, List.getElem?_cons_succ, gres]
          iterate 7 (refine seqX_hide2 fun R hR => ?_; simp [go_sem, g0, g3, g4, g5, hi, hg, hw1, hw2, hw3, hw0, hws, xindex, h1, h2, hd.1, hd.2, hn0, hn0i, hn0j, hnp, hb, hbi]; refine hR _ _ _ ?_; clear hR R)
          rw [seqX_nil]
          refine hK _ _ _ ?_; clear hK K
          refine hN9 _ _ _ ?_
          refine xc_iftrue (by simp [go_sem, g0, g3, g4, g5, hi, hg, hw1, hw2, hw3, hw0, hws, xindex, h1, h2, hd.1, hd.2, hn0, hn0i, hn0j, hnp, hb, hbi]) ?_
          refine xc_two fun N10 hN10 => ?_
          refine xc_two fun N11 hN11 => ?_
          refine xc_reg1 14 rfl fun K hK => ?_
          simp only [show (List.range 14).map (·, true) = [(0, true), (1, true), (2, true), (3, true), (4, true), (5, true), (6, true), (7, true), (8, true), (9, true), (10, true), (11, true), (12, true), (13, true)] from rfl, rslv_cons, rslv_nil, List.getElem?_toArray, List.getElem?_cons_zero, List.getElem?_cons_succ, gres]
          iterate 14 (refine seqX_hide2 fun R hR => ?_; simp [go_sem, g0, g3, g4, g5, hi, hg, hw1, hw2, hw3, hw0, hws, xindex, h1, h2, hd.1, hd.2, hn0, hn0i, hn0j, hnp, hb, hbi]; refine hR _ _ _ ?_; clear hR R)
          rw [seqX_nil]
          refine hK _ _ _ ?_; clear hK K
          refine hN11 _ _ _ ?_
          refine xc_iftrue (by simp [go_sem, g0, g3, g4, g5, hi, hg, hw1, hw2, hw3, hw0, hws, xindex, h1, h2, hd.1, hd.2, hn0, hn0i, hn0j, hnp, hb, hbi]) ?_
          refine xc_two fun N12 hN12 => ?_
          refine xc_reg1 1 rfl fun K hK => ?_
          simp only [show (List.range 1).map (·, true) = [(0, true)] from rfl, rslv_cons, rslv_nil, List.getElem?_toArray, List.getElem?_cons_zero, List.getElem?_cons_succ, gres]
          (refine seqX_hide2 fun R hR => ?_; simp [go_sem, g0, g3, g4, g5, hi, hg, hw1, hw2, hw3, hw0, hws, xindex, h1, h2, hd.1, hd.2, hn0, hn0i, hn0j, hnp, hb, hbi]; refine hR _ _ _ ?_; clear hR R)
          rw [seqX_nil]
          refine hK _ _ _ ?_; clear hK K
          refine hN12 _ _ _ ?_
          refine hX1 _ _ _ _ ?_
          simp [go_sem, g0, g3, g4, g5, hi, hg, hw1, hw2, hw3, hw0, hws, xindex, h1, h2, hd.1, hd.2, hn0, hn0i, hn0j, hnp, hb, hbi]
          exact ⟨hwk.symm, rfl⟩
        · have hz1 : z = false := by rw [← hbz]; simpa using hb48
          have hbi : ¬ (b.toNat : Int) = 48 := fun h => hb48 (by apply UInt8.toNat_inj.1; show b.toNat = 48; omega)
          have hbi2 : ¬ b.toNat = 48 := by omega
          have hbi3 : ((b.toNat : Int) == 48) = false := by simpa using hbi
          rcases Nat.lt_or_ge 8 n with h8 | h8
          · have h8i : (8 : Int) < n := by omega
            rw [if_pos (.inr h8)] at hwk
            refine xc_two fun N5 hN5 => ?_
            refine xc_two fun N6 hN6 => ?_
            refine xc_reg1 4 rfl fun K hK => ?_
            simp only [show (List.range 4).map (·, true) = [(0, true), (1, true), (2, true), (3, true)] from rfl, rslv_cons, rslv_nil, List.getElem?_toArray, List.getElem?_cons_zero, List.getElem?_cons_succ, gres]
            iterate 4 (refine seqX_hide2 fun R hR => ?_; simp [go_sem, g0, g3, g4, g5, hi, hg, hw1, hw2, hw3, hw0, hws, xindex, h1, h2, hd.1, hd.2, hn0, hn0i, hn0j, hnp, hb, hbi, hbi2, hbi3, h8, h8i]; refine hR _ _ _ ?_; clear hR R)
            rw [seqX_nil]
            refine hK _ _ _ ?_; clear hK K
            refine hN6 _ _ _ ?_
            refine xc_iftrue (by simp [go_sem, g0, g3, g4, g5, hi, hg, hw1, hw2, hw3, hw0, hws, xindex, h1, h2, hd.1, hd.2, hn0, hn0i, hn0j, hnp, hb, hbi, hbi2, hbi3, h8, h8i]) ?_
            refine hN5 _ _ _ ?_
            refine xc_two fun N7 hN7 => ?_
            rw [xc_block]
            refine xc_two fun N8 hN8 => ?_
            refine xc_reg1 4 rfl fun K hK => ?_
            simp only [show (List.range 4).map (·, true) = [(0, true), (1, true), (2, true), (3, true)] from rfl, rslv_cons, rslv_nil, List.getElem?_toArray, List.getElem?_cons_zero, List.getElem?_cons_succ, gres]
            iterate 4 (refine seqX_hide2 fun R hR => ?_; simp [go_sem, g0, g3, g4, g5, hi, hg, hw1, hw2, hw3, hw0, hws, xindex, h1, h2, hd.1, hd.2, hn0, hn0i, hn0j, hnp, hb, hbi, hbi2, hbi3, h8, h8i]; refine hR _ _ _ ?_; clear hR R)
            rw [seqX_nil]
            refine hK _ _ _ ?_; clear hK K
            refine hN8 _ _ _ ?_
            rw [xc_block]
            refine xc_two fun N9 hN9 => ?_
            refine xc_reg1 7 rfl fun K hK => ?_
            simp only [show (List.range 7).map (·, true) = [(0, true), (1, true), (2, true), (3, true), (4, true), (5, true), (6, true)] from rfl, rslv_cons, rslv_nil, List.getElem?_toArray, List.getElem?_cons_zero, List.getElem?_cons_succ, gres]
            iterate 7 (refine seqX_hide2 fun R hR => ?_; simp [go_sem, g0, g3, g4, g5, hi, hg, hw1, hw2, hw3, hw0, hws, xindex, h1, h2, hd.1, hd.2, hn0, hn0i, hn0j, hnp, hb, hbi, hbi2, hbi3, h8, h8i]; refine hR _ _ _ ?_; clear hR R)
            rw [seqX_nil]
            refine hK _ _ _ ?_; clear hK K
            refine hN9 _ _ _ ?_
            refine xc_iftrue (by simp [go_sem, g0, g3, g4, g5, hi, hg, hw1, hw2, hw3, hw0, hws, xindex, h1, h2, hd.1, hd.2, hn0, hn0i, hn0j, hnp, hb, hbi, hbi2, hbi3, h8, h8i]) ?_
            refine xc_two fun N10 hN10 => ?_
            refine xc_two fun N11 hN11 => ?_
            refine xc_reg1 14 rfl fun K hK => ?_
            simp only [show (List.range 14).map (·, true) = [(0, true), (1, true), (2, true), (3, true), (4, true), (5, true), (6, true), (7, true), (8, true), (9, true), (10, true), (11, true), (12, true), (13, true)] from rfl, rslv_cons, rslv_nil, List.getElem?_toArray, List.getElem?_cons_zero, List.getElem?_cons_succ, gres]
            iterate 14 (refine seqX_hide2 fun R hR => ?_; simp [go_sem, g0, g3, g4, g5, hi, hg, hw1, hw2, hw3, hw0, hws, xindex, h1, h2, hd.1, hd.2, hn0, hn0i, hn0j, hnp, hb, hbi, hbi2, hbi3, h8, h8i]; refine hR _ _ _ ?_; clear hR R)
            rw [seqX_nil]
            refine hK _ _ _ ?_; clear hK K
            refine hN11 _ _ _ ?_
            refine xc_iftrue (by simp [go_sem, g0, g3, g4, g5, hi, hg, hw1, hw2, hw3, hw0, hws, xindex, h1, h2, hd.1, hd.2, hn0, hn0i, hn0j, hnp, hb, hbi, hbi2, hbi3, h8, h8i]) ?_
            refine xc_two fun N12 hN12 => ?_
            refine xc_reg1 1 rfl fun K hK => ?_
            simp only [show (List.range 1).map (·, true) = [(0, true)] from rfl, rslv_cons, rslv_nil, List.getElem?_toArray, List.getElem?_cons_zero, List.getElem?_cons_succ, gres]
            (refine seqX_hide2 fun R hR => ?_; simp [go_sem, g0, g3, g4, g5, hi, hg, hw1, hw2, hw3, hw0, hws, xindex, h1, h2, hd.1, hd.2, hn0, hn0i, hn0j, hnp, hb, hbi, hbi2, hbi3, h8, h8i]; refine hR _ _ _ ?_; clear hR R)
            rw [seqX_nil]
            refine hK _ _ _ ?_; clear hK K
            refine hN12 _ _ _ ?_
            refine hX1 _ _ _ _ ?_
            simp [go_sem, g0, g3, g4, g5, hi, hg, hw1, hw2, hw3, hw0, hws, xindex, h1, h2, hd.1, hd.2, hn0, hn0i, hn0j, hnp, hb, hbi, hbi2, hbi3, h8, h8i]
            exact ⟨hwk.symm, rfl⟩
          · have h8i : ¬ (8 : Int) < n := by omega
            have h8n : ¬ 8 < n := by omega
            rw [if_neg (by rintro (⟨_, h⟩ | h); · rw [hz1] at h; cases h
                           · omega), if_neg hn0] at hwk
            refine xc_two fun N5 hN5 => ?_
            refine xc_two fun N6 hN6 => ?_
            refine xc_reg1 4 rfl fun K hK => ?_
            simp only [show (List.range 4).map (·, true) = [(0, true), (1, true), (2, true), (3, true)] from rfl, rslv_cons, rslv_nil, List.getElem?_toArray, List.getElem?_cons_zero, List.getElem?_cons_succ, gres]
            iterate 4 (refine seqX_hide2 fun R hR => ?_; simp [go_sem, g0, g3, g4, g5, hi, hg, hw1, hw2, hw3, hw0, hws, xindex, h1, h2, hd.1, hd.2, hn0, hn0i, hn0j, hnp, hb, hbi, hbi2, hbi3, h8, h8i, h8n]; refine hR _ _ _ ?_; clear hR R)
            rw [seqX_nil]
            refine hK _ _ _ ?_; clear hK K
            refine hN6 _ _ _ ?_
            refine xc_iftrue (by simp [go_sem, g0, g3, g4, g5, hi, hg, hw1, hw2, hw3, hw0, hws, xindex, h1, h2, hd.1, hd.2, hn0, hn0i, hn0j, hnp, hb, hbi, hbi2, hbi3, h8, h8i, h8n]) ?_
            refine hN5 _ _ _ ?_
            refine xc_two fun N7 hN7 => ?_
            rw [xc_block]
            refine xc_two fun N8 hN8 => ?_
            refine xc_reg1 4 rfl fun K hK => ?_
            simp only [show (List.range 4).map (·, true) = [(0, true), (1, true), (2, true), (3, true)] from rfl, rslv_cons, rslv_nil, List.getElem?_toArray, List.getElem?_cons_zero, List.getElem?_cons_succ, gres]
            iterate 4 (refine seqX_hide2 fun R hR => ?_; simp [go_sem, g0, g3, g4, g5, hi, hg, hw1, hw2, hw3, hw0, hws, xindex, h1, h2, hd.1, hd.2, hn0, hn0i, hn0j, hnp, hb, hbi, hbi2, hbi3, h8, h8i, h8n]; refine hR _ _ _ ?_; clear hR R)
            rw [seqX_nil]
            refine hK _ _ _ ?_; clear hK K
            refine hN8 _ _ _ ?_
            rw [xc_block]
            refine xc_two fun N9 hN9 => ?_
            refine xc_reg1 7 rfl fun K hK => ?_
            simp only [show (List.range 7).map (·, true) = [(0, true), (1, true), (2, true), (3, true), (4, true), (5, true), (6, true)] from rfl, rslv_cons, rslv_nil, List.getElem?_toArray, List.getElem?_cons_zero, List.getElem?_cons_succ, gres]
            iterate 7 (refine seqX_hide2 fun R hR => ?_; simp [go_sem, g0, g3, g4, g5, hi, hg, hw1, hw2, hw3, hw0, hws, xindex, h1, h2, hd.1, hd.2, hn0, hn0i, hn0j, hnp, hb, hbi, hbi2, hbi3, h8, h8i, h8n]; refine hR _ _ _ ?_; clear hR R)
            rw [seqX_nil]
            refine hK _ _ _ ?_; clear hK K
            refine hN9 _ _ _ ?_
            refine xc_iftrue (by simp [go_sem, g0, g3, g4, g5, hi, hg, hw1, hw2, hw3, hw0, hws, xindex, h1, h2, hd.1, hd.2, hn0, hn0i, hn0j, hnp, hb, hbi, hbi2, hbi3, h8, h8i, h8n]) ?_
            refine xc_two fun N10 hN10 => ?_
            refine xc_two fun N11 hN11 => ?_
            refine xc_reg1 14 rfl fun K hK => ?_
            simp only [show (List.range 14).map (·, true) = [(0, true), (1, true), (2, true), (3, true), (4, true), (5, true), (6, true), (7, true), (8, true), (9, true), (10, true), (11, true), (12, true), (13, true)] from rfl, rslv_cons, rslv_nil, List.getElem?_toArray, List.getElem?_cons_zero, List.getElem?_cons_succ, gres]
            iterate 14 (refine seqX_hide2 fun R hR => ?_; simp [go_sem, g0, g3, g4, g5, hi, hg, hw1, hw2, hw3, hw0, hws, xindex, h1, h2, hd.1, hd.2, hn0, hn0i, hn0j, hnp, hb, hbi, hbi2, hbi3, h8, h8i, h8n]; refine hR _ _ _ ?_; clear hR R)
            rw [seqX_nil]
            refine hK _ _ _ ?_; clear hK K
            refine hN11 _ _ _ ?_
            refine xc_iffalse (by simp [go_sem, g0, g3, g4, g5, hi, hg, hw1, hw2, hw3, hw0, hws, xindex, h1, h2, hd.1, hd.2, hn0, hn0i, hn0j, hnp, hb, hbi, hbi2, hbi3, h8, h8i, h8n]) ?_
            refine hN10 _ _ _ ?_
            refine xc_reg1 3 rfl fun K hK => ?_
            simp only [show (List.range 3).map (·, true) = [(0, true), (1, true), (2, true)] from rfl, rslv_cons, rslv_nil, List.getElem?_toArray, List.getElem?_cons_zero, List.getElem?_cons_succ, gres]
            iterate 3 (refine seqX_hide2 fun R hR => ?_; simp [go_sem, g0, g3, g4, g5, hi, hg, hw1, hw2, hw3, hw0, hws, xindex, h1, h2, hd.1, hd.2, hn0, hn0i, hn0j, hnp, hb, hbi, hbi2, hbi3, h8, h8i, h8n]; refine hR _ _ _ ?_; clear hR R)
            rw [seqX_nil]
            refine hK _ _ _ ?_; clear hK K
            refine hN7 _ _ _ ?_
            refine xc_reg1 3 rfl fun K hK => ?_
            simp only [show (List.range 3).map (·, true) = [(0, true), (1, true), (2, true)] from rfl, rslv_cons, rslv_nil, List.getElem?_toArray, List.getElem?_cons_zero, List.getElem?_cons_succ, gres]
            iterate 3 (refine seqX_hide2 fun R hR => ?_; simp [go_sem, g0, g3, g4, g5, hi, hg, hw1, hw2, hw3, hw0, hws, xindex, h1, h2, hd.1, hd.2, hn0, hn0i, hn0j, hnp, hb, hbi, hbi2, hbi3, h8, h8i, h8n]; refine hR _ _ _ ?_; clear hR R)
            rw [seqX_nil]
            refine hK _ _ _ ?_; clear hK K
            refine hJ1 (s.size - (i + 1)) _ _ _ (by omega) ⟨i + 1, d, n + 1, z, rfl, rfl, rfl, hP, by simp [go_sem, g0, g3, g4, g5, hi, hg, hw1, hw2, hw3, hw0, hws, xindex, h1, h2, hd.1, hd.2, hn0, hn0i, hn0j, hnp, hb, hbi, hbi2, hbi3, h8, h8i, h8n], by simp [go_sem, g0, g3, g4, g5, hi, hg, hw1, hw2, hw3, hw0, hws, xindex, h1, h2, hd.1, hd.2, hn0, hn0i, hn0j, hnp, hb, hbi, hbi2, hbi3, h8, h8i, h8n], by simp [go_sem, g0, g3, g4, g5, hi, hg, hw1, hw2, hw3, hw0, hws, xindex, h1, h2, hd.1, hd.2, hn0, hn0i, hn0j, hnp, hb, hbi, hbi2, hbi3, h8, h8i, h8n], by simp [go_sem, g0, g3, g4, g5, hi, hg, hw1, hw2, hw3, hw0, hws, xindex, h1, h2, hd.1, hd.2, hn0, hn0i, hn0j, hnp, hb, hbi, hbi2, hbi3, h8, h8i, h8n], by omega, by omega, by omega, fun _ => ⟨b, by rw [show i + 1 - (n + 1) = i - n by omega]; exact hb, hbz⟩, hwk⟩
    · rw [if_neg hd] at hwk
      by_cases hc : s[i] = 46 ∧ n ≠ 0
      · rw [if_pos hc] at hwk
        have hci : (s[i].toNat : Int) = 46 := by rw [hc.1]; rfl
        have hn0i : ¬ (n : Int) = 0 := by omega
        have hn0j : ((n : Int) == 0) = false := by simp [hc.2]
        have hn0 := hc.2
        have hnp : 0 < n := by omega
        refine xc_two fun N5 hN5 => ?_
        refine xc_two fun N6 hN6 => ?_
        refine xc_reg1 4 rfl fun K hK => ?_
        simp only [show (List.range 4).map (·, true) = [(0, true), (1, true), (2, true), (3, true)] from rfl, rslv_cons, rslv_nil, List.getElem?_toArray, List.getElem?_cons_zero, List.getElem?_cons_succ, gres]
        iterate 4 (refine seqX_hide2 fun R hR => ?_; simp [go_sem, g0, g3, g4, g5, hi, hg, hw1, hw2, hw3, hw0, hws, xindex, hci, hn0i, hn0j, hn0, hnp]; refine hR _ _ _ ?_; clear hR R)
        rw [seqX_nil]
        refine hK _ _ _ ?_; clear hK K
        refine hN6 _ _ _ ?_
        refine xc_iftrue (by simp [go_sem, g0, g3, g4, g5, hi, hg, hw1, hw2, hw3, hw0, hws, xindex, hci, hn0i, hn0j, hn0, hnp]) ?_
        refine hN5 _ _ _ ?_
        refine xc_two fun N7 hN7 => ?_
        rw [xc_block]
        refine xc_two fun N8 hN8 => ?_
        refine xc_reg1 4 rfl fun K hK => ?_
        simp only [show (List.range 4).map (·, true) = [(0, true), (1, true), (2, true), (3, true)] from rfl, rslv_cons, rslv_nil, List.getElem?_toArray, List.getElem?_cons_zero, List.getElem?_cons_succ, gres]
        iterate 4 (refine seqX_hide2 fun R hR => ?_; simp [go_sem, g0, g3, g4, g5, hi, hg, hw1, hw2, hw3, hw0, hws, xindex, hci, hn0i, hn0j, hn0, hnp]; refine hR _ _ _ ?_; clear hR R)
        rw [seqX_nil]
        refine hK _ _ _ ?_; clear hK K
        refine hN8 _ _ _ ?_
        rw [xc_block]
        refine xc_two fun N9 hN9 => ?_
        refine xc_reg1 7 rfl fun K hK => ?_
        simp only [show (List.range 7).map (·, true) = [(0, true), (1, true), (2, true), (3, true), (4, true), (5, true), (6, true)] from rfl, rslv_cons, rslv_nil, List.getElem?_toArray, List.getElem?_cons_zero, List.getElem?_cons_succ, gres]
        iterate 7 (refine seqX_hide2 fun R hR => ?_; simp [go_sem, g0, g3, g4, g5, hi, hg, hw1, hw2, hw3, hw0, hws, xindex, hci, hn0i, hn0j, hn0, hnp]; refine hR _ _ _ ?_; clear hR R)
        rw [seqX_nil]
        refine hK _ _ _ ?_; clear hK K
        refine hN9 _ _ _ ?_
        refine xc_iffalse (by simp [go_sem, g0, g3, g4, g5, hi, hg, hw1, hw2, hw3, hw0, hws, xindex, hci, hn0i, hn0j, hn0, hnp]) ?_
        refine xc_two fun N10 hN10 => ?_
        refine xc_reg1 7 rfl fun K hK => ?_
        simp only [show (List.range 7).map (·, true) = [(0, true), (1, true), (2, true), (3, true), (4, true), (5, true), (6, true)] from rfl, rslv_cons, rslv_nil, List.getElem?_toArray, List.getElem?_cons_zero, List.getElem?_cons_succ, gres]
        iterate 7 (refine seqX_hide2 fun R hR => ?_; simp [go_sem, g0, g3, g4, g5, hi, hg, hw1, hw2, hw3, hw0, hws, xindex, hci, hn0i, hn0j, hn0, hnp]; refine hR _ _ _ ?_; clear hR R)
        rw [seqX_nil]
        refine hK _ _ _ ?_; clear hK K
        refine hN10 _ _ _ ?_
        refine xc_iftrue (by simp [go_sem, g0, g3, g4, g5, hi, hg, hw1, hw2, hw3, hw0, hws, xindex, hci, hn0i, hn0j, hn0, hnp]) ?_
        refine xc_reg1 4 rfl fun K hK => ?_
        simp only [show (List.range 4).map (·, true) = [(0, true), (1, true), (2, true), (3, true)] from rfl, rslv_cons, rslv_nil, List.getElem?_toArray, List.getElem?_cons_zero, List.getElem?_cons_succ, gres]
        iterate 4 (refine seqX_hide2 fun R hR => ?_; simp [go_sem, g0, g3, g4, g5, hi, hg, hw1, hw2, hw3, hw0, hws, xindex, hci, hn0i, hn0j, hn0, hnp]; refine hR _ _ _ ?_; clear hR R)
        rw [seqX_nil]
        refine hK _ _ _ ?_; clear hK K
        refine hN7 _ _ _ ?_
        refine xc_reg1 3 rfl fun K hK => ?_
        simp only [show (List.range 3).map (·, true) = [(0, true), (1, true), (2, true)] from rfl, rslv_cons, rslv_nil, List.getElem?_toArray, List.getElem?_cons_zero, List.getElem?_cons_succ, gres]
        iterate 3 (refine seqX_hide2 fun R hR => ?_; simp [go_sem, g0, g3, g4, g5, hi, hg, hw1, hw2, hw3, hw0, hws, xindex, hci, hn0i, hn0j, hn0, hnp]; refine hR _ _ _ ?_; clear hR R)
        rw [seqX_nil]
        refine hK _ _ _ ?_; clear hK K
        refine hJ1 (s.size - (i + 1)) _ _ _ (by omega) ⟨i + 1, d + 1, 0, z, rfl, rfl, rfl, hP, by simp [go_sem, g0, g3, g4, g5, hi, hg, hw1, hw2, hw3, hw0, hws, xindex, hci, hn0i, hn0j, hn0, hnp], by simp [go_sem, g0, g3, g4, g5, hi, hg, hw1, hw2, hw3, hw0, hws, xindex, hci, hn0i, hn0j, hn0, hnp], by simp [go_sem, g0, g3, g4, g5, hi, hg, hw1, hw2, hw3, hw0, hws, xindex, hci, hn0i, hn0j, hn0, hnp], by simp [go_sem, g0, g3, g4, g5, hi, hg, hw1, hw2, hw3, hw0, hws, xindex, hci, hn0i, hn0j, hn0, hnp], by omega, by omega, by omega, fun h => absurd rfl h, hwk⟩
      · rw [if_neg hc] at hwk
        have hdig : (48 ≤ (s[i].toNat : Int) ∧ (s[i].toNat : Int) ≤ 57) ↔ False := by
          constructor
          · intro h; exact hd (by omega)
          · intro h; exact h.elim
        have hdot : (((s[i].toNat : Int) == 46) && !((n : Int) == 0)) = false := by
          rw [Bool.eq_false_iff]
          intro h
          simp only [Bool.and_eq_true, beq_iff_eq, Bool.not_eq_true', beq_eq_false_iff_ne, ne_eq] at h
          exact hc ⟨by apply UInt8.toNat_inj.1; show s[i].toNat = 46; omega, by omega⟩
        rcases Int.lt_or_le (s[i].toNat : Int) 48 with h1 | h1
        · have h1n : ¬ (48 ≤ (s[i].toNat : Int)) := by omega
          have h1m : ¬ (48 ≤ s[i].toNat) := by omega
          by_cases h46 : (s[i].toNat : Int) = 46
          · have hn : n = 0 := by
              rcases Nat.eq_zero_or_pos n with h | h
              · exact h
              · exact absurd ⟨by apply UInt8.toNat_inj.1; show s[i].toNat = 46; omega, by omega⟩ hc
            subst hn
            refine xc_two fun N5 hN5 => ?_
            refine xc_two fun N6 hN6 => ?_
            refine xc_reg1 4 rfl fun K hK => ?_
            simp only [show (List.range 4).map (·, true) = [(0, true), (1, true), (2, true), (3, true)] from rfl, rslv_cons, rslv_nil, List.getElem?_toArray, List.getElem?_cons_zero, List.getElem?_cons_succ, gres]
            iterate 4 (refine seqX_hide2 fun R hR => ?_; simp [go_sem, g0, g3, g4, g5, hi, hg, hw1, hw2, hw3, hw0, hws, xindex, h1, h1n, h1m, h46]; refine hR _ _ _ ?_; clear hR R)
            rw [seqX_nil]
            refine hK _ _ _ ?_; clear hK K
            refine hN6 _ _ _ ?_
            refine xc_iftrue (by simp [go_sem, g0, g3, g4, g5, hi, hg, hw1, hw2, hw3, hw0, hws, xindex, h1, h1n, h1m, h46]) ?_
            refine hN5 _ _ _ ?_
            refine xc_two fun N7 hN7 => ?_
            rw [xc_block]
            refine xc_two fun N8 hN8 => ?_
            refine xc_reg1 4 rfl fun K hK => ?_
            simp only [show (List.range 4).map (·, true) = [(0, true), (1, true), (2, true), (3, true)] from rfl, rslv_cons, rslv_nil, List.getElem?_toArray, List.getElem?_cons_zero, List.getElem?_cons_succ, gres]
            iterate 4 (refine seqX_hide2 fun R hR => ?_; simp [go_sem, g0, g3, g4, g5, hi, hg, hw1, hw2, hw3, hw0, hws, xindex, h1, h1n, h1m, h46]; refine hR _ _ _ ?_; clear hR R)
            rw [seqX_nil]
            refine hK _ _ _ ?_; clear hK K
            refine hN8 _ _ _ ?_
            rw [xc_block]
            refine xc_two fun N9 hN9 => ?_
            refine xc_reg1 7 rfl fun K hK => ?_
            simp only [show (List.range 7).map (·, true) = [(0, true), (1, true), (2, true), (3, true), (4, true), (5, true), (6, true)] from rfl, rslv_cons, rslv_nil, List.getElem?_toArray, List.getElem?_cons_zero, List.getElem?_cons_succ, gres]
            iterate 7 (refine seqX_hide2 fun R hR => ?_; simp [go_sem, g0, g3, g4, g5, hi, hg, hw1, hw2, hw3, hw0, hws, xindex, h1, h1n, h1m, h46]; refine hR _ _ _ ?_; clear hR R)
            rw [seqX_nil]
            refine hK _ _ _ ?_; clear hK K
            refine hN9 _ _ _ ?_
            refine xc_iffalse (by simp [go_sem, g0, g3, g4, g5, hi, hg, hw1, hw2, hw3, hw0, hws, xindex, h1, h1n, h1m, h46]) ?_
            refine xc_two fun N10 hN10 => ?_
            refine xc_reg1 7 rfl fun K hK => ?_
            simp only [show (List.range 7).map (·, true) = [(0, true), (1, true), (2, true), (3, true), (4, true), (5, true), (6, true)] from rfl, rslv_cons, rslv_nil, List.getElem?_toArray, List.getElem?_cons_zero, List.getElem?_cons_succ, gres]
            iterate 7 (refine seqX_hide2 fun R hR => ?_; simp [go_sem, g0, g3, g4, g5, hi, hg, hw1, hw2, hw3, hw0, hws, xindex, h1, h1n, h1m, h46]; refine hR _ _ _ ?_; clear hR R)
            rw [seqX_nil]
            refine hK _ _ _ ?_; clear hK K
            refine hN10 _ _ _ ?_
            refine xc_iffalse (by simp [go_sem, g0, g3, g4, g5, hi, hg, hw1, hw2, hw3, hw0, hws, xindex, h1, h1n, h1m, h46]) ?_
            refine xc_two fun N11 hN11 => ?_
            refine xc_reg1 1 rfl fun K hK => ?_
            simp only [show (List.range 1).map (·, true) = [(0, true)] from rfl, rslv_cons, rslv_nil, List.getElem?_toArray, List.getElem?_cons_zero, List.getElem?_cons_succ, gres]
            (refine seqX_hide2 fun R hR => ?_; simp [go_sem, g0, g3, g4, g5, hi, hg, hw1, hw2, hw3, hw0, hws, xindex, h1, h1n, h1m, h46]; refine hR _ _ _ ?_; clear hR R)
            rw [seqX_nil]
            refine hK _ _ _ ?_; clear hK K
            refine hN11 _ _ _ ?_
            refine hX1 _ _ _ _ ?_
            simp [go_sem, g0, g3, g4, g5, hi, hg, hw1, hw2, hw3, hw0, hws, xindex, h1, h1n, h1m, h46]
            exact ⟨hwk.symm, rfl⟩
          · have h46i : ((s[i].toNat : Int) == 46) = false := by simpa using h46
            have h46n : ¬ s[i].toNat = 46 := by omega
            refine xc_two fun N5 hN5 => ?_
            refine xc_two fun N6 hN6 => ?_
            refine xc_reg1 4 rfl fun K hK => ?_
            simp only [show (List.range 4).map (·, true) = [(0, true), (1, true), (2, true), (3, true)] from rfl, rslv_cons, rslv_nil, List.getElem?_toArray, List.getElem?_cons_zero, List.getElem?_cons_succ, gres]
            iterate 4 (refine seqX_hide2 fun R hR => ?_; simp [go_sem, g0, g3, g4, g5, hi, hg, hw1, hw2, hw3, hw0, hws, xindex, h1, h1n, h1m, h46, h46i, h46n]; refine hR _ _ _ ?_; clear hR R)
            rw [seqX_nil]
            refine hK _ _ _ ?_; clear hK K
            refine hN6 _ _ _ ?_
            refine xc_iftrue (by simp [go_sem, g0, g3, g4, g5, hi, hg, hw1, hw2, hw3, hw0, hws, xindex, h1, h1n, h1m, h46, h46i, h46n]) ?_
            refine hN5 _ _ _ ?_
            refine xc_two fun N7 hN7 => ?_
            rw [xc_block]
            refine xc_two fun N8 hN8 => ?_
            refine xc_reg1 4 rfl fun K hK => ?_
            simp only [show (List.range 4).map (·, true) = [(0, true), (1, true), (2, true), (3, true)] from rfl, rslv_cons, rslv_nil, List.getElem?_toArray, List.getElem?_cons_zero, List.getElem?_cons_succ, gres]
            iterate 4 (refine seqX_hide2 fun R hR => ?_; simp [go_sem, g0, g3, g4, g5, hi, hg, hw1, hw2, hw3, hw0, hws, xindex, h1, h1n, h1m, h46, h46i, h46n]; refine hR _ _ _ ?_; clear hR R)
            rw [seqX_nil]
            refine hK _ _ _ ?_; clear hK K
            refine hN8 _ _ _ ?_
            rw [xc_block]
            refine xc_two fun N9 hN9 => ?_
            refine xc_reg1 7 rfl fun K hK => ?_
            simp only [show (List.range 7).map (·, true) = [(0, true), (1, true), (2, true), (3, true), (4, true), (5, true), (6, true)] from rfl, rslv_cons, rslv_nil, List.getElem?_toArray, List.getElem?_cons_zero, List.getElem?_cons_succ, gres]
            iterate 7 (refine seqX_hide2 fun R hR => ?_; simp [go_sem, g0, g3, g4, g5, hi, hg, hw1, hw2, hw3, hw0, hws, xindex, h1, h1n, h1m, h46, h46i, h46n]; refine hR _ _ _ ?_; clear hR R)
            rw [seqX_nil]
            refine hK _ _ _ ?_; clear hK K
            refine hN9 _ _ _ ?_
            refine xc_iffalse (by simp [go_sem, g0, g3, g4, g5, hi, hg, hw1, hw2, hw3, hw0, hws, xindex, h1, h1n, h1m, h46, h46i, h46n]) ?_
            refine xc_two fun N10 hN10 => ?_
            refine xc_reg1 7 rfl fun K hK => ?_
            simp only [show (List.range 7).map (·, true) = [(0, true), (1, true), (2, true), (3, true), (4, true), (5, true), (6, true)] from rfl, rslv_cons, rslv_nil, List.getElem?_toArray, List.getElem?_cons_zero, List.getElem?_cons_succ, gres]
            iterate 7 (refine seqX_hide2 fun R hR => ?_; simp [go_sem, g0, g3, g4, g5, hi, hg, hw1, hw2, hw3, hw0, hws, xindex, h1, h1n, h1m, h46, h46i, h46n]; refine hR _ _ _ ?_; clear hR R)
            rw [seqX_nil]
            refine hK _ _ _ ?_; clear hK K
            refine hN10 _ _ _ ?_
            refine xc_iffalse (by simp [go_sem, g0, g3, g4, g5, hi, hg, hw1, hw2, hw3, hw0, hws, xindex, h1, h1n, h1m, h46, h46i, h46n]) ?_
            refine xc_two fun N11 hN11 => ?_
            refine xc_reg1 1 rfl fun K hK => ?_
            simp only [show (List.range 1).map (·, true) = [(0, true)] from rfl, rslv_cons, rslv_nil, List.getElem?_toArray, List.getElem?_cons_zero, List.getElem?_cons_succ, gres]
            (refine seqX_hide2 fun R hR => ?_; simp [go_sem, g0, g3, g4, g5, hi, hg, hw1, hw2, hw3, hw0, hws, xindex, h1, h1n, h1m, h46, h46i, h46n]; refine hR _ _ _ ?_; clear hR R)
            rw [seqX_nil]
            refine hK _ _ _ ?_; clear hK K
            refine hN11 _ _ _ ?_
            refine hX1 _ _ _ _ ?_
            simp [go_sem, g0, g3, g4, g5, hi, hg, hw1, hw2, hw3, hw0, hws, xindex, h1, h1n, h1m, h46, h46i, h46n]
            exact ⟨hwk.symm, rfl⟩
        · have h57 : ¬ ((s[i].toNat : Int) ≤ 57) := by omega
          have h57n : ¬ (s[i].toNat ≤ 57) := by omega
          have h1n : 48 ≤ s[i].toNat := by omega
          have h46 : ¬ (s[i].toNat : Int) = 46 := by omega
          have h46i : ((s[i].toNat : Int) == 46) = false := by simp; omega
          have h46n : ¬ s[i].toNat = 46 := by omega
          refine xc_two fun N5 hN5 => ?_
          refine xc_two fun N6 hN6 => ?_
          refine xc_reg1 4 rfl fun K hK => ?_
          simp only [show (List.range 4).map (·, true) = [(0, true), (1, true), (2, true), (3, true)] from rfl, rslv_cons, rslv_nil, List.getElem?_toArray, List.getElem?_cons_zero, List.getElem?_cons_succ, gres]
          iterate 4 (refine seqX_hide2 fun R hR => ?_; simp [go_sem, g0, g3, g4, g5, hi, hg, hw1, hw2, hw3, hw0, hws, xindex, h1, h1n, h57, h57n, h46, h46i, h46n]; refine hR _ _ _ ?_; clear hR R)
          rw [seqX_nil]
          refine hK _ _ _ ?_; clear hK K
          refine hN6 _ _ _ ?_
          refine xc_iftrue (by simp [go_sem, g0, g3, g4, g5, hi, hg, hw1, hw2, hw3, hw0, hws, xindex, h1, h1n, h57, h57n, h46, h46i, h46n]) ?_
          refine hN5 _ _ _ ?_
          refine xc_two fun N7 hN7 => ?_
          rw [xc_block]
          refine xc_two fun N8 hN8 => ?_
          refine xc_reg1 4 rfl fun K hK => ?_
          simp only [show (List.range 4).map (·, true) = [(0, true), (1, true), (2, true), (3, true)] from rfl, rslv_cons, rslv_nil, List.getElem?_toArray, List.getElem?_cons_zero, List.getElem?_cons_succ, gres]
          iterate 4 (refine seqX_hide2 fun R hR => ?_; simp [go_sem, g0, g3, g4, g5, hi, hg, hw1, hw2, hw3, hw0, hws, xindex, h1, h1n, h57, h57n, h46, h46i, h46n]; refine hR _ _ _ ?_; clear hR R)
          rw [seqX_nil]
          refine hK _ _ _ ?_; clear hK K
          refine hN8 _ _ _ ?_
          rw [xc_block]
          refine xc_two fun N9 hN9 => ?_
          refine xc_reg1 7 rfl fun K hK => ?_
          simp only [show (List.range 7).map (·, true) = [(0, true), (1, true), (2, true), (3, true), (4, true), (5, true), (6, true)] from rfl, rslv_cons, rslv_nil, List.getElem?_toArray, List.getElem?_cons_zero, List.getElem?_cons_succ, gres]
          iterate 7 (refine seqX_hide2 fun R hR => ?_; simp [go_sem, g0, g3, g4, g5, hi, hg, hw1, hw2, hw3, hw0, hws, xindex, h1, h1n, h57, h57n, h46, h46i, h46n]; refine hR _ _ _ ?_; clear hR R)
          rw [seqX_nil]
          refine hK _ _ _ ?_; clear hK K
          refine hN9 _ _ _ ?_
          refine xc_iffalse (by simp [go_sem, g0, g3, g4, g5, hi, hg, hw1, hw2, hw3, hw0, hws, xindex, h1, h1n, h57, h57n, h46, h46i, h46n]) ?_
          refine xc_two fun N10 hN10 => ?_
          refine xc_reg1 7 rfl fun K hK => ?_
          simp only [show (List.range 7).map (·, true) = [(0, true), (1, true), (2, true), (3, true), (4, true), (5, true), (6, true)] from rfl, rslv_cons, rslv_nil, List.getElem?_toArray, List.getElem?_cons_zero, List.getElem?_cons_succ, gres]
          iterate 7 (refine seqX_hide2 fun R hR => ?_; simp [go_sem, g0, g3, g4, g5, hi, hg, hw1, hw2, hw3, hw0, hws, xindex, h1, h1n, h57, h57n, h46, h46i, h46n]; refine hR _ _ _ ?_; clear hR R)
          rw [seqX_nil]
          refine hK _ _ _ ?_; clear hK K
          refine hN10 _ _ _ ?_
          refine xc_iffalse (by simp [go_sem, g0, g3, g4, g5, hi, hg, hw1, hw2, hw3, hw0, hws, xindex, h1, h1n, h57, h57n, h46, h46i, h46n]) ?_
          refine xc_two fun N11 hN11 => ?_
          refine xc_reg1 1 rfl fun K hK => ?_
          simp only [show (List.range 1).map (·, true) = [(0, true)] from rfl, rslv_cons, rslv_nil, List.getElem?_toArray, List.getElem?_cons_zero, List.getElem?_cons_succ, gres]
          (refine seqX_hide2 fun R hR => ?_; simp [go_sem, g0, g3, g4, g5, hi, hg, hw1, hw2, hw3, hw0, hws, xindex, h1, h1n, h57, h57n, h46, h46i, h46n]; refine hR _ _ _ ?_; clear hR R)
          rw [seqX_nil]
          refine hK _ _ _ ?_; clear hK K
          refine hN11 _ _ _ ?_
          refine hX1 _ _ _ _ ?_
          simp [go_sem, g0, g3, g4, g5, hi, hg, hw1, hw2, hw3, hw0, hws, xindex, h1, h1n, h57, h57n, h46, h46i, h46n]
          exact ⟨hwk.symm, rfl⟩
  · rw [List.drop_of_length_le (by omega), pgo] at hwk
    by_cases hd2 : d = 2
    · subst hd2
      refine xc_two fun N5 hN5 => ?_
      refine xc_two fun N6 hN6 => ?_
      refine xc_reg1 4 rfl fun K hK => ?_
      simp only [show (List.range 4).map (·, true) = [(0, true), (1, true), (2, true), (3, true)] from rfl, rslv_cons, rslv_nil, List.getElem?_toArray, List.getElem?_cons_zero, List.getElem?_cons_succ, gres]
      iterate 4 (refine seqX_hide2 fun R hR => ?_; simp [go_sem, g0, g3, g4, g5, hi]; refine hR _ _ _ ?_; clear hR R)
      rw [seqX_nil]
      refine hK _ _ _ ?_; clear hK K
      refine hN6 _ _ _ ?_
      refine xc_iffalse (by simp [go_sem, g0, g3, g4, g5, hi]) ?_
      refine hX1 _ _ _ _ ?_
      refine hN3 _ _ _ ?_
      refine xc_two fun N7 hN7 => ?_
      refine xc_reg1 7 rfl fun K hK => ?_
      simp only [show (List.range 7).map (·, true) = [(0, true), (1, true), (2, true), (3, true), (4, true), (5, true), (6, true)] from rfl, rslv_cons, rslv_nil, List.getElem?_toArray, List.getElem?_cons_zero, List.getElem?_cons_succ, gres]
      iterate 7 (refine seqX_hide2 fun R hR => ?_; simp [go_sem, g0, g3, g4, g5, hi]; refine hR _ _ _ ?_; clear hR R)
      rw [seqX_nil]
      refine hK _ _ _ ?_; clear hK K
      refine hN7 _ _ _ ?_
      simp [go_sem, g0, g3, g4, g5, hi]
      rw [← hwk]
      refine ⟨?_, rfl⟩
      simp [Nat.pos_iff_ne_zero]
    · have hd2i : ((d : Int) == 2) = false := by simp; omega
      have hd2j : ¬ (d : Int) = 2 := by omega
      refine xc_two fun N5 hN5 => ?_
      refine xc_two fun N6 hN6 => ?_
      refine xc_reg1 4 rfl fun K hK => ?_
      simp only [show (List.range 4).map (·, true) = [(0, true), (1, true), (2, true), (3, true)] from rfl, rslv_cons, rslv_nil, List.getElem?_toArray, List.getElem?_cons_zero, List.getElem?_cons_succ, gres]
      iterate 4 (refine seqX_hide2 fun R hR => ?_; simp [go_sem, g0, g3, g4, g5, hi, hd2, hd2i, hd2j]; refine hR _ _ _ ?_; clear hR R)
      rw [seqX_nil]
      refine hK _ _ _ ?_; clear hK K
      refine hN6 _ _ _ ?_
      refine xc_iffalse (by simp [go_sem, g0, g3, g4, g5, hi, hd2, hd2i, hd2j]) ?_
      refine hX1 _ _ _ _ ?_
      refine hN3 _ _ _ ?_
      refine xc_two fun N7 hN7 => ?_
      refine xc_reg1 7 rfl fun K hK => ?_
      simp only [show (List.range 7).map (·, true) = [(0, true), (1, true), (2, true), (3, true), (4, true), (5, true), (6, true)] from rfl, rslv_cons, rslv_nil, List.getElem?_toArray, List.getElem?_cons_zero, List.getElem?_cons_succ, gres]
      iterate 7 (refine seqX_hide2 fun R hR => ?_; simp [go_sem, g0, g3, g4, g5, hi, hd2, hd2i, hd2j]; refine hR _ _ _ ?_; clear hR R)
      rw [seqX_nil]
      refine hK _ _ _ ?_; clear hK K
      refine hN7 _ _ _ ?_
      simp [go_sem, g0, g3, g4, g5, hi, hd2, hd2i, hd2j]
      rw [← hwk]
      refine ⟨?_, rfl⟩
      simp [hd2]
theorem plain64 (A : View) (s : ByteArray) (hs : s.size ≤ 2147483648) (h : VOK s) : VCalls Try.prog 64 #[.string s] A fun r A' => r = .bool true ∧ A' = A := by
  have := plain64g A s hs
  rw [vok_pgo h] at this
  exact this
end Go.Proofs.YtogfpbnbojhpoaaV

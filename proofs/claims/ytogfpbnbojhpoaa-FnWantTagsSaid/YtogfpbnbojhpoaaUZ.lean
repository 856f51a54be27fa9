/- Charts: plain versions. -/
import Derived.Test.YtogfpbnbojhpoaaUY
import Derived.Test.YtogfpbnbojhpoaaTP
namespace Go.Proofs.YtogfpbnbojhpoaaV
open Go.RowKit
set_option linter.unusedSimpArgs false
set_option linter.unusedVariables false
/-- A part of a plain version. -/
def PV (p : List UInt8) : Prop := (∀ b ∈ p, 48 ≤ b.toNat ∧ b.toNat ≤ 57) ∧ p ≠ [] ∧ p.length ≤ 9 ∧ (1 < p.length → p.head? ≠ some 48)
def VOK (s : ByteArray) : Prop := (parts s).length = 3 ∧ ∀ p ∈ parts s, PV (bl p)
def pgo : List UInt8 → Nat → Nat → Bool → Bool
  | [], d, n, _ => decide (d = 2) && decide (n ≠ 0)
  | b :: t, d, n, z => if 48 ≤ b.toNat ∧ b.toNat ≤ 57 then (if (n ≠ 0 ∧ z = true) ∨ 8 < n then false else pgo t d (n + 1) (if n = 0 then b == 48 else z)) else if b = 46 ∧ n ≠ 0 then pgo t (d + 1) 0 z else false
theorem pgo_run (t : List UInt8) (d : Nat) : ∀ (q : List UInt8) (n : Nat), 0 < n → (∀ b ∈ q, 48 ≤ b.toNat ∧ b.toNat ≤ 57) → n + q.length ≤ 9 → pgo (q ++ t) d n false = pgo t d (n + q.length) false
  | [], n, _, _, _ => by simp
  | b :: q, n, hn, hb, hl => by
    have h1 := hb b List.mem_cons_self
    simp only [List.length_cons] at hl ⊢
    rw [List.cons_append, pgo, if_pos h1, if_neg (by simp; omega), if_neg (by omega), pgo_run t d q (n + 1) (by omega) (fun x hx => hb x (List.mem_cons_of_mem _ hx)) (by omega)]
    rw [show n + 1 + q.length = n + (q.length + 1) by omega]
theorem pgo_part (t : List UInt8) (d : Nat) (p : List UInt8) (hp : PV p) (z : Bool) : ∃ n z', 0 < n ∧ pgo (p ++ t) d 0 z = pgo t d n z' := by
  obtain ⟨h1, h2, h3, h4⟩ := hp
  match p, h2 with
  | b :: q, _ =>
    have hb := h1 b List.mem_cons_self
    rw [List.cons_append, pgo, if_pos hb, if_neg (by simp), if_pos rfl]
    match q with
    | [] => exact ⟨1, _, by omega, rfl⟩
    | c :: q' =>
      have hb48 : (b == 48) = false := by
        have := h4 (by simp)
        simpa using this
      rw [hb48]
      exact ⟨_, false, by omega, pgo_run t d (c :: q') 1 (by omega) (fun x hx => h1 x (List.mem_cons_of_mem _ hx)) (by simp at h3 ⊢; omega)⟩
theorem split_first {c : UInt8} : ∀ {l a : List UInt8} {r : List (List UInt8)}, splitL c l = a :: r → (r = [] ∧ l = a) ∨ ∃ l', l = a ++ c :: l' ∧ splitL c l' = r
  | [], a, r, h => by
    simp only [splitL, List.cons.injEq] at h
    exact .inl ⟨h.2.symm, h.1⟩
  | b :: t, a, r, h => by
    unfold splitL at h
    split at h
    · rename_i hb
      subst hb
      simp only [List.cons.injEq] at h
      obtain ⟨rfl, rfl⟩ := h
      exact .inr ⟨t, rfl, rfl⟩
    · split at h
      · rename_i x y e
        simp only [List.cons.injEq] at h
        obtain ⟨rfl, rfl⟩ := h
        rcases split_first e with ⟨e1, e2⟩ | ⟨l', e1, e2⟩
        · exact .inl ⟨e1, by rw [e2]⟩
        · exact .inr ⟨l', by rw [e1]; rfl, e2⟩
      · rename_i e
        exfalso
        revert e
        cases t with
        | nil => simp [splitL]
        | cons x y =>
          unfold splitL
          split
          · simp
          · split <;> simp
theorem vok_pgo {s : ByteArray} (h : VOK s) : pgo (bl s) 0 0 false = true := by
  obtain ⟨h1, h2⟩ := h
  unfold parts at h1 h2
  rw [List.length_map] at h1
  match hs : splitL 46 (bl s), h1 with
  | [a, b, c], _ =>
    rw [hs] at h2
    have ha : PV a := h2 (mkB a) (by simp)
    have hb : PV b := h2 (mkB b) (by simp)
    have hc : PV c := h2 (mkB c) (by simp)
    rcases split_first hs with ⟨e, _⟩ | ⟨l1, e1, e2⟩
    · cases e
    rcases split_first e2 with ⟨e, _⟩ | ⟨l2, e3, e4⟩
    · cases e
    rcases split_first e4 with ⟨_, e5⟩ | ⟨l3, e5, e6⟩
    · rw [e1, e3, e5]
      obtain ⟨n1, z1, p1, q1⟩ := pgo_part (46 :: (b ++ 46 :: c)) 0 a ha false
      rw [q1, pgo, if_neg (by decide), if_pos ⟨rfl, by omega⟩]
      obtain ⟨n2, z2, p2, q2⟩ := pgo_part (46 :: c) (0 + 1) b hb z1
      rw [q2, pgo, if_neg (by decide), if_pos ⟨rfl, by omega⟩]
      obtain ⟨n3, z3, p3, q3⟩ := pgo_part [] (0 + 1 + 1) c hc z2
      rw [List.append_nil] at q3
      rw [q3, pgo]
      simp
      omega
    · cases l3 with
      | nil => simp [splitL] at e6
      | cons x y =>
        unfold splitL at e6
        split at e6
        · cases e6
        · split at e6 <;> cases e6
theorem bl_head (p : ByteArray) (h : 0 < p.size) : (bl p).head? = some p[0] := by
  rw [List.head?_eq_getElem?, bl_get p 0 h]
set_option maxRecDepth 20000 in
set_option maxHeartbeats 4000000 in
theorem version33 (A : View) (s : ByteArray) (hs : s.size ≤ 2147483648) : VCalls Try.prog 33 #[.string s] A fun r A' => FB (VOK s) r ∧ A ≤ A' := by
  refine xcalls Try.func33 rfl (by simp [Try.ntmps33]) ?_
  simp only [Try.f33]
  have hP : Priv A (addrs []) := Priv.nil A
  show xc _ _ _ _ _ _ (ov A [])
  refine xc_two fun N1 hN1 => ?_
  refine xc_reg1 1 rfl fun K hK => ?_
  simp only [show (List.range 1).map (·, true) = [(0, true)] from rfl, rslv_cons, rslv_nil, List.getElem?_toArray, List.getElem?_cons_zero, List.getElem?_cons_succ, gres]
  (refine seqX_hide2 fun R hR => ?_; simp [go_sem]; refine hR _ _ _ ?_; clear hR R)
  rw [seqX_nil]
  refine hK _ _ _ ?_; clear hK K
  refine hN1 _ _ _ ?_
  refine xc_two fun N2 hN2 => ?_
  refine xc_reg1 3 rfl fun K hK => ?_
  simp only [show (List.range 3).map (·, true) = [(0, true), (1, true), (2, true)] from rfl, rslv_cons, rslv_nil, List.getElem?_toArray, List.getElem?_cons_zero, List.getElem?_cons_succ, gres]
  (refine seqX_hide2 fun R hR => ?_; simp [go_sem]; refine hR _ _ _ ?_; clear hR R)
  refine seqX_hide2 fun R hR => ?_
  simp [go_sem]
  refine call_ov hP (names47 A s hs) ?_
  clear hP
  rintro v B ⟨hT, hAB⟩ hP
  obtain ⟨bs, cp, rfl⟩ := hT.slice
  have hpl := parts_length s
  have hLs : (bl s).length = s.size := bl_length s
  have hPs : ∀ p ∈ parts s, p.size ≤ s.size := fun p hp => by
    have hsz : ∀ (l : List UInt8), ∀ q ∈ splitL 46 l, q.length ≤ l.length := by
      intro l
      induction l with
      | nil => intro q hq; simp [splitL] at hq; simp [hq]
      | cons b t ih =>
        intro q hq
        unfold splitL at hq
        split at hq
        · rcases List.mem_cons.1 hq with rfl | hq
          · simp
          · have := ih q hq; simp; omega
        · split at hq
          · rename_i h r e
            rw [e] at ih
            rcases List.mem_cons.1 hq with rfl | hq
            · have := ih h List.mem_cons_self; simp; omega
            · have := ih q (List.mem_cons_of_mem _ hq); simp; omega
          · simp at hq; simp [hq]
    unfold parts at hp
    obtain ⟨q, hq, rfl⟩ := List.mem_map.1 hp
    have := hsz _ q hq
    rw [hLs] at this
    exact this
  refine hR _ _ _ ?_; clear hR R
  (refine seqX_hide2 fun R hR => ?_; simp [go_sem]; refine hR _ _ _ ?_; clear hR R)
  rw [seqX_nil]
  refine hK _ _ _ ?_; clear hK K
  refine hN2 _ _ _ ?_
  refine xc_two fun N3 hN3 => ?_
  refine xc_two fun N4 hN4 => ?_
  refine xc_reg1 3 rfl fun K hK => ?_
  simp only [show (List.range 3).map (·, true) = [(0, true), (1, true), (2, true)] from rfl, rslv_cons, rslv_nil, List.getElem?_toArray, List.getElem?_cons_zero, List.getElem?_cons_succ, gres]
  iterate 3 (refine seqX_hide2 fun R hR => ?_; simp [go_sem]; refine hR _ _ _ ?_; clear hR R)
  rw [seqX_nil]
  refine hK _ _ _ ?_; clear hK K
  refine hN4 _ _ _ ?_
  rw [xc_block]
  rw [xc_loop]
  refine vloopK (fun k' e ds A' => ∃ (j : Nat), k' = (parts s).length - j ∧ ds = [] ∧ A' = ov B [] ∧ Priv B [] ∧ e 3 = .slice bs (parts s).length cp ∧ e 9 = .slice bs (parts s).length cp ∧ e 10 = .int .i64 (parts s).length ∧ e 11 = .int .i64 j ∧ (j ≤ (parts s).length) ∧ (∀ p ∈ (parts s).take j, PV (bl p))) _ ⟨0, rfl, rfl, rfl, hP, by simp [go_sem], by simp [go_sem], by simp [go_sem], by simp [go_sem], by omega, fun p hp => by simp at hp⟩ ?_
  clear hP
  rintro k' e ds A' ⟨j, rfl, rfl, hV, hP, g3, g9, g10, g11, hjl, hok⟩ J1 X1 hJ1 hX1
  refine xc_sound _ ?_
  replace hV := Eq.symm hV; subst hV; replace hP : Priv B (addrs []) := hP
  have hw1 := wrap_nat (i := j) (by omega)
  by_cases hj : j < (parts s).length
  · obtain ⟨a, cap, f1, u1⟩ := hT.at' hj
    simp only [Value.slice.injEq] at f1
    obtain ⟨rfl, -, rfl⟩ := f1
    have hps := hPs _ (List.getElem_mem hj)
    have htk : (parts s).take (j + 1) = (parts s).take j ++ [(parts s)[j]] := List.take_succ_eq_append_getElem hj
    refine xc_two fun N5 hN5 => ?_
    refine xc_reg1 1 rfl fun K hK => ?_
    simp only [show (List.range 1).map (·, true) = [(0, true)] from rfl, rslv_cons, rslv_nil, List.getElem?_toArray, List.getElem?_cons_zero, List.getElem?_cons_succ, gres]
    (refine seqX_hide2 fun R hR => ?_; simp [go_sem, g3, g9, g10, g11, hj, hw1, bc hP u1]; refine hR _ _ _ ?_; clear hR R)
    rw [seqX_nil]
    refine hK _ _ _ ?_; clear hK K
    refine hN5 _ _ _ ?_
    refine xc_two fun N6 hN6 => ?_
    refine xc_iftrue (by simp [go_sem, g3, g9, g10, g11, hj, hw1, bc hP u1]) ?_
    refine hN6 _ _ _ ?_
    refine xc_two fun N7 hN7 => ?_
    rw [xc_block]
    refine xc_two fun N8 hN8 => ?_
    refine xc_reg1 3 rfl fun K hK => ?_
    simp only [show (List.range 3).map (·, true) = [(0, true), (1, true), (2, true)] from rfl, rslv_cons, rslv_nil, List.getElem?_toArray, List.getElem?_cons_zero, List.getElem?_cons_succ, gres]
    iterate 3 (refine seqX_hide2 fun R hR => ?_; simp [go_sem, g3, g9, g10, g11, hj, hw1, bc hP u1]; refine hR _ _ _ ?_; clear hR R)
    rw [seqX_nil]
    refine hK _ _ _ ?_; clear hK K
    refine hN8 _ _ _ ?_
    refine xc_two fun N9 hN9 => ?_
    refine xc_two fun N10 hN10 => ?_
    refine xc_reg1 3 rfl fun K hK => ?_
    simp only [show (List.range 3).map (·, true) = [(0, true), (1, true), (2, true)] from rfl, rslv_cons, rslv_nil, List.getElem?_toArray, List.getElem?_cons_zero, List.getElem?_cons_succ, gres]
    iterate 3 (refine seqX_hide2 fun R hR => ?_; simp [go_sem, g3, g9, g10, g11, hj, hw1, bc hP u1]; refine hR _ _ _ ?_; clear hR R)
    rw [seqX_nil]
    refine hK _ _ _ ?_; clear hK K
    refine hN10 _ _ _ ?_
    rw [xc_block]
    generalize (parts s)[j] = p at hps htk ⊢
    rw [xc_loop]
    refine vloopK (fun k' e ds A' => ∃ (i : Nat), k' = p.size - i ∧ ds = [] ∧ A' = ov B [] ∧ Priv B [] ∧ e 3 = .slice (some a) (parts s).length cp ∧ e 9 = .slice (some a) (parts s).length cp ∧ e 10 = .int .i64 (parts s).length ∧ e 11 = .int .i64 j ∧ e 5 = .string p ∧ e 16 = .int .i64 p.size ∧ e 17 = .int .i64 i ∧ (i ≤ p.size) ∧ (∀ b ∈ (bl p).take i, 48 ≤ b.toNat ∧ b.toNat ≤ 57)) _ ⟨0, rfl, rfl, rfl, hP, by simp [go_sem, g3, g9, g10, g11, hj, hw1, bc hP u1], by simp [go_sem, g3, g9, g10, g11, hj, hw1, bc hP u1], by simp [go_sem, g3, g9, g10, g11, hj, hw1, bc hP u1], by simp [go_sem, g3, g9, g10, g11, hj, hw1, bc hP u1], by simp [go_sem, g3, g9, g10, g11, hj, hw1, bc hP u1], by simp [go_sem, g3, g9, g10, g11, hj, hw1, bc hP u1], by simp [go_sem, g3, g9, g10, g11, hj, hw1, bc hP u1], by omega, fun b hb => by simp at hb⟩ ?_
    clear g3 g9 g10 g11
    clear hP
    rintro k' e ds A' ⟨i, rfl, rfl, hV, hP, g3, g9, g10, g11, g5, g16, g17, hil, hdg⟩ J2 X2 hJ2 hX2
    refine xc_sound _ ?_
    replace hV := Eq.symm hV; subst hV; replace hP : Priv B (addrs []) := hP
    have hw2 := wrap_nat (i := i) (by omega)
    by_cases hi : i < p.size
    · have hg : p[i]? = some p[i] := getElem?_pos p i hi
      rcases Int.lt_or_le (p[i].toNat : Int) 48 with h1 | h1
      · skip
        refine xc_two fun N11 hN11 => ?_
        refine xc_reg1 1 rfl fun K hK => ?_
        simp only [show (List.range 1).map (·, true) = [(0, true)] from rfl, rslv_cons, rslv_nil, List.getElem?_toArray, List.getElem?_cons_zero, List.getElem?_cons_succ, gres]
        (refine seqX_hide2 fun R hR => ?_; simp [go_sem, hj, hw1, bc hP u1, g3, g9, g10, g11, g5, g16, g17, hi, hg, hw2, xindex, h1]; refine hR _ _ _ ?_; clear hR R)
        rw [seqX_nil]
        refine hK _ _ _ ?_; clear hK K
        refine hN11 _ _ _ ?_
        refine xc_two fun N12 hN12 => ?_
        refine xc_iftrue (by simp [go_sem, hj, hw1, bc hP u1, g3, g9, g10, g11, g5, g16, g17, hi, hg, hw2, xindex, h1]) ?_
        refine hN12 _ _ _ ?_
        refine xc_two fun N13 hN13 => ?_
        rw [xc_block]
        refine xc_two fun N14 hN14 => ?_
        refine xc_reg1 2 rfl fun K hK => ?_
        simp only [show (List.range 2).map (·, true) = [(0, true), (1, true)] from rfl, rslv_cons, rslv_nil, List.getElem?_toArray, List.getElem?_cons_zero, List.getElem?_cons_succ, gres]
        iterate 2 (refine seqX_hide2 fun R hR => ?_; simp [go_sem, hj, hw1, bc hP u1, g3, g9, g10, g11, g5, g16, g17, hi, hg, hw2, xindex, h1]; refine hR _ _ _ ?_; clear hR R)
        rw [seqX_nil]
        refine hK _ _ _ ?_; clear hK K
        refine hN14 _ _ _ ?_
        refine xc_two fun N15 hN15 => ?_
        refine xc_reg1 10 rfl fun K hK => ?_
        simp only [show (List.range 10).map (·, true) = [(0, true), (1, true), (2, true), (3, true), (4, true), (5, true), (6, true), (7, true), (8, true), (9, true)] from rfl, rslv_cons, rslv_nil, List.getElem?_toArray, List.getElem?_cons_zero, List.getElem?_cons_succ, gres]
        iterate 10 (refine seqX_hide2 fun R hR => ?_; simp [go_sem, hj, hw1, bc hP u1, g3, g9, g10, g11, g5, g16, g17, hi, hg, hw2, xindex, h1]; refine hR _ _ _ ?_; clear hR R)
        rw [seqX_nil]
        refine hK _ _ _ ?_; clear hK K
        refine hN15 _ _ _ ?_
        refine xc_iftrue (by simp [go_sem, hj, hw1, bc hP u1, g3, g9, g10, g11, g5, g16, g17, hi, hg, hw2, xindex, h1]) ?_
        refine xc_two fun N16 hN16 => ?_
        refine xc_reg1 1 rfl fun K hK => ?_
        simp only [show (List.range 1).map (·, true) = [(0, true)] from rfl, rslv_cons, rslv_nil, List.getElem?_toArray, List.getElem?_cons_zero, List.getElem?_cons_succ, gres]
        (refine seqX_hide2 fun R hR => ?_; simp [go_sem, hj, hw1, bc hP u1, g3, g9, g10, g11, g5, g16, g17, hi, hg, hw2, xindex, h1]; refine hR _ _ _ ?_; clear hR R)
        rw [seqX_nil]
        refine hK _ _ _ ?_; clear hK K
        refine hN16 _ _ _ ?_
        refine hX2 _ _ _ _ ?_
        refine hX1 _ _ _ _ ?_
        simp [go_sem, hj, hw1, bc hP u1, g3, g9, g10, g11, g5, g16, g17, hi, hg, hw2, xindex, h1]
        exact ⟨FB.no _, hAB⟩
      have h1n : ¬ ((p[i].toNat : Int) < 48) := by omega
      rcases Int.lt_or_le 57 (p[i].toNat : Int) with h2 | h2
      · skip
        refine xc_two fun N11 hN11 => ?_
        refine xc_reg1 1 rfl fun K hK => ?_
        simp only [show (List.range 1).map (·, true) = [(0, true)] from rfl, rslv_cons, rslv_nil, List.getElem?_toArray, List.getElem?_cons_zero, List.getElem?_cons_succ, gres]
        (refine seqX_hide2 fun R hR => ?_; simp [go_sem, hj, hw1, bc hP u1, g3, g9, g10, g11, g5, g16, g17, hi, hg, hw2, xindex, h1, h1n, h2]; refine hR _ _ _ ?_; clear hR R)
        rw [seqX_nil]
        refine hK _ _ _ ?_; clear hK K
        refine hN11 _ _ _ ?_
        refine xc_two fun N12 hN12 => ?_
        refine xc_iftrue (by simp [go_sem, hj, hw1, bc hP u1, g3, g9, g10, g11, g5, g16, g17, hi, hg, hw2, xindex, h1, h1n, h2]) ?_
        refine hN12 _ _ _ ?_
        refine xc_two fun N13 hN13 => ?_
        rw [xc_block]
        refine xc_two fun N14 hN14 => ?_
        refine xc_reg1 2 rfl fun K hK => ?_
        simp only [show (List.range 2).map (·, true) = [(0, true), (1, true)] from rfl, rslv_cons, rslv_nil, List.getElem?_toArray, List.getElem?_cons_zero, List.getElem?_cons_succ, gres]
        iterate 2 (refine seqX_hide2 fun R hR => ?_; simp [go_sem, hj, hw1, bc hP u1, g3, g9, g10, g11, g5, g16, g17, hi, hg, hw2, xindex, h1, h1n, h2]; refine hR _ _ _ ?_; clear hR R)
        rw [seqX_nil]
        refine hK _ _ _ ?_; clear hK K
        refine hN14 _ _ _ ?_
        refine xc_two fun N15 hN15 => ?_
        refine xc_reg1 10 rfl fun K hK => ?_
        simp only [show (List.range 10).map (·, true) = [(0, true), (1, true), (2, true), (3, true), (4, true), (5, true), (6, true), (7, true), (8, true), (9, true)] from rfl, rslv_cons, rslv_nil, List.getElem?_toArray, List.getElem?_cons_zero, List.getElem?_cons_succ, gres]
        iterate 10 (refine seqX_hide2 fun R hR => ?_; simp [go_sem, hj, hw1, bc hP u1, g3, g9, g10, g11, g5, g16, g17, hi, hg, hw2, xindex, h1, h1n, h2]; refine hR _ _ _ ?_; clear hR R)
        rw [seqX_nil]
        refine hK _ _ _ ?_; clear hK K
        refine hN15 _ _ _ ?_
        refine xc_iftrue (by simp [go_sem, hj, hw1, bc hP u1, g3, g9, g10, g11, g5, g16, g17, hi, hg, hw2, xindex, h1, h1n, h2]) ?_
        refine xc_two fun N16 hN16 => ?_
        refine xc_reg1 1 rfl fun K hK => ?_
        simp only [show (List.range 1).map (·, true) = [(0, true)] from rfl, rslv_cons, rslv_nil, List.getElem?_toArray, List.getElem?_cons_zero, List.getElem?_cons_succ, gres]
        (refine seqX_hide2 fun R hR => ?_; simp [go_sem, hj, hw1, bc hP u1, g3, g9, g10, g11, g5, g16, g17, hi, hg, hw2, xindex, h1, h1n, h2]; refine hR _ _ _ ?_; clear hR R)
        rw [seqX_nil]
        refine hK _ _ _ ?_; clear hK K
        refine hN16 _ _ _ ?_
        refine hX2 _ _ _ _ ?_
        refine hX1 _ _ _ _ ?_
        simp [go_sem, hj, hw1, bc hP u1, g3, g9, g10, g11, g5, g16, g17, hi, hg, hw2, xindex, h1, h1n, h2]
        exact ⟨FB.no _, hAB⟩
      have h2n : ¬ (57 < (p[i].toNat : Int)) := by omega
      refine xc_two fun N11 hN11 => ?_
      refine xc_reg1 1 rfl fun K hK => ?_
      simp only [show (List.range 1).map (·, true) = [(0, true)] from rfl, rslv_cons, rslv_nil, List.getElem?_toArray, List.getElem?_cons_zero, List.getElem?_cons_succ, gres]
      (refine seqX_hide2 fun R hR => ?_; simp [go_sem, hj, hw1, bc hP u1, g3, g9, g10, g11, g5, g16, g17, hi, hg, hw2, xindex, h1, h1n, h2, h2n]; refine hR _ _ _ ?_; clear hR R)
      rw [seqX_nil]
      refine hK _ _ _ ?_; clear hK K
      refine hN11 _ _ _ ?_
      refine xc_two fun N12 hN12 => ?_
      refine xc_iftrue (by simp [go_sem, hj, hw1, bc hP u1, g3, g9, g10, g11, g5, g16, g17, hi, hg, hw2, xindex, h1, h1n, h2, h2n]) ?_
      refine hN12 _ _ _ ?_
      refine xc_two fun N13 hN13 => ?_
      rw [xc_block]
      refine xc_two fun N14 hN14 => ?_
      refine xc_reg1 2 rfl fun K hK => ?_
      simp only [show (List.range 2).map (·, true) = [(0, true), (1, true)] from rfl, rslv_cons, rslv_nil, List.getElem?_toArray, List.getElem?_cons_zero, List.getElem?_cons_succ, gres]
      iterate 2 (refine seqX_hide2 fun R hR => ?_; simp [go_sem, hj, hw1, bc hP u1, g3, g9, g10, g11, g5, g16, g17, hi, hg, hw2, xindex, h1, h1n, h2, h2n]; refine hR _ _ _ ?_; clear hR R)
      rw [seqX_nil]
      refine hK _ _ _ ?_; clear hK K
      refine hN14 _ _ _ ?_
      refine xc_two fun N15 hN15 => ?_
      refine xc_reg1 10 rfl fun K hK => ?_
      simp only [show (List.range 10).map (·, true) = [(0, true), (1, true), (2, true), (3, true), (4, true), (5, true), (6, true), (7, true), (8, true), (9, true)] from rfl, rslv_cons, rslv_nil, List.getElem?_toArray, List.getElem?_cons_zero, List.getElem?_cons_succ, gres]
      iterate 10 (refine seqX_hide2 fun R hR => ?_; simp [go_sem, hj, hw1, bc hP u1, g3, g9, g10, g11, g5, g16, g17, hi, hg, hw2, xindex, h1, h1n, h2, h2n]; refine hR _ _ _ ?_; clear hR R)
      rw [seqX_nil]
      refine hK _ _ _ ?_; clear hK K
      refine hN15 _ _ _ ?_
      refine xc_iffalse (by simp [go_sem, hj, hw1, bc hP u1, g3, g9, g10, g11, g5, g16, g17, hi, hg, hw2, xindex, h1, h1n, h2, h2n]) ?_
      refine hN13 _ _ _ ?_
      refine xc_reg1 2 rfl fun K hK => ?_
      simp only [show (List.range 2).map (·, true) = [(0, true), (1, true)] from rfl, rslv_cons, rslv_nil, List.getElem?_toArray, List.getElem?_cons_zero, List.getElem?_cons_succ, gres]
      iterate 2 (refine seqX_hide2 fun R hR => ?_; simp [go_sem, hj, hw1, bc hP u1, g3, g9, g10, g11, g5, g16, g17, hi, hg, hw2, xindex, h1, h1n, h2, h2n]; refine hR _ _ _ ?_; clear hR R)
      rw [seqX_nil]
      refine hK _ _ _ ?_; clear hK K
      refine hJ2 (p.size - (i + 1)) _ _ _ (by omega) ⟨i + 1, rfl, rfl, rfl, hP, by simp [go_sem, hj, hw1, bc hP u1, g3, g9, g10, g11, g5, g16, g17, hi, hg, hw2, xindex], by simp [go_sem, hj, hw1, bc hP u1, g3, g9, g10, g11, g5, g16, g17, hi, hg, hw2, xindex], by simp [go_sem, hj, hw1, bc hP u1, g3, g9, g10, g11, g5, g16, g17, hi, hg, hw2, xindex], by simp [go_sem, hj, hw1, bc hP u1, g3, g9, g10, g11, g5, g16, g17, hi, hg, hw2, xindex], by simp [go_sem, hj, hw1, bc hP u1, g3, g9, g10, g11, g5, g16, g17, hi, hg, hw2, xindex], by simp [go_sem, hj, hw1, bc hP u1, g3, g9, g10, g11, g5, g16, g17, hi, hg, hw2, xindex], by simp [go_sem, hj, hw1, bc hP u1, g3, g9, g10, g11, g5, g16, g17, hi, hg, hw2, xindex], by omega, fun b hb => ?_⟩
      rw [List.take_add_one, bl_get p i hi, List.mem_append] at hb
      rcases hb with hb | hb
      · exact hdg b hb
      · simp at hb
        subst hb
        omega
    · have hall : ∀ b ∈ bl p, 48 ≤ b.toNat ∧ b.toNat ≤ 57 := fun b hb => hdg b (by rw [List.take_of_length_le (by rw [bl_length]; omega)]; exact hb)
      cases he : p.toList.isEmpty with
      | true =>
        refine xc_two fun N11 hN11 => ?_
        refine xc_reg1 1 rfl fun K hK => ?_
        simp only [show (List.range 1).map (·, true) = [(0, true)] from rfl, rslv_cons, rslv_nil, List.getElem?_toArray, List.getElem?_cons_zero, List.getElem?_cons_succ, gres]
        (refine seqX_hide2 fun R hR => ?_; simp [go_sem, hj, hw1, bc hP u1, g3, g9, g10, g11, g5, g16, g17, hi, xindex, he]; refine hR _ _ _ ?_; clear hR R)
        rw [seqX_nil]
        refine hK _ _ _ ?_; clear hK K
        refine hN11 _ _ _ ?_
        refine xc_two fun N12 hN12 => ?_
        refine xc_iffalse (by simp [go_sem, hj, hw1, bc hP u1, g3, g9, g10, g11, g5, g16, g17, hi, xindex, he]) ?_
        refine hX2 _ _ _ _ ?_
        refine hN9 _ _ _ ?_
        refine xc_two fun N13 hN13 => ?_
        refine xc_reg1 17 rfl fun K hK => ?_
        simp only [show (List.range 17).map (·, true) = [(0, true), (1, true), (2, true), (3, true), (4, true), (5, true), (6, true), (7, true), (8, true), (9, true), (10, true), (11, true), (12, true), (13, true), (14, true), (15, true), (16, true)] from rfl, rslv_cons, rslv_nil, List.getElem?_toArray, List.getElem?_cons_zero, List.getElem?_cons_succ, gres]
        iterate 17 (refine seqX_hide2 fun R hR => ?_; simp [go_sem, hj, hw1, bc hP u1, g3, g9, g10, g11, g5, g16, g17, hi, xindex, he]; refine hR _ _ _ ?_; clear hR R)
        rw [seqX_nil]
        refine hK _ _ _ ?_; clear hK K
        refine hN13 _ _ _ ?_
        refine xc_iftrue (by simp [go_sem, hj, hw1, bc hP u1, g3, g9, g10, g11, g5, g16, g17, hi, xindex, he]) ?_
        refine xc_two fun N14 hN14 => ?_
        refine xc_reg1 1 rfl fun K hK => ?_
        simp only [show (List.range 1).map (·, true) = [(0, true)] from rfl, rslv_cons, rslv_nil, List.getElem?_toArray, List.getElem?_cons_zero, List.getElem?_cons_succ, gres]
        (refine seqX_hide2 fun R hR => ?_; simp [go_sem, hj, hw1, bc hP u1, g3, g9, g10, g11, g5, g16, g17, hi, xindex, he]; refine hR _ _ _ ?_; clear hR R)
        rw [seqX_nil]
        refine hK _ _ _ ?_; clear hK K
        refine hN14 _ _ _ ?_
        refine hX1 _ _ _ _ ?_
        simp [go_sem, hj, hw1, bc hP u1, g3, g9, g10, g11, g5, g16, g17, hi, xindex, he]
        exact ⟨FB.no _, hAB⟩
      | false =>
      have h0 : 0 < p.size := by
        rcases Nat.eq_zero_or_pos p.size with h | h
        · exfalso
          obtain rfl : p = ⟨#[]⟩ := ByteArray.ext (Array.eq_empty_of_size_eq_zero h)
          exact absurd (show (ByteArray.mk #[]).toList.isEmpty = true by kernel_rfl) (by rw [he]; decide)
        · exact h
      have hg0 : p[0]? = some p[0] := getElem?_pos p 0 h0
      rcases Int.lt_or_le 9 (p.size : Int) with h1 | h1
      · skip
        refine xc_two fun N11 hN11 => ?_
        refine xc_reg1 1 rfl fun K hK => ?_
        simp only [show (List.range 1).map (·, true) = [(0, true)] from rfl, rslv_cons, rslv_nil, List.getElem?_toArray, List.getElem?_cons_zero, List.getElem?_cons_succ, gres]
        (refine seqX_hide2 fun R hR => ?_; simp [go_sem, hj, hw1, bc hP u1, g3, g9, g10, g11, g5, g16, g17, hi, xindex, he, h1]; refine hR _ _ _ ?_; clear hR R)
        rw [seqX_nil]
        refine hK _ _ _ ?_; clear hK K
        refine hN11 _ _ _ ?_
        refine xc_two fun N12 hN12 => ?_
        refine xc_iffalse (by simp [go_sem, hj, hw1, bc hP u1, g3, g9, g10, g11, g5, g16, g17, hi, xindex, he, h1]) ?_
        refine hX2 _ _ _ _ ?_
        refine hN9 _ _ _ ?_
        refine xc_two fun N13 hN13 => ?_
        refine xc_reg1 17 rfl fun K hK => ?_
        simp only [show (List.range 17).map (·, true) = [(0, true), (1, true), (2, true), (3, true), (4, true), (5, true), (6, true), (7, true), (8, true), (9, true), (10, true), (11, true), (12, true), (13, true), (14, true), (15, true), (16, true)] from rfl, rslv_cons, rslv_nil, List.getElem?_toArray, List.getElem?_cons_zero, List.getElem?_cons_succ, gres]
        iterate 17 (refine seqX_hide2 fun R hR => ?_; simp [go_sem, hj, hw1, bc hP u1, g3, g9, g10, g11, g5, g16, g17, hi, xindex, he, h1]; refine hR _ _ _ ?_; clear hR R)
        rw [seqX_nil]
        refine hK _ _ _ ?_; clear hK K
        refine hN13 _ _ _ ?_
        refine xc_iftrue (by simp [go_sem, hj, hw1, bc hP u1, g3, g9, g10, g11, g5, g16, g17, hi, xindex, he, h1]) ?_
        refine xc_two fun N14 hN14 => ?_
        refine xc_reg1 1 rfl fun K hK => ?_
        simp only [show (List.range 1).map (·, true) = [(0, true)] from rfl, rslv_cons, rslv_nil, List.getElem?_toArray, List.getElem?_cons_zero, List.getElem?_cons_succ, gres]
        (refine seqX_hide2 fun R hR => ?_; simp [go_sem, hj, hw1, bc hP u1, g3, g9, g10, g11, g5, g16, g17, hi, xindex, he, h1]; refine hR _ _ _ ?_; clear hR R)
        rw [seqX_nil]
        refine hK _ _ _ ?_; clear hK K
        refine hN14 _ _ _ ?_
        refine hX1 _ _ _ _ ?_
        simp [go_sem, hj, hw1, bc hP u1, g3, g9, g10, g11, g5, g16, g17, hi, xindex, he, h1]
        exact ⟨FB.no _, hAB⟩
      have h1n : ¬ (9 < (p.size : Int)) := by omega
      have h1m : ¬ (9 < p.size) := by omega
      rcases Nat.lt_or_ge 1 p.size with h2 | h2
      · have h2i : (1 : Int) < p.size := by omega
        by_cases h3 : (p[0].toNat : Int) = 48
        · skip
          refine xc_two fun N11 hN11 => ?_
          refine xc_reg1 1 rfl fun K hK => ?_
          simp only [show (List.range 1).map (·, true) = [(0, true)] from rfl, rslv_cons, rslv_nil, List.getElem?_toArray, List.getElem?_cons_zero, List.getElem?_cons_succ, gres]
          (refine seqX_hide2 fun R hR => ?_; simp [go_sem, hj, hw1, bc hP u1, g3, g9, g10, g11, g5, g16, g17, hi, xindex, he, h1, h1n, h1m, h2, h2i, h3, hg0]; refine hR _ _ _ ?_; clear hR R)
          rw [seqX_nil]
          refine hK _ _ _ ?_; clear hK K
          refine hN11 _ _ _ ?_
          refine xc_two fun N12 hN12 => ?_
          refine xc_iffalse (by simp [go_sem, hj, hw1, bc hP u1, g3, g9, g10, g11, g5, g16, g17, hi, xindex, he, h1, h1n, h1m, h2, h2i, h3, hg0]) ?_
          refine hX2 _ _ _ _ ?_
          refine hN9 _ _ _ ?_
          refine xc_two fun N13 hN13 => ?_
          refine xc_reg1 17 rfl fun K hK => ?_
          simp only [show (List.range 17).map (·, true) = [(0, true), (1, true), (2, true), (3, true), (4, true), (5, true), (6, true), (7, true), (8, true), (9, true), (10, true), (11, true), (12, true), (13, true), (14, true), (15, true), (16, true)] from rfl, rslv_cons, rslv_nil, List.getElem?_toArray, List.getElem?_cons_zero, List.getElem?_cons_succ, gres]
          iterate 17 (refine seqX_hide2 fun R hR => ?_; simp [go_sem, hj, hw1, bc hP u1, g3, g9, g10, g11, g5, g16, g17, hi, xindex, he, h1, h1n, h1m, h2, h2i, h3, hg0]; refine hR _ _ _ ?_; clear hR R)
          rw [seqX_nil]
          refine hK _ _ _ ?_; clear hK K
          refine hN13 _ _ _ ?_
          refine xc_iftrue (by simp [go_sem, hj, hw1, bc hP u1, g3, g9, g10, g11, g5, g16, g17, hi, xindex, he, h1, h1n, h1m, h2, h2i, h3, hg0]) ?_
          refine xc_two fun N14 hN14 => ?_
          refine xc_reg1 1 rfl fun K hK => ?_
          simp only [show (List.range 1).map (·, true) = [(0, true)] from rfl, rslv_cons, rslv_nil, List.getElem?_toArray, List.getElem?_cons_zero, List.getElem?_cons_succ, gres]
          (refine seqX_hide2 fun R hR => ?_; simp [go_sem, hj, hw1, bc hP u1, g3, g9, g10, g11, g5, g16, g17, hi, xindex, he, h1, h1n, h1m, h2, h2i, h3, hg0]; refine hR _ _ _ ?_; clear hR R)
          rw [seqX_nil]
          refine hK _ _ _ ?_; clear hK K
          refine hN14 _ _ _ ?_
          refine hX1 _ _ _ _ ?_
          simp [go_sem, hj, hw1, bc hP u1, g3, g9, g10, g11, g5, g16, g17, hi, xindex, he, h1, h1n, h1m, h2, h2i, h3, hg0]
          exact ⟨FB.no _, hAB⟩
        · have h3' : ((p[0].toNat : Int) == 48) = false := by simpa using h3
          refine xc_two fun N11 hN11 => ?_
          refine xc_reg1 1 rfl fun K hK => ?_
          simp only [show (List.range 1).map (·, true) = [(0, true)] from rfl, rslv_cons, rslv_nil, List.getElem?_toArray, List.getElem?_cons_zero, List.getElem?_cons_succ, gres]
          (refine seqX_hide2 fun R hR => ?_; simp [go_sem, hj, hw1, bc hP u1, g3, g9, g10, g11, g5, g16, g17, hi, xindex, he, h1, h1n, h1m, h2, h2i, h3, h3', hg0]; refine hR _ _ _ ?_; clear hR R)
          rw [seqX_nil]
          refine hK _ _ _ ?_; clear hK K
          refine hN11 _ _ _ ?_
          refine xc_two fun N12 hN12 => ?_
          refine xc_iffalse (by simp [go_sem, hj, hw1, bc hP u1, g3, g9, g10, g11, g5, g16, g17, hi, xindex, he, h1, h1n, h1m, h2, h2i, h3, h3', hg0]) ?_
          refine hX2 _ _ _ _ ?_
          refine hN9 _ _ _ ?_
          refine xc_two fun N13 hN13 => ?_
          refine xc_reg1 17 rfl fun K hK => ?_
          simp only [show (List.range 17).map (·, true) = [(0, true), (1, true), (2, true), (3, true), (4, true), (5, true), (6, true), (7, true), (8, true), (9, true), (10, true), (11, true), (12, true), (13, true), (14, true), (15, true), (16, true)] from rfl, rslv_cons, rslv_nil, List.getElem?_toArray, List.getElem?_cons_zero, List.getElem?_cons_succ, gres]
          iterate 17 (refine seqX_hide2 fun R hR => ?_; simp [go_sem, hj, hw1, bc hP u1, g3, g9, g10, g11, g5, g16, g17, hi, xindex, he, h1, h1n, h1m, h2, h2i, h3, h3', hg0]; refine hR _ _ _ ?_; clear hR R)
          rw [seqX_nil]
          refine hK _ _ _ ?_; clear hK K
          refine hN13 _ _ _ ?_
          refine xc_iffalse (by simp [go_sem, hj, hw1, bc hP u1, g3, g9, g10, g11, g5, g16, g17, hi, xindex, he, h1, h1n, h1m, h2, h2i, h3, h3', hg0]) ?_
          refine hN7 _ _ _ ?_
          refine xc_reg1 2 rfl fun K hK => ?_
          simp only [show (List.range 2).map (·, true) = [(0, true), (1, true)] from rfl, rslv_cons, rslv_nil, List.getElem?_toArray, List.getElem?_cons_zero, List.getElem?_cons_succ, gres]
          iterate 2 (refine seqX_hide2 fun R hR => ?_; simp [go_sem, hj, hw1, bc hP u1, g3, g9, g10, g11, g5, g16, g17, hi, xindex, he, h1, h1n, h1m, h2, h2i, h3, h3', hg0]; refine hR _ _ _ ?_; clear hR R)
          rw [seqX_nil]
          refine hK _ _ _ ?_; clear hK K
          refine hJ1 ((parts s).length - (j + 1)) _ _ _ (by omega) ⟨j + 1, rfl, rfl, rfl, hP, by simp [go_sem, hj, hw1, bc hP u1, g3, g9, g10, g11, g5, g16, g17, hi, xindex, h1n, h1m, h2i], by simp [go_sem, hj, hw1, bc hP u1, g3, g9, g10, g11, g5, g16, g17, hi, xindex, h1n, h1m, h2i], by simp [go_sem, hj, hw1, bc hP u1, g3, g9, g10, g11, g5, g16, g17, hi, xindex, h1n, h1m, h2i], by simp [go_sem, hj, hw1, bc hP u1, g3, g9, g10, g11, g5, g16, g17, hi, xindex, h1n, h1m, h2i], by omega, fun q hq => ?_⟩
          rw [htk, List.mem_append, List.mem_singleton] at hq
          rcases hq with hq | rfl
          · exact hok q hq
          · refine ⟨hall, fun h => ?_, by rw [bl_length]; omega, fun _ h => ?_⟩
            · have := bl_length q; rw [h] at this; simp at this; omega
            · rw [bl_head q h0, Option.some.injEq] at h
              exact h3 (by rw [h]; rfl)
      · have h2i : (p.size : Int) ≤ 1 := by omega
        have h2n : ¬ (1 < (p.size : Int)) := by omega
        have h2m : ¬ (1 < p.size) := by omega
        refine xc_two fun N11 hN11 => ?_
        refine xc_reg1 1 rfl fun K hK => ?_
        simp only [show (List.range 1).map (·, true) = [(0, true)] from rfl, rslv_cons, rslv_nil, List.getElem?_toArray, List.getElem?_cons_zero, List.getElem?_cons_succ, gres]
        (refine seqX_hide2 fun R hR => ?_; simp [go_sem, hj, hw1, bc hP u1, g3, g9, g10, g11, g5, g16, g17, hi, xindex, he, h1, h1n, h1m, h2, h2i, h2n, h2m]; refine hR _ _ _ ?_; clear hR R)
        rw [seqX_nil]
        refine hK _ _ _ ?_; clear hK K
        refine hN11 _ _ _ ?_
        refine xc_two fun N12 hN12 => ?_
        refine xc_iffalse (by simp [go_sem, hj, hw1, bc hP u1, g3, g9, g10, g11, g5, g16, g17, hi, xindex, he, h1, h1n, h1m, h2, h2i, h2n, h2m]) ?_
        refine hX2 _ _ _ _ ?_
        refine hN9 _ _ _ ?_
        refine xc_two fun N13 hN13 => ?_
        refine xc_reg1 17 rfl fun K hK => ?_
        simp only [show (List.range 17).map (·, true) = [(0, true), (1, true), (2, true), (3, true), (4, true), (5, true), (6, true), (7, true), (8, true), (9, true), (10, true), (11, true), (12, true), (13, true), (14, true), (15, true), (16, true)] from rfl, rslv_cons, rslv_nil, List.getElem?_toArray, List.getElem?_cons_zero, List.getElem?_cons_succ, gres]
        iterate 17 (refine seqX_hide2 fun R hR => ?_; simp [go_sem, hj, hw1, bc hP u1, g3, g9, g10, g11, g5, g16, g17, hi, xindex, he, h1, h1n, h1m, h2, h2i, h2n, h2m]; refine hR _ _ _ ?_; clear hR R)
        rw [seqX_nil]
        refine hK _ _ _ ?_; clear hK K
        refine hN13 _ _ _ ?_
        refine xc_iffalse (by simp [go_sem, hj, hw1, bc hP u1, g3, g9, g10, g11, g5, g16, g17, hi, xindex, he, h1, h1n, h1m, h2, h2i, h2n, h2m]) ?_
        refine hN7 _ _ _ ?_
        refine xc_reg1 2 rfl fun K hK => ?_
        simp only [show (List.range 2).map (·, true) = [(0, true), (1, true)] from rfl, rslv_cons, rslv_nil, List.getElem?_toArray, List.getElem?_cons_zero, List.getElem?_cons_succ, gres]
        iterate 2 (refine seqX_hide2 fun R hR => ?_; simp [go_sem, hj, hw1, bc hP u1, g3, g9, g10, g11, g5, g16, g17, hi, xindex, he, h1, h1n, h1m, h2, h2i, h2n, h2m]; refine hR _ _ _ ?_; clear hR R)
        rw [seqX_nil]
        refine hK _ _ _ ?_; clear hK K
        refine hJ1 ((parts s).length - (j + 1)) _ _ _ (by omega) ⟨j + 1, rfl, rfl, rfl, hP, by simp [go_sem, hj, hw1, bc hP u1, g3, g9, g10, g11, g5, g16, g17, hi, xindex, h1n, h1m, h2i, h2n, h2m], by simp [go_sem, hj, hw1, bc hP u1, g3, g9, g10, g11, g5, g16, g17, hi, xindex, h1n, h1m, h2i, h2n, h2m], by simp [go_sem, hj, hw1, bc hP u1, g3, g9, g10, g11, g5, g16, g17, hi, xindex, h1n, h1m, h2i, h2n, h2m], by simp [go_sem, hj, hw1, bc hP u1, g3, g9, g10, g11, g5, g16, g17, hi, xindex, h1n, h1m, h2i, h2n, h2m], by omega, fun q hq => ?_⟩
        rw [htk, List.mem_append, List.mem_singleton] at hq
        rcases hq with hq | rfl
        · exact hok q hq
        · refine ⟨hall, fun h => ?_, by rw [bl_length]; omega, fun h => ?_⟩
          · have := bl_length q; rw [h] at this; simp at this; omega
          · rw [bl_length] at h; omega
  · skip
    refine xc_two fun N5 hN5 => ?_
    refine xc_reg1 1 rfl fun K hK => ?_
    simp only [show (List.range 1).map (·, true) = [(0, true)] from rfl, rslv_cons, rslv_nil, List.getElem?_toArray, List.getElem?_cons_zero, List.getElem?_cons_succ, gres]
    (refine seqX_hide2 fun R hR => ?_; simp [go_sem, g3, g9, g10, g11, hj]; refine hR _ _ _ ?_; clear hR R)
    rw [seqX_nil]
    refine hK _ _ _ ?_; clear hK K
    refine hN5 _ _ _ ?_
    refine xc_two fun N6 hN6 => ?_
    refine xc_iffalse (by simp [go_sem, g3, g9, g10, g11]) ?_
    refine hX1 _ _ _ _ ?_
    refine hN3 _ _ _ ?_
    refine xc_two fun N7 hN7 => ?_
    refine xc_reg1 4 rfl fun K hK => ?_
    simp only [show (List.range 4).map (·, true) = [(0, true), (1, true), (2, true), (3, true)] from rfl, rslv_cons, rslv_nil, List.getElem?_toArray, List.getElem?_cons_zero, List.getElem?_cons_succ, gres]
    iterate 4 (refine seqX_hide2 fun R hR => ?_; simp [go_sem, g3, g9, g10, g11]; refine hR _ _ _ ?_; clear hR R)
    rw [seqX_nil]
    refine hK _ _ _ ?_; clear hK K
    refine hN7 _ _ _ ?_
    rw [List.take_of_length_le (by omega)] at hok
    simp [go_sem, g3, g9, g10, g11]
    refine ⟨?_, hAB⟩
    refine ⟨_, rfl, fun h => ⟨?_, hok⟩⟩
    have : ((parts s).length : Int) = 3 := by simpa using h
    omega
end Go.Proofs.YtogfpbnbojhpoaaV

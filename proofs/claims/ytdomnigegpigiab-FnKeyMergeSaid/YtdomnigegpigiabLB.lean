import Derived.Test.YtdomnigegpigiabLA
namespace Go.Proofs.YtdomnigegpigiabV
open Go.RowKit
def bs0 : ByteArray := ⟨#[]⟩
def mt (x y : List ByteArray) : Nat → Option (Bool × List ByteArray)
  | 0 => some (false, [])
  | i + 1 => match mt x y i with
    | none => none
    | some (b, l) =>
      if x.getD i bs0 = y.getD i bs0 then some (true, l ++ [x.getD i bs0])
      else if x.getD i bs0 = bs0 then some (b, l ++ [y.getD i bs0])
      else if y.getD i bs0 = bs0 then some (b, l ++ [x.getD i bs0])
      else none
def mtch (x y : List ByteArray) : Bool × List ByteArray := if x.length = y.length then (mt x y x.length).getD (false, []) else (false, [])
theorem mt_none (x y : List ByteArray) {i j : Nat} (h : i ≤ j) (k : mt x y i = none) : mt x y j = none := by
  induction j with
  | zero => obtain rfl : i = 0 := by omega
            exact k
  | succ j ih =>
    rcases Nat.lt_or_eq_of_le h with h | rfl
    · simp only [mt, ih (by omega)]
    · exact k
set_option maxHeartbeats 1000000 in
theorem match46 (A : View) (v1 v2 : Value) (x y : List ByteArray) (h1 : Texts A v1 x) (h2 : Texts A v2 y) (hl : x.length ≤ 100) :
    VCalls Try.prog 46 #[v1, v2] A fun r A' => A ≤ A' ∧ ∃ u, r = .tuple #[.bool (mtch x y).1, u] ∧ Own A A' 9 1 u (mtch x y).2.length ((mtch x y).2.map .string) := by
  refine xcalls Try.func46 rfl (by simp [Try.ntmps46]) ?_
  obtain ⟨b1, c1, e1⟩ := h1.slice
  obtain ⟨b2, c2, e2⟩ := h2.slice
  by_cases hlen : x.length = y.length
  · have hc : (((x.length : Nat) : Int) != ((y.length : Nat) : Int)) = false := by simp [hlen]
    simp [go_sem, Try.f46, e1, e2, xlen, xbin, eqPlain, hc]
    refine vloopK (fun k e ds A' => ∃ i : Nat, k + i = x.length ∧ A ≤ A' ∧ ds = [] ∧ e 0 = v1 ∧ e 1 = v2 ∧ e 15 = .int .i64 x.length ∧ e 16 = .int .i64 i ∧ ∃ b l u, mt x y i = some (b, l) ∧ l.length = i ∧ e 6 = .bool b ∧ e 7 = u ∧ Own A A' 9 1 u l.length (l.map .string)) x.length
      ⟨0, by simp, View.le_refl _, rfl, by simp [go_sem, e1], by simp [go_sem, e2], by simp [go_sem], by simp [go_sem], false, [], .slice none 0 0, rfl, rfl, by simp [go_sem], by simp [go_sem], Own.nil _ _ _ _⟩ ?_
    rintro k e ds A' ⟨i, hk, hle, rfl, h0, h1', h15, h16, b, l, u, hmt, hll, h6, h7, hown⟩ J X hJ hX
    refine xc_sound _ ?_
    by_cases hi : i < x.length
    · obtain ⟨a1, q1, f1, g1⟩ := h1.at' hi
      obtain ⟨a2, q2, f2, g2⟩ := h2.at' (hlen ▸ hi)
      have hi2 : i < y.length := hlen ▸ hi
      have hw := wrap_nat (i := i) (by omega)
      have g1' := le_cell hle g1
      have g2' := le_cell hle g2
      have hx : x.getD i bs0 = x[i] := by simp [hi]
      have hy : y.getD i bs0 = y[i] := by simp [hi2]
      have hms : mt x y (i + 1) = if x[i] = y[i] then some (true, l ++ [x[i]]) else if x[i] = bs0 then some (b, l ++ [y[i]]) else if y[i] = bs0 then some (b, l ++ [x[i]]) else none := by
        rw [mt, hmt]
        simp only [hx, hy]
      have stay : ∀ (e' : Env) (s : ByteArray) (c : Bool), e' 0 = v1 → e' 1 = v2 → e' 15 = .int .i64 x.length → e' 16 = .int .i64 ((i + 1 : Nat) : Int) → mt x y (i + 1) = some (c, l ++ [s]) → e' 6 = .bool c →
          ∀ v' A3, e' 7 = v' → A ≤ A3 → Own A A3 9 1 v' (l.length + 1) (l.map .string ++ [.string s]) → J e' [] A3 := by
        intro e' s c g0 g1 g15 g16 hm g6 v' A3 g7 hA3 ho
        refine hJ (k - 1) _ _ _ (by omega) ⟨i + 1, by omega, hA3, rfl, g0, g1, g15, g16, c, l ++ [s], v', hm, by simp [hll], g6, g7, ?_⟩
        rw [List.length_append, List.map_append]
        exact ho
      simp [go_sem, h15, h16, xbin, eqPlain, hi]
      refine vdrawK [(0, true), (1, true), (2, true), (3, true), (4, true), (5, true), (6, true), (7, true), (8, true)] A mixed (by kernel_rfl) hle fun K hK => ?_
      simp only [rslv_cons, rslv_nil, List.getElem?_toArray, List.getElem?_cons_zero, List.getElem?_cons_succ, gres]
      simp [go_sem, h0, h1', h16, f1, f2, xindexAt, hi, hi2, vload, g1, g2, xbin, eqPlain, bs_beq]
      refine hK _ _ _ ?_
      simp only [thenQ_normal]
      have grow : ∀ (s : ByteArray) (b0 : Nat) (Kx : Value → View → Prop), A' b0 = none → (∀ v' A3, A ≤ A3 → Own A A3 9 1 v' (l.length + 1) (l.map .string ++ [.string s]) → Kx v' A3) →
          xappend Try.prog 27 27 u (.slice (some ⟨b0, 0, none⟩) 1 1) (A'.set b0 (.cells #[.string s] 9)) Kx := by
        intro s b0 Kx hb k
        exact xappend_own ti27 ti27 (fun k => by simp) ti9 rfl (by decide) (hown.le (le_set hb)) (View.le_trans hle (le_set hb)) appended_one (by simp) (by simp [one]) (by omega) fun v' A3 h1 h2 _ => k v' A3 h1 h2
      by_cases hq : x[i] = y[i]
      · simp [go_sem, hq, h0, h1', h16, h7, f1, f2, xindexAt, hi, hi2, vload, g1', g2', xbin, eqPlain, bs_bne, bs_beq, hw, xnew, Instr.fill, zerosB, Value.cells]
        intro b0 hb
        refine grow _ _ _ hb fun v' A3 hA3 ho => ?_
        exact stay _ _ true (by simp [go_sem, h0]) (by simp [go_sem, h1']) (by simp [go_sem, h15]) (by simp [go_sem]) (by rw [hms, if_pos hq, hq]) (by simp [go_sem]) v' A3 (by simp [go_sem]) hA3 ho
      · by_cases hx0 : x[i] = bs0
        · have hx0' : (x[i] = ({ data := #[] } : ByteArray)) := hx0
          have hq2 : ¬ (({ data := #[] } : ByteArray) = y[i]) := fun h => hq (hx0'.trans h)
          simp [go_sem, hq, hq2, hx0', h0, h1', h16, h7, f1, f2, xindexAt, hi, hi2, vload, g1', g2', xbin, eqPlain, bs_bne, bs_beq, gval, hw, xnew, Instr.fill, zerosB, Value.cells]
          intro b0 hb
          refine grow _ _ _ hb fun v' A3 hA3 ho => ?_
          exact stay _ _ b (by simp [go_sem, h0]) (by simp [go_sem, h1']) (by simp [go_sem, h15]) (by simp [go_sem]) (by rw [hms, if_neg hq, if_pos hx0]) (by simp [go_sem, h6]) v' A3 (by simp [go_sem]) hA3 ho
        · have hx0' : ¬ (x[i] = ({ data := #[] } : ByteArray)) := hx0
          by_cases hy0 : y[i] = bs0
          · have hy0' : (y[i] = ({ data := #[] } : ByteArray)) := hy0
            simp [go_sem, hq, hx0', hy0', h0, h1', h16, h7, f1, f2, xindexAt, hi, hi2, vload, g1', g2', xbin, eqPlain, bs_bne, bs_beq, gval, hw, xnew, Instr.fill, zerosB, Value.cells]
            intro b0 hb
            refine grow _ _ _ hb fun v' A3 hA3 ho => ?_
            exact stay _ _ b (by simp [go_sem, h0]) (by simp [go_sem, h1']) (by simp [go_sem, h15]) (by simp [go_sem]) (by rw [hms, if_neg hq, if_neg hx0, if_pos hy0]) (by simp [go_sem, h6]) v' A3 (by simp [go_sem]) hA3 ho
          · have hy0' : ¬ (y[i] = ({ data := #[] } : ByteArray)) := hy0
            simp [go_sem, hq, hx0', hy0', h0, h1', h16, h7, f1, f2, xindexAt, hi, hi2, vload, g1', g2', xbin, eqPlain, bs_bne, bs_beq, gval]
            have hno : mt x y x.length = none := mt_none x y (i := i + 1) (by omega) (by rw [hms, if_neg hq, if_neg hx0, if_neg hy0])
            have hm : mtch x y = (false, []) := by rw [mtch, if_pos hlen, hno]; rfl
            refine hX _ _ _ _ ?_
            simp [go_sem, hm]
            exact ⟨hle, Own.nil _ _ _ _⟩
    · have hi' : i = x.length := by omega
      subst hi'
      simp [go_sem, h15, h16, xbin, eqPlain]
      have hm : mtch x y = (b, l) := by rw [mtch, if_pos hlen, hmt]; rfl
      refine hX _ _ _ _ ?_
      simp [go_sem, h6, h7, hm]
      exact ⟨hle, hown⟩
  · have hc : (((x.length : Nat) : Int) != ((y.length : Nat) : Int)) = true := by simp [hlen]; omega
    have hm : mtch x y = (false, []) := by rw [mtch, if_neg hlen]
    simp [go_sem, Try.f46, e1, e2, xlen, xbin, eqPlain, hc, hm]
    exact ⟨View.le_refl _, Own.nil _ _ _ _⟩
end Go.Proofs.YtdomnigegpigiabV

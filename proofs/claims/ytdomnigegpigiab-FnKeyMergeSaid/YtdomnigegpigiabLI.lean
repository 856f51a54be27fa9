import Derived.Test.YtdomnigegpigiabLH
namespace Go.Proofs.YtdomnigegpigiabV
open Go.RowKit
theorem mt_symm (x y : List ByteArray) : ∀ i, mt x y i = mt y x i
  | 0 => rfl
  | i + 1 => by
    rw [mt, mt, mt_symm x y i]
    cases mt y x i with
    | none => rfl
    | some p =>
      obtain ⟨b, l⟩ := p
      by_cases h : x.getD i bs0 = y.getD i bs0
      · simp only [h, if_true]
      · have h' : ¬ y.getD i bs0 = x.getD i bs0 := fun k => h k.symm
        simp only [if_neg h, if_neg h']
        by_cases hx : x.getD i bs0 = bs0
        · have hy : ¬ y.getD i bs0 = bs0 := fun k => h (hx.trans k.symm)
          simp only [if_pos hx, if_neg hy]
        · simp only [if_neg hx]
theorem mtch_symm (x y : List ByteArray) : mtch x y = mtch y x := by
  unfold mtch
  by_cases h : x.length = y.length
  · rw [if_pos h, if_pos h.symm, mt_symm x y, h]
  · rw [if_neg h, if_neg (fun k => h k.symm)]
theorem mt_self (x : List ByteArray) : ∀ i, i ≤ x.length → mt x x i = some (decide (0 < i), x.take i)
  | 0, _ => rfl
  | i + 1, h => by
    rw [mt, mt_self x i (by omega)]
    have : x.getD i bs0 = x[i] := by simp [show i < x.length by omega]
    simp only [if_true, this]
    rw [List.take_succ_eq_append_getElem (by omega)]
    simp
theorem mtch_self (x : List ByteArray) : mtch x x = (decide (0 < x.length), x) := by
  unfold mtch
  rw [if_pos rfl, mt_self x _ (Nat.le_refl _)]
  simp
theorem put2_self (i j : Nat) (S : List (List ByteArray)) (x : List ByteArray) (hi : S[i]? = some x) (hj : S[j]? = some x) : put2 i j S (mtch x x) = S := by
  rw [mtch_self]
  unfold put2
  split
  · have h1 : S.set i x = S := by
      refine List.ext_getElem? fun k => ?_
      by_cases hk : i = k
      · subst hk; rw [List.getElem?_set_self (List.getElem?_eq_some_iff.1 hi).1, hi]
      · rw [List.getElem?_set_ne hk]
    have h2 : S.set j x = S := by
      refine List.ext_getElem? fun k => ?_
      by_cases hk : j = k
      · subst hk; rw [List.getElem?_set_self (List.getElem?_eq_some_iff.1 hj).1, hj]
      · rw [List.getElem?_set_ne hk]
    simp only [h1, h2]
  · rfl
theorem out_eq (S : List (List ByteArray)) (h : S.length ≤ 2) : outI S S.length = outS S S.length := by
  match S, h with
  | [], _ => rfl
  | [x], _ => simp only [List.length_cons, List.length_nil, outI, outS, innI, innS, List.getD_cons_zero]
  | [x, y], _ =>
    have e0 : put2 0 0 [x, y] (mtch x x) = [x, y] := put2_self 0 0 [x, y] x rfl rfl
    simp only [List.length_cons, List.length_nil, outI, outS, innI, innS, List.getD_cons_zero, List.getD_cons_succ, Nat.zero_add, Nat.reduceAdd, e0]
    cases hm : mtch x y with
    | mk b m =>
      cases b with
      | false =>
        have e1 : put2 0 1 [x, y] (false, m) = [x, y] := rfl
        simp only [e1, List.getD_cons_zero, List.getD_cons_succ]
        have e2 : put2 1 0 [x, y] (mtch y x) = [x, y] := by rw [← mtch_symm, hm]; rfl
        simp only [e2, List.getD_cons_zero, List.getD_cons_succ]
      | true =>
        have e1 : put2 0 1 [x, y] (true, m) = [m, m] := rfl
        simp only [e1, List.getD_cons_zero, List.getD_cons_succ]
        have e2 : put2 1 0 [m, m] (mtch m m) = [m, m] := put2_self 1 0 [m, m] m rfl rfl
        simp only [e2, List.getD_cons_zero, List.getD_cons_succ]
end Go.Proofs.YtdomnigegpigiabV

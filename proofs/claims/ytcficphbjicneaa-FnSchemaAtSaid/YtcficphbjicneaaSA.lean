/- Schemas: the small functions: whether a text is a word (left open), what is plain. -/
import Derived.Test.YtcficphbjicneaaV9
import Derived.Test.YtcficphbjicneaaVT
namespace Go.Proofs.YtcficphbjicneaaV
open Go.RowKit
def isB (r : Value) : Prop := ∃ b, r = .bool b
@[go_sem] theorem isB_bool (b : Bool) : isB (.bool b) = True := eq_true ⟨b, rfl⟩
set_option maxHeartbeats 1000000 in
theorem fits16 (A : View) (v : Value) (l : List ByteArray) (h : Texts A v l) (hl : l.length ≤ 9223372036854775807) :
    VCalls Try.prog 16 #[v] A fun r A' => isB r ∧ A' = A := by
  refine xcalls Try.func16 rfl (by simp [Try.ntmps16]) ?_
  obtain ⟨b1, c1, e1⟩ := h.slice
  by_cases hb : l.length ≤ 2147483647
  · simp [go_sem, Try.f16, e1, xlen, xbin, eqPlain, Int.not_lt.2 (show ((l.length : Nat) : Int) ≤ 2147483647 by omega)]
    refine vloopK (fun k e ds A' => ∃ i : Nat, k + i = l.length ∧ A' = A ∧ ds = [] ∧ e 8 = v ∧ e 9 = .int .i64 l.length ∧ e 10 = .int .i64 i) l.length
      ⟨0, by simp, rfl, rfl, by simp [go_sem, e1], by simp [go_sem], by simp [go_sem]⟩ ?_
    rintro k e ds A' ⟨i, hk, rfl, rfl, h8, h9, h10⟩ J X hJ hX
    refine xc_sound _ ?_
    by_cases hi : i < l.length
    · obtain ⟨a, cap, f1, g1⟩ := h.at' hi
      have hw := wrap_nat (i := i) (by omega)
      by_cases hs : (2147483647 : Int) < l[i].size
      · simp [go_sem, h8, h9, h10, xbin, eqPlain, hi, f1, xindexAt, vload, g1, xlen, hs]
        refine hX _ _ _ _ ?_
        simp [go_sem]
      · simp [go_sem, h8, h9, h10, xbin, eqPlain, hi, f1, xindexAt, vload, g1, xlen, hs, hw]
        refine hJ (k - 1) _ _ _ (by omega) ⟨i + 1, by omega, rfl, rfl, by simp [go_sem, h8], by simp [go_sem, h9], by simp [go_sem]⟩
    · simp [go_sem, h8, h9, h10, xbin, eqPlain, hi]
      refine hX _ _ _ _ ?_
      simp [go_sem]
  · simp [go_sem, Try.f16, e1, xlen, xbin, eqPlain, show (2147483647 : Int) < ((l.length : Nat) : Int) by omega]
set_option maxHeartbeats 2000000 in
theorem word48 (A : View) (s : ByteArray) (hs : s.size ≤ 9223372036854775807) : VCalls Try.prog 48 #[.string s] A fun r A' => isB r ∧ A' = A := by
  refine xcalls Try.func48 rfl (by simp [Try.ntmps48]) ?_
  simp only [Try.f48]
  refine xc_step fun C hC => ?_
  simp [go_sem]
  subst hC
  refine xc_step fun C hC => ?_
  simp [go_sem, xlen]
  refine vloopK (fun k e ds A' => ∃ i : Nat, k + i = s.size ∧ A' = A ∧ ds = [] ∧ e 0 = .string s ∧ e 5 = .int .i64 s.size ∧ e 6 = .int .i64 i) s.size
    ⟨0, by simp, rfl, rfl, by simp [go_sem], by simp [go_sem], by simp [go_sem]⟩ ?_
  rintro k e ds A ⟨i, hk, rfl, rfl, h0, h5, h6⟩ J X hJ hX
  refine xc_sound _ ?_
  by_cases hi : i < s.size
  · have hg : s[i]? = some s[i] := getElem?_pos s i hi
    have hw := wrap_nat (i := i) (by omega)
    by_cases h1 : (s[i].toNat : Int) < 97
    · simp [go_sem, h0, h5, h6, xbin, eqPlain, hi, xindex, hg, h1, gval, undef]
      refine hX _ _ _ _ ?_
      simp [go_sem]
    · by_cases h2 : (122 : Int) < s[i].toNat
      · simp [go_sem, h0, h5, h6, xbin, eqPlain, hi, xindex, hg, h1, h2, gval, undef]
        refine hX _ _ _ _ ?_
        simp [go_sem]
      · simp [go_sem, h0, h5, h6, xbin, eqPlain, hi, xindex, hg, h1, h2, gval, undef, hw]
        exact hJ (k - 1) _ _ _ (by omega) ⟨i + 1, by omega, rfl, rfl, by simp [go_sem, h0], by simp [go_sem, h5], by simp [go_sem]⟩
  · simp [go_sem, h5, h6, xbin, eqPlain, hi]
    refine hX _ _ _ _ ?_
    clear hJ hX
    simp [go_sem]
    subst hC
    refine xc_step fun C hC => ?_
    have tail : ∀ e' : Env, e' 0 = .string s → xc Try.prog 38 C (xend Try.prog 38 [ResultVar.tmp 2] fun r A' => isB r ∧ A' = A) e' [] A := by
      intro e' g0
      subst hC
      cases k1 : s.toList.isEmpty with
      | true => simp [go_sem, g0, xbin, eqPlain, k1, gval, undef]
      | false => simp [go_sem, g0, xbin, eqPlain, k1, gval, undef, xlen]
    simp [go_sem, h0, xbin, eqPlain]
    repeat' (rw [cond2_bool]; split)
    all_goals first | trivial | exact tail _ (by simp [go_sem, h0])
end Go.Proofs.YtcficphbjicneaaV

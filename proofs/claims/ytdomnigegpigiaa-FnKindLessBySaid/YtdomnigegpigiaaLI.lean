import Derived.Test.YtdomnigegpigiaaVT
import Derived.Test.YtdomnigegpigiaaV6
namespace Go.Proofs.YtdomnigegpigiaaV
open Go.RowKit
set_option maxHeartbeats 1000000 in
theorem same36 (A : View) (v1 v2 : Value) (l1 l2 : List ByteArray) (h1 : Texts A v1 l1) (h2 : Texts A v2 l2) (hl : l1.length < 9223372036854775807) :
    VCalls Try.prog 36 #[v1, v2] A fun r A' => r = .bool (decide (l1 = l2)) ∧ A' = A := by
  refine xcalls Try.func36 rfl (by simp [Try.ntmps36]) ?_
  obtain ⟨b1, c1, e1⟩ := h1.slice
  obtain ⟨b2, c2, e2⟩ := h2.slice
  by_cases hlen : l1.length = l2.length
  · have hc : (((l1.length : Nat) : Int) != ((l2.length : Nat) : Int)) = false := by simp [hlen]
    simp [go_sem, Try.f36, e1, e2, xlen, xbin, eqPlain, hc]
    refine vloopK (fun k e ds A' => ∃ i : Nat, k + i = l1.length ∧ A' = A ∧ ds = [] ∧ e 0 = v1 ∧ e 1 = v2 ∧ e 12 = .int .i64 l1.length ∧ e 13 = .int .i64 i ∧ (∀ j, j < i → l1[j]? = l2[j]?)) l1.length
      ⟨0, by simp, rfl, rfl, by simp [go_sem, e1], by simp [go_sem, e2], by simp [go_sem], by simp [go_sem], fun j hj => by omega⟩ ?_
    rintro k e ds A' ⟨i, hk, rfl, rfl, h0, h1', h12, h13, heq⟩ J X hJ hX
    by_cases hi : i < l1.length
    · obtain ⟨a1, q1, f1, g1⟩ := h1.at' hi
      obtain ⟨a2, q2, f2, g2⟩ := h2.at' (hlen ▸ hi)
      have hi2 : i < l2.length := hlen ▸ hi
      have hw := wrap_nat (i := i) (by omega)
      refine xc_sound _ ?_
      simp [go_sem, h12, h13, xbin, eqPlain, hi]
      refine vdrawK [(0, true), (1, true), (2, true), (3, true), (4, true), (5, true), (6, true), (7, true), (8, true)] A' mixed (by kernel_rfl) (View.le_refl _) fun K hK => ?_
      simp only [rslv_cons, rslv_nil, List.getElem?_toArray, List.getElem?_cons_zero, List.getElem?_cons_succ, gres]
      simp [go_sem, h0, h1', h13, f1, f2, xindexAt, hi, hi2, vload, g1, g2, xbin, eqPlain, bs_bne]
      refine hK _ _ _ ?_
      simp only [thenQ_normal]
      by_cases hx : l1[i] = l2[i]
      · simp [go_sem, hx, xbin, eqPlain, h0, h1', h12, h13, hw]
        refine hJ (k - 1) _ _ _ (by omega) ⟨i + 1, by omega, rfl, rfl, by simp [go_sem, h0], by simp [go_sem, h1'], by simp [go_sem, h12], by simp [go_sem], fun j hj => ?_⟩
        rcases Nat.lt_or_eq_of_le (Nat.le_of_lt_succ hj) with hj | hj
        · exact heq j hj
        · subst hj; simp [hi, hi2, hx]
      · simp [go_sem, hx]
        refine hX _ _ _ _ ?_
        simp [go_sem]
        intro h; subst h; exact hx rfl
    · have hi' : i = l1.length := by omega
      subst hi'
      refine xc_sound _ ?_
      simp [go_sem, h12, h13, xbin, eqPlain]
      refine hX _ _ _ _ ?_
      simp [go_sem]
      refine List.ext_getElem? fun j => ?_
      by_cases hj : j < l1.length
      · exact heq j hj
      · simp [List.getElem?_eq_none, Nat.not_lt.1 hj, hlen ▸ Nat.not_lt.1 hj]
  · have hc : (((l1.length : Nat) : Int) != ((l2.length : Nat) : Int)) = true := by simp [hlen]; omega
    simp [go_sem, Try.f36, e1, e2, xlen, xbin, eqPlain, hc]
    intro h; subst h; exact hlen rfl
set_option maxHeartbeats 1000000 in
theorem same22 (A : View) (v1 v2 : Value) (l1 l2 : List ByteArray) (h1 : Texts A v1 l1) (h2 : Texts A v2 l2) (hl : l1.length < 9223372036854775807) :
    VCalls Try.prog 22 #[v1, v2] A fun r A' => r = .bool (decide (l1 = l2)) ∧ A' = A := by
  refine xcalls Try.func22 rfl (by simp [Try.ntmps22]) ?_
  obtain ⟨b1, c1, e1⟩ := h1.slice
  obtain ⟨b2, c2, e2⟩ := h2.slice
  by_cases hlen : l1.length = l2.length
  · have hc : (((l1.length : Nat) : Int) != ((l2.length : Nat) : Int)) = false := by simp [hlen]
    simp [go_sem, Try.f22, e1, e2, xlen, xbin, eqPlain, hc]
    refine vloopK (fun k e ds A' => ∃ i : Nat, k + i = l1.length ∧ A' = A ∧ ds = [] ∧ e 0 = v1 ∧ e 1 = v2 ∧ e 12 = .int .i64 l1.length ∧ e 13 = .int .i64 i ∧ (∀ j, j < i → l1[j]? = l2[j]?)) l1.length
      ⟨0, by simp, rfl, rfl, by simp [go_sem, e1], by simp [go_sem, e2], by simp [go_sem], by simp [go_sem], fun j hj => by omega⟩ ?_
    rintro k e ds A' ⟨i, hk, rfl, rfl, h0, h1', h12, h13, heq⟩ J X hJ hX
    by_cases hi : i < l1.length
    · obtain ⟨a1, q1, f1, g1⟩ := h1.at' hi
      obtain ⟨a2, q2, f2, g2⟩ := h2.at' (hlen ▸ hi)
      have hi2 : i < l2.length := hlen ▸ hi
      have hw := wrap_nat (i := i) (by omega)
      refine xc_sound _ ?_
      simp [go_sem, h12, h13, xbin, eqPlain, hi]
      refine vdrawK [(0, true), (1, true), (2, true), (3, true), (4, true), (5, true), (6, true), (7, true), (8, true)] A' mixed (by kernel_rfl) (View.le_refl _) fun K hK => ?_
      simp only [rslv_cons, rslv_nil, List.getElem?_toArray, List.getElem?_cons_zero, List.getElem?_cons_succ, gres]
      simp [go_sem, h0, h1', h13, f1, f2, xindexAt, hi, hi2, vload, g1, g2, xbin, eqPlain, bs_bne]
      refine hK _ _ _ ?_
      simp only [thenQ_normal]
      by_cases hx : l1[i] = l2[i]
      · simp [go_sem, hx, xbin, eqPlain, h0, h1', h12, h13, hw]
        refine hJ (k - 1) _ _ _ (by omega) ⟨i + 1, by omega, rfl, rfl, by simp [go_sem, h0], by simp [go_sem, h1'], by simp [go_sem, h12], by simp [go_sem], fun j hj => ?_⟩
        rcases Nat.lt_or_eq_of_le (Nat.le_of_lt_succ hj) with hj | hj
        · exact heq j hj
        · subst hj; simp [hi, hi2, hx]
      · simp [go_sem, hx]
        refine hX _ _ _ _ ?_
        simp [go_sem]
        intro h; subst h; exact hx rfl
    · have hi' : i = l1.length := by omega
      subst hi'
      refine xc_sound _ ?_
      simp [go_sem, h12, h13, xbin, eqPlain]
      refine hX _ _ _ _ ?_
      simp [go_sem]
      refine List.ext_getElem? fun j => ?_
      by_cases hj : j < l1.length
      · exact heq j hj
      · simp [List.getElem?_eq_none, Nat.not_lt.1 hj, hlen ▸ Nat.not_lt.1 hj]
  · have hc : (((l1.length : Nat) : Int) != ((l2.length : Nat) : Int)) = true := by simp [hlen]; omega
    simp [go_sem, Try.f22, e1, e2, xlen, xbin, eqPlain, hc]
    intro h; subst h; exact hlen rfl
end Go.Proofs.YtdomnigegpigiaaV

import Derived.Test.YtdomnigegpigiaaLJ
namespace Go.Proofs.YtdomnigegpigiaaV
open Go.RowKit
theorem Rows2.slice {A : View} {v : Value} {l : List (List ByteArray)} (h : Rows2 A v l) : ∃ base cap, v = .slice base l.length cap := by
  obtain ⟨cs, hr, _⟩ := h; exact hr.slice
theorem Rows2.at' {A : View} {v : Value} {l : List (List ByteArray)} {i : Nat} (h : Rows2 A v l) (hi : i < l.length) : ∃ a cap u, v = .slice (some a) l.length cap ∧ A.cell? (a.add i) = some u ∧ Texts A u l[i] := by
  obtain ⟨cs, hr, hl, hx⟩ := h
  obtain ⟨u, hu, ht⟩ := hx i hi
  obtain ⟨a, cap, h1, _, h3⟩ := hr.at1 hu
  exact ⟨a, cap, u, h1, h3, ht⟩
theorem Rows2.le {A B : View} (h : A ≤ B) {v : Value} {l : List (List ByteArray)} (r : Rows2 A v l) : Rows2 B v l := by
  obtain ⟨cs, hr, hl, hx⟩ := r
  exact ⟨cs, hr.le h, hl, fun i hi => let ⟨u, hu, ht⟩ := hx i hi; ⟨u, hu, ht.le h⟩⟩
def has (xs : List ByteArray) (l : List (List ByteArray)) : Bool := l.any fun y => decide (y = xs)
set_option maxHeartbeats 1000000 in
theorem has32 (A : View) (v x : Value) (l : List (List ByteArray)) (xs : List ByteArray) (h : Rows2 A v l) (hx : Texts A x xs) (hl : l.length < 9223372036854775807) (hle : ∀ y ∈ l, y.length < 9223372036854775807) :
    VCalls Try.prog 32 #[v, x] A fun r A' => r = .bool (has xs l) ∧ A' = A := by
  refine xcalls Try.func32 rfl (by simp [Try.ntmps32]) ?_
  obtain ⟨b1, c1, e1⟩ := h.slice
  by_cases h0 : l.length = 0
  · have hl0 : l = [] := List.length_eq_zero_iff.1 h0
    subst hl0
    simp [go_sem, Try.f32, e1, xlen, xbin, eqPlain, has]
  · have hc : (((l.length : Nat) : Int) == 0) = false := by simp; exact fun h => h0 (by simp [h])
    simp [go_sem, Try.f32, e1, xlen, xbin, eqPlain, hc]
    refine vloopK (fun k e ds A' => ∃ i : Nat, k + i = l.length ∧ A' = A ∧ ds = [] ∧ e 0 = v ∧ e 1 = x ∧ e 10 = .int .i64 l.length ∧ e 11 = .int .i64 i ∧ (∀ j (hj : j < l.length), j < i → l[j] ≠ xs)) l.length
      ⟨0, by simp, rfl, rfl, by simp [go_sem, e1], by simp [go_sem], by simp [go_sem], by simp [go_sem], fun j _ hj => by omega⟩ ?_
    rintro k e ds A' ⟨i, hk, rfl, rfl, he0, he1, he10, he11, hne⟩ J X hJ hX
    refine xc_sound _ ?_
    by_cases hi : i < l.length
    · obtain ⟨a, cap, u, f1, g1, t1⟩ := h.at' hi
      have hw := wrap_nat (i := i) (by omega)
      simp [go_sem, he10, he11, xbin, eqPlain, hi, he0, he1, f1, xindexAt, vload, g1]
      refine (same36 A' u x l[i] xs t1 hx (hle _ (List.getElem_mem hi))).mono ?_
      rintro _ _ ⟨rfl, rfl⟩
      by_cases hq : l[i] = xs
      · simp [go_sem, hq]
        refine hX _ _ _ _ ?_
        simp [go_sem, has]
        first
          | exact ⟨_, List.getElem_mem hi, hq⟩
          | exact hq ▸ List.getElem_mem hi
      · simp [go_sem, hq, he11, xbin, eqPlain, hw, he0, he1, he10]
        refine hJ (k - 1) _ _ _ (by omega) ⟨i + 1, by omega, rfl, rfl, by simp [go_sem, he0], by simp [go_sem, he1], by simp [go_sem, he10], by simp [go_sem], fun j hj1 hj => ?_⟩
        rcases Nat.lt_or_eq_of_le (Nat.le_of_lt_succ hj) with hj | hj
        · exact hne j hj1 hj
        · subst hj; exact hq
    · have hi' : i = l.length := by omega
      subst hi'
      simp [go_sem, he10, he11, xbin, eqPlain]
      refine hX _ _ _ _ ?_
      simp [go_sem, has]
      intro y hm hy
      obtain ⟨j, hj, hjx⟩ := List.getElem_of_mem hm
      exact hne j hj hj (hjx.trans hy)
set_option maxHeartbeats 1000000 in
theorem same24 (A : View) (v1 v2 : Value) (l1 l2 : List (List ByteArray)) (h1 : Rows2 A v1 l1) (h2 : Rows2 A v2 l2) (hl : l1.length < 9223372036854775807) (hle : ∀ y ∈ l1, y.length < 9223372036854775807) :
    VCalls Try.prog 24 #[v1, v2] A fun r A' => r = .bool (decide (l1 = l2)) ∧ A' = A := by
  refine xcalls Try.func24 rfl (by simp [Try.ntmps24]) ?_
  obtain ⟨b1, c1, e1⟩ := h1.slice
  obtain ⟨b2, c2, e2⟩ := h2.slice
  by_cases hlen : l1.length = l2.length
  · have hc : (((l1.length : Nat) : Int) != ((l2.length : Nat) : Int)) = false := by simp [hlen]
    simp [go_sem, Try.f24, e1, e2, xlen, xbin, eqPlain, hc]
    refine vloopK (fun k e ds A' => ∃ i : Nat, k + i = l1.length ∧ A' = A ∧ ds = [] ∧ e 0 = v1 ∧ e 1 = v2 ∧ e 12 = .int .i64 l1.length ∧ e 13 = .int .i64 i ∧ (∀ j, j < i → l1[j]? = l2[j]?)) l1.length
      ⟨0, by simp, rfl, rfl, by simp [go_sem, e1], by simp [go_sem, e2], by simp [go_sem], by simp [go_sem], fun j hj => by omega⟩ ?_
    rintro k e ds A' ⟨i, hk, rfl, rfl, h0, h1', h12, h13, heq⟩ J X hJ hX
    by_cases hi : i < l1.length
    · obtain ⟨a1, q1, u1, f1, g1, t1⟩ := h1.at' hi
      obtain ⟨a2, q2, u2, f2, g2, t2⟩ := h2.at' (hlen ▸ hi)
      have hi2 : i < l2.length := hlen ▸ hi
      have hw := wrap_nat (i := i) (by omega)
      refine xc_sound _ ?_
      simp [go_sem, h12, h13, xbin, eqPlain, hi]
      refine vdrawK [(0, true), (1, true), (2, true), (3, true), (4, true), (5, true), (6, true), (7, true), (8, true), (9, true)] A' mixed (by kernel_rfl) (View.le_refl _) fun K hK => ?_
      simp only [rslv_cons, rslv_nil, List.getElem?_toArray, List.getElem?_cons_zero, List.getElem?_cons_succ, gres]
      simp [go_sem, h0, h1', h13, f1, f2, xindexAt, hi, hi2, vload, g1, g2, xbin, eqPlain]
      refine (same22 A' u1 u2 l1[i] l2[i] t1 t2 (hle _ (List.getElem_mem hi))).mono ?_
      rintro _ _ ⟨rfl, rfl⟩
      refine ⟨View.le_refl _, ?_⟩
      simp [go_sem, xunop]
      refine hK _ _ _ ?_
      simp only [thenQ_normal]
      by_cases hx : l1[i] = l2[i]
      · simp [go_sem, hx, xbin, eqPlain, h0, h1', h12, h13, hw]
        refine hJ (k - 1) _ _ _ (by omega) ⟨i + 1, by omega, rfl, rfl, by simp [go_sem, h0], by simp [go_sem, h1'], by simp [go_sem, h12], by simp [go_sem], fun j hj => ?_⟩
        rcases Nat.lt_or_eq_of_le (Nat.le_of_lt_succ hj) with hj | hj
        · exact heq j hj
        · subst hj; simp [hi, hi2, hx]
      · simp [go_sem, hx]
        refine hX _ _ _ _ ?_
        simp [go_sem]
        intro h; subst h; exact hx rfl
    · have hi' : i = l1.length := by omega
      subst hi'
      refine xc_sound _ ?_
      simp [go_sem, h12, h13, xbin, eqPlain]
      refine hX _ _ _ _ ?_
      simp [go_sem]
      refine List.ext_getElem? fun j => ?_
      by_cases hj : j < l1.length
      · exact heq j hj
      · simp [List.getElem?_eq_none, Nat.not_lt.1 hj, hlen ▸ Nat.not_lt.1 hj]
  · have hc : (((l1.length : Nat) : Int) != ((l2.length : Nat) : Int)) = true := by simp [hlen]; omega
    simp [go_sem, Try.f24, e1, e2, xlen, xbin, eqPlain, hc]
    intro h; subst h; exact hlen rfl
end Go.Proofs.YtdomnigegpigiaaV

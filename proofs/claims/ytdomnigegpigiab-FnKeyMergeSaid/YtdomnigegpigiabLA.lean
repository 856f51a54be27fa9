import Derived.Test.YtdomnigegpigiabVT
import Derived.Test.YtdomnigegpigiabV7
namespace Go.Proofs.YtdomnigegpigiabV
open Go.RowKit
set_option maxHeartbeats 1000000 in
theorem same25 (A : View) (v1 v2 : Value) (l1 l2 : List ByteArray) (h1 : Texts A v1 l1) (h2 : Texts A v2 l2) (hl : l1.length ≤ 9223372036854775807) :
    VCalls Try.prog 25 #[v1, v2] A fun r A' => r = .bool (decide (l1 = l2)) ∧ A' = A := by
  refine xcalls Try.func25 rfl (by simp [Try.ntmps25]) ?_
  obtain ⟨b1, c1, e1⟩ := h1.slice
  obtain ⟨b2, c2, e2⟩ := h2.slice
  by_cases hlen : l1.length = l2.length
  · have hc : (((l1.length : Nat) : Int) != ((l2.length : Nat) : Int)) = false := by simp [hlen]
    simp [go_sem, Try.f25, e1, e2, xlen, xbin, eqPlain, hc]
    refine vloopK (fun k e ds A' => ∃ i : Nat, k + i = l1.length ∧ A' = A ∧ ds = [] ∧ e 0 = v1 ∧ e 1 = v2 ∧ e 12 = .int .i64 l1.length ∧ e 13 = .int .i64 i ∧ (∀ j, j < i → l1[j]? = l2[j]?)) l1.length
      ⟨0, by simp, rfl, rfl, by simp [go_sem, e1], by simp [go_sem, e2], by simp [go_sem], by simp [go_sem], fun j hj => by omega⟩ ?_
    rintro k e ds A' ⟨i, hk, rfl, rfl, h0, h1', h12, h13, heq⟩ J X hJ hX
    by_cases hi : i < l1.length
    · obtain ⟨a1, q1, f1, g1⟩ := h1.at' hi
      obtain ⟨a2, q2, f2, g2⟩ := h2.at' (hlen ▸ hi)
      have hi2 : i < l2.length := hlen ▸ hi
      have hw := wrap_nat (i := i) (by omega)
      refine xc_sound _ ?_
      simp [go_sem, h12, h13, xbin, eqPlain, hi]
      refine vdrawK [(0, true), (1, true), (2, true), (3, true), (4, true), (5, true), (6, true), (7, true), (8, true)] A' mixed (by kernel_rfl) (View.le_refl _) fun K hK => ?_
      simp only [rslv_cons, rslv_nil, List.getElem?_toArray, List.getElem?_cons_zero, List.getElem?_cons_succ, gres]
      simp [go_sem, h0, h1', h13, f1, f2, xindexAt, hi, hi2, vload, g1, g2, xbin, eqPlain, bs_bne]
      refine hK _ _ _ ?_
      simp only [thenQ_normal]
      by_cases hx : l1[i] = l2[i]
      · simp [go_sem, hx, xbin, eqPlain, h0, h1', h12, h13, hw]
        refine hJ (k - 1) _ _ _ (by omega) ⟨i + 1, by omega, rfl, rfl, by simp [go_sem, h0], by simp [go_sem, h1'], by simp [go_sem, h12], by simp [go_sem], fun j hj => ?_⟩
        rcases Nat.lt_or_eq_of_le (Nat.le_of_lt_succ hj) with hj | hj
        · exact heq j hj
        · subst hj; simp [hi, hi2, hx]
      · simp [go_sem, hx]
        refine hX _ _ _ _ ?_
        simp [go_sem]
        intro h; subst h; exact hx rfl
    · have hi' : i = l1.length := by omega
      subst hi'
      refine xc_sound _ ?_
      simp [go_sem, h12, h13, xbin, eqPlain]
      refine hX _ _ _ _ ?_
      simp [go_sem]
      refine List.ext_getElem? fun j => ?_
      by_cases hj : j < l1.length
      · exact heq j hj
      · simp [List.getElem?_eq_none, Nat.not_lt.1 hj, hlen ▸ Nat.not_lt.1 hj]
  · have hc : (((l1.length : Nat) : Int) != ((l2.length : Nat) : Int)) = true := by simp [hlen]; omega
    simp [go_sem, Try.f25, e1, e2, xlen, xbin, eqPlain, hc]
    intro h; subst h; exact hlen rfl
def cut1 (s : ByteArray) : ByteArray := s.extract 0 (min s.size 40)
def cutl (l : List ByteArray) (m : Nat) : List ByteArray := (l.take m).map cut1
theorem cutl_len (l : List ByteArray) (m : Nat) (h : m ≤ l.length) : (cutl l m).length = m := by simp [cutl, Nat.min_eq_left h]
theorem cutl_succ (l : List ByteArray) (i : Nat) (h : i < l.length) : cutl l (i + 1) = cutl l i ++ [cut1 l[i]] := by
  unfold cutl
  rw [List.take_succ_eq_append_getElem h, List.map_append]; rfl
set_option maxHeartbeats 1000000 in
theorem cut23 (A : View) (v : Value) (l : List ByteArray) (m : Nat) (h : Texts A v l) (hl : l.length ≤ 9223372036854775807) (hm : m ≤ 100) (hsz : ∀ s ∈ l, s.size ≤ 9223372036854775807) :
    VCalls Try.prog 23 #[v, .int .i64 m] A fun r A' => A ≤ A' ∧ Own A A' 9 1 r (cutl l m).length ((cutl l m).map .string) := by
  refine xcalls Try.func23 rfl (by simp [Try.ntmps23]) ?_
  obtain ⟨b1, c1, e1⟩ := h.slice
  simp [go_sem, Try.f23]
  refine vloopK (fun k e ds A' => ∃ i : Nat, k + i = m ∧ i ≤ l.length ∧ ds = [] ∧ e 0 = v ∧ e 1 = .int .i64 m ∧ e 6 = .int .i64 i ∧ A ≤ A' ∧ ∃ u, e 5 = u ∧ Own A A' 9 1 u i ((cutl l i).map .string)) m
    ⟨0, by simp, by omega, rfl, by simp [go_sem], by simp [go_sem], by simp [go_sem], View.le_refl _, .slice none 0 0, by simp [go_sem], Own.nil _ _ _ _⟩ ?_
  rintro k e ds A' ⟨i, hk, hil, rfl, h0, h1, h6, hle, u, h5, hown⟩ J X hJ hX
  refine xc_sound _ ?_
  by_cases hno : i < l.length ∧ i < m
  · obtain ⟨hi1, hi2⟩ := hno
    obtain ⟨a1, q1, f1, g1⟩ := h.at' hi1
    have g1' := le_cell hle g1
    have hw := wrap_nat (i := i) (by omega)
    have hmin : (if (40 : Int) < (l[i].size : Int) then (40 : Int) else (l[i].size : Int)) = ((min l[i].size 40 : Nat) : Int) := by split <;> omega
    have hmin2 : min l[i].size 40 ≤ l[i].size := Nat.min_le_left _ _
    simp [go_sem, h0, h1, h5, h6, e1, xlen, xbin, eqPlain, hi1, hi2, gval]
    refine vdrawK [(0, false), (1, false), (2, false), (3, false), (4, false), (5, false), (6, false), (7, false), (8, false), (9, false), (10, false), (11, false), (12, false), (13, false), (14, false)] A mixed (by kernel_rfl) hle fun K hK => ?_
    simp only [rslv_cons, rslv_nil, List.getElem?_toArray, List.getElem?_cons_zero, List.getElem?_cons_succ, gres]
    simp [go_sem, h0, h1, h5, h6, f1, xindexAt, hi1, vload, g1, xlen, xmin, xslice]
    rw [hmin]
    simp [hmin2, onS_some, go_sem, xnew, Instr.fill, zerosB, Value.cells]
    intro b hb
    refine xappend_own ti27 ti27 (fun k => by simp) ti9 rfl (by decide) (hown.le (le_set hb)) (View.le_trans hle (le_set hb)) appended_one (by simp) (by simp [one]) (by omega) fun v' A3 h1' h2' h3' => ?_
    refine hK _ _ _ ?_
    simp [thenQ_normal, go_sem, h6, xbin, eqPlain, hw, h0, h1]
    refine hJ (k - 1) _ _ _ (by omega) ⟨i + 1, by omega, by omega, rfl, by simp [go_sem, h0], by simp [go_sem, h1], by simp [go_sem], h1', v', by simp [go_sem], ?_⟩
    rw [cutl_succ l i hi1, List.map_append]
    exact h2'
  · have hout : cutl l i = cutl l m := by
      unfold cutl
      congr 1
      rw [List.take_eq_take_iff]
      omega
    have hlen : (cutl l i).length = i := cutl_len l i hil
    by_cases hi : i < l.length
    · have hi2 : ¬ i < m := fun h => hno ⟨hi, h⟩
      simp [go_sem, h0, h1, h5, h6, e1, xlen, xbin, eqPlain, hi, hi2, gval]
      refine hX _ _ _ _ ?_
      simp [go_sem, h5, hlen, ← hout]
      exact ⟨hle, hown⟩
    · simp [go_sem, h0, h1, h5, h6, e1, xlen, xbin, eqPlain, hi, gval]
      refine hX _ _ _ _ ?_
      simp [go_sem, h5, hlen, ← hout]
      exact ⟨hle, hown⟩
theorem Rows2.slice {A : View} {v : Value} {l : List (List ByteArray)} (h : Rows2 A v l) : ∃ base cap, v = .slice base l.length cap := by
  obtain ⟨cs, hr, _⟩ := h; exact hr.slice
theorem Rows2.at' {A : View} {v : Value} {l : List (List ByteArray)} {i : Nat} (h : Rows2 A v l) (hi : i < l.length) : ∃ a cap u, v = .slice (some a) l.length cap ∧ A.cell? (a.add i) = some u ∧ Texts A u l[i] := by
  obtain ⟨cs, hr, hl, hx⟩ := h
  obtain ⟨u, hu, ht⟩ := hx i hi
  obtain ⟨a, cap, h1, _, h3⟩ := hr.at1 hu
  exact ⟨a, cap, u, h1, h3, ht⟩
theorem Rows2.le {A B : View} (h : A ≤ B) {v : Value} {l : List (List ByteArray)} (r : Rows2 A v l) : Rows2 B v l := by
  obtain ⟨cs, hr, hl, hx⟩ := r
  exact ⟨cs, hr.le h, hl, fun i hi => let ⟨u, hu, ht⟩ := hx i hi; ⟨u, hu, ht.le h⟩⟩
set_option maxHeartbeats 1000000 in
theorem same10 (A : View) (v1 v2 : Value) (l1 l2 : List (List ByteArray)) (h1 : Rows2 A v1 l1) (h2 : Rows2 A v2 l2) (hl : l1.length ≤ 9223372036854775807) (hle : ∀ y ∈ l1, y.length ≤ 9223372036854775807) :
    VCalls Try.prog 10 #[v1, v2] A fun r A' => r = .bool (decide (l1 = l2)) ∧ A' = A := by
  refine xcalls Try.func10 rfl (by simp [Try.ntmps10]) ?_
  obtain ⟨b1, c1, e1⟩ := h1.slice
  obtain ⟨b2, c2, e2⟩ := h2.slice
  by_cases hlen : l1.length = l2.length
  · have hc : (((l1.length : Nat) : Int) != ((l2.length : Nat) : Int)) = false := by simp [hlen]
    simp [go_sem, Try.f10, e1, e2, xlen, xbin, eqPlain, hc]
    refine vloopK (fun k e ds A' => ∃ i : Nat, k + i = l1.length ∧ A' = A ∧ ds = [] ∧ e 0 = v1 ∧ e 1 = v2 ∧ e 12 = .int .i64 l1.length ∧ e 13 = .int .i64 i ∧ (∀ j, j < i → l1[j]? = l2[j]?)) l1.length
      ⟨0, by simp, rfl, rfl, by simp [go_sem, e1], by simp [go_sem, e2], by simp [go_sem], by simp [go_sem], fun j hj => by omega⟩ ?_
    rintro k e ds A' ⟨i, hk, rfl, rfl, h0, h1', h12, h13, heq⟩ J X hJ hX
    by_cases hi : i < l1.length
    · obtain ⟨a1, q1, u1, f1, g1, t1⟩ := h1.at' hi
      obtain ⟨a2, q2, u2, f2, g2, t2⟩ := h2.at' (hlen ▸ hi)
      have hi2 : i < l2.length := hlen ▸ hi
      have hw := wrap_nat (i := i) (by omega)
      refine xc_sound _ ?_
      simp [go_sem, h12, h13, xbin, eqPlain, hi]
      refine vdrawK [(0, true), (1, true), (2, true), (3, true), (4, true), (5, true), (6, true), (7, true), (8, true), (9, true)] A' mixed (by kernel_rfl) (View.le_refl _) fun K hK => ?_
      simp only [rslv_cons, rslv_nil, List.getElem?_toArray, List.getElem?_cons_zero, List.getElem?_cons_succ, gres]
      simp [go_sem, h0, h1', h13, f1, f2, xindexAt, hi, hi2, vload, g1, g2, xbin, eqPlain]
      refine (same25 A' u1 u2 l1[i] l2[i] t1 t2 (hle _ (List.getElem_mem hi))).mono ?_
      rintro _ _ ⟨rfl, rfl⟩
      refine ⟨View.le_refl _, ?_⟩
      simp [go_sem, xunop]
      refine hK _ _ _ ?_
      simp only [thenQ_normal]
      by_cases hx : l1[i] = l2[i]
      · simp [go_sem, hx, xbin, eqPlain, h0, h1', h12, h13, hw]
        refine hJ (k - 1) _ _ _ (by omega) ⟨i + 1, by omega, rfl, rfl, by simp [go_sem, h0], by simp [go_sem, h1'], by simp [go_sem, h12], by simp [go_sem], fun j hj => ?_⟩
        rcases Nat.lt_or_eq_of_le (Nat.le_of_lt_succ hj) with hj | hj
        · exact heq j hj
        · subst hj; simp [hi, hi2, hx]
      · simp [go_sem, hx]
        refine hX _ _ _ _ ?_
        simp [go_sem]
        intro h; subst h; exact hx rfl
    · have hi' : i = l1.length := by omega
      subst hi'
      refine xc_sound _ ?_
      simp [go_sem, h12, h13, xbin, eqPlain]
      refine hX _ _ _ _ ?_
      simp [go_sem]
      refine List.ext_getElem? fun j => ?_
      by_cases hj : j < l1.length
      · exact heq j hj
      · simp [List.getElem?_eq_none, Nat.not_lt.1 hj, hlen ▸ Nat.not_lt.1 hj]
  · have hc : (((l1.length : Nat) : Int) != ((l2.length : Nat) : Int)) = true := by simp [hlen]; omega
    simp [go_sem, Try.f10, e1, e2, xlen, xbin, eqPlain, hc]
    intro h; subst h; exact hlen rfl
set_option maxHeartbeats 1000000 in
theorem fits22 (A : View) (v : Value) (l : List ByteArray) (h : Texts A v l) (hl : l.length ≤ 9223372036854775807) :
    VCalls Try.prog 22 #[v] A fun r A' => ∃ b, r = .bool b ∧ A' = A := by
  refine xcalls Try.func22 rfl (by simp [Try.ntmps22]) ?_
  obtain ⟨b1, c1, e1⟩ := h.slice
  by_cases hb : l.length ≤ 2147483647
  · simp [go_sem, Try.f22, e1, xlen, xbin, eqPlain, Int.not_lt.2 (show ((l.length : Nat) : Int) ≤ 2147483647 by omega)]
    refine vloopK (fun k e ds A' => ∃ i : Nat, k + i = l.length ∧ A' = A ∧ ds = [] ∧ e 8 = v ∧ e 9 = .int .i64 l.length ∧ e 10 = .int .i64 i) l.length
      ⟨0, by simp, rfl, rfl, by simp [go_sem, e1], by simp [go_sem], by simp [go_sem]⟩ ?_
    rintro k e ds A' ⟨i, hk, rfl, rfl, h8, h9, h10⟩ J X hJ hX
    refine xc_sound _ ?_
    by_cases hi : i < l.length
    · obtain ⟨a, cap, f1, g1⟩ := h.at' hi
      have hw := wrap_nat (i := i) (by omega)
      by_cases hs : (2147483647 : Int) < l[i].size
      · simp [go_sem, h8, h9, h10, xbin, eqPlain, hi, f1, xindexAt, vload, g1, xlen, hs]
        refine hX _ _ _ _ ?_
        simp [go_sem]
      · simp [go_sem, h8, h9, h10, xbin, eqPlain, hi, f1, xindexAt, vload, g1, xlen, hs, hw]
        refine hJ (k - 1) _ _ _ (by omega) ⟨i + 1, by omega, rfl, rfl, by simp [go_sem, h8], by simp [go_sem, h9], by simp [go_sem]⟩
    · simp [go_sem, h8, h9, h10, xbin, eqPlain, hi]
      refine hX _ _ _ _ ?_
      simp [go_sem]
  · simp [go_sem, Try.f22, e1, xlen, xbin, eqPlain, show (2147483647 : Int) < ((l.length : Nat) : Int) by omega]
set_option maxHeartbeats 1000000 in
theorem fits7 (A : View) (v : Value) (l : List (List ByteArray)) (h : Rows2 A v l) (hl : l.length ≤ 9223372036854775807) (hle : ∀ y ∈ l, y.length ≤ 9223372036854775807) :
    VCalls Try.prog 7 #[v] A fun r A' => ∃ b, r = .bool b ∧ A' = A := by
  refine xcalls Try.func7 rfl (by simp [Try.ntmps7]) ?_
  obtain ⟨b1, c1, e1⟩ := h.slice
  by_cases hb : l.length ≤ 2147483647
  · simp [go_sem, Try.f7, e1, xlen, xbin, eqPlain, Int.not_lt.2 (show ((l.length : Nat) : Int) ≤ 2147483647 by omega)]
    refine vloopK (fun k e ds A' => ∃ i : Nat, k + i = l.length ∧ A' = A ∧ ds = [] ∧ e 8 = v ∧ e 9 = .int .i64 l.length ∧ e 10 = .int .i64 i) l.length
      ⟨0, by simp, rfl, rfl, by simp [go_sem, e1], by simp [go_sem], by simp [go_sem]⟩ ?_
    rintro k e ds A' ⟨i, hk, rfl, rfl, h8, h9, h10⟩ J X hJ hX
    refine xc_sound _ ?_
    by_cases hi : i < l.length
    · obtain ⟨a, cap, u, f1, g1, t1⟩ := h.at' hi
      have hw := wrap_nat (i := i) (by omega)
      simp [go_sem, h8, h9, h10, xbin, eqPlain, hi, f1, xindexAt, vload, g1]
      refine (fits22 A' u l[i] t1 (hle _ (List.getElem_mem hi))).mono ?_
      rintro _ _ ⟨q, rfl, rfl⟩
      cases q with
      | false =>
        simp [go_sem, xunop]
        refine hX _ _ _ _ ?_
        simp [go_sem]
      | true =>
        simp [go_sem, h8, h9, h10, xbin, eqPlain, hw, xunop]
        refine hJ (k - 1) _ _ _ (by omega) ⟨i + 1, by omega, rfl, rfl, by simp [go_sem, h8], by simp [go_sem, h9], by simp [go_sem]⟩
    · simp [go_sem, h8, h9, h10, xbin, eqPlain, hi]
      refine hX _ _ _ _ ?_
      simp [go_sem]
  · simp [go_sem, Try.f7, e1, xlen, xbin, eqPlain, show (2147483647 : Int) < ((l.length : Nat) : Int) by omega]
theorem own_fresh {A : View} {b : Nat} {e : TypeId} {size : Nat} (hb : A b = none) : Own A (A.set b (.cells #[] e (0, 0))) e size (.slice (some ⟨b, 0, none⟩) 0 0) 0 [] := by
  refine ⟨?_, .inr ⟨_, _, rfl, hb⟩⟩
  simp [sliceIn, View.set, View.cells?]
def Els (T : View) (ws : List Value) (l : List (List ByteArray)) : Prop := ws.length = l.length ∧ ∀ i (h : i < l.length), ∃ u, ws[i]? = some u ∧ Texts T u l[i]
theorem Els.append {T : View} {ws cs : List Value} {l m : List (List ByteArray)} (h : Els T ws l) (k : Els T cs m) : Els T (ws ++ cs) (l ++ m) := by
  refine ⟨by rw [List.length_append, List.length_append, h.1, k.1], fun i hi => ?_⟩
  by_cases hil : i < l.length
  · obtain ⟨u, hu, ht⟩ := h.2 i hil
    refine ⟨u, by rw [List.getElem?_append_left (by rw [h.1]; omega)]; exact hu, ?_⟩
    rw [List.getElem_append_left hil]
    exact ht
  · have hj : i - l.length < m.length := by simp at hi; omega
    obtain ⟨u, hu, ht⟩ := k.2 (i - l.length) hj
    refine ⟨u, by rw [List.getElem?_append_right (by rw [h.1]; omega), h.1]; exact hu, ?_⟩
    rw [List.getElem_append_right (by omega)]
    exact ht
theorem Els.one {T : View} {u : Value} {x : List ByteArray} (h : Texts T u x) : Els T [u] [x] := ⟨rfl, fun i hi => by
  have : i = 0 := by simpa using hi
  subst this
  exact ⟨u, rfl, h⟩⟩
theorem cutl_le (x : List ByteArray) : (cutl x 5).length ≤ 5 := by simp [cutl]; omega
end Go.Proofs.YtdomnigegpigiabV

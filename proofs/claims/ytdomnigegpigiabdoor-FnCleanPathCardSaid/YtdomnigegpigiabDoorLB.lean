/- The functions on lists of texts: their size, what is cut of them, whether they are alike; a path that is cleaned. -/
import Derived.Test.YtdomnigegpigiabDoorLA
namespace Go.Proofs.YtdomnigegpigiabDoorV
open Go.RowKit
set_option maxHeartbeats 1000000 in
theorem fits7 (A : View) (v : Value) (l : List ByteArray) (h : Texts A v l) (hl : l.length ≤ 9223372036854775807) :
    VCalls Tryd.prog 7 #[v] A fun r A' => ∃ b, r = .bool b ∧ A' = A := by
  refine xcalls Tryd.func7 rfl (by simp [Tryd.ntmps7]) ?_
  obtain ⟨b1, c1, e1⟩ := h.slice
  by_cases hb : l.length ≤ 2147483647
  · simp [go_sem, Tryd.f7, e1, xlen, xbin, eqPlain, Int.not_lt.2 (show ((l.length : Nat) : Int) ≤ 2147483647 by omega)]
    refine vloopK (fun k e ds A' => ∃ i : Nat, k + i = l.length ∧ A' = A ∧ ds = [] ∧ e 8 = v ∧ e 9 = .int .i64 l.length ∧ e 10 = .int .i64 i) l.length
      ⟨0, by simp, rfl, rfl, by simp [go_sem, e1], by simp [go_sem], by simp [go_sem]⟩ ?_
    rintro k e ds A' ⟨i, hk, rfl, rfl, h8, h9, h10⟩ J X hJ hX
    refine xc_sound _ ?_
    by_cases hi : i < l.length
    · obtain ⟨a, cap, f1, g1⟩ := h.at' hi
      have hw := wrap_nat (i := i) (by omega)
      by_cases hs : (2147483647 : Int) < l[i].size
      · simp [go_sem, h8, h9, h10, xbin, eqPlain, hi, f1, xindexAt, vload, g1, xlen, hs]
        refine hX _ _ _ _ ?_
        simp [go_sem]
      · simp [go_sem, h8, h9, h10, xbin, eqPlain, hi, f1, xindexAt, vload, g1, xlen, hs, hw]
        refine hJ (k - 1) _ _ _ (by omega) ⟨i + 1, by omega, rfl, rfl, by simp [go_sem, h8], by simp [go_sem, h9], by simp [go_sem]⟩
    · simp [go_sem, h8, h9, h10, xbin, eqPlain, hi]
      refine hX _ _ _ _ ?_
      simp [go_sem]
  · simp [go_sem, Tryd.f7, e1, xlen, xbin, eqPlain, show (2147483647 : Int) < ((l.length : Nat) : Int) by omega]
def cut1 (s : ByteArray) : ByteArray := s.extract 0 (min s.size 40)
def cutl (l : List ByteArray) (m : Nat) : List ByteArray := (l.take m).map cut1
theorem cutl_len (l : List ByteArray) (m : Nat) (h : m ≤ l.length) : (cutl l m).length = m := by simp [cutl, Nat.min_eq_left h]
theorem cutl_succ (l : List ByteArray) (i : Nat) (h : i < l.length) : cutl l (i + 1) = cutl l i ++ [cut1 l[i]] := by
  unfold cutl
  rw [List.take_succ_eq_append_getElem h, List.map_append]; rfl
set_option maxHeartbeats 1000000 in
theorem cut8 (A : View) (v : Value) (l : List ByteArray) (m : Nat) (h : Texts A v l) (hl : l.length ≤ 9223372036854775807) (hm : m ≤ 100) (hsz : ∀ s ∈ l, s.size ≤ 9223372036854775807) :
    VCalls Tryd.prog 8 #[v, .int .i64 m] A fun r A' => A ≤ A' ∧ Own A A' 9 1 r (cutl l m).length ((cutl l m).map .string) := by
  refine xcalls Tryd.func8 rfl (by simp [Tryd.ntmps8]) ?_
  obtain ⟨b1, c1, e1⟩ := h.slice
  simp [go_sem, Tryd.f8]
  refine vloopK (fun k e ds A' => ∃ i : Nat, k + i = m ∧ i ≤ l.length ∧ ds = [] ∧ e 0 = v ∧ e 1 = .int .i64 m ∧ e 6 = .int .i64 i ∧ A ≤ A' ∧ ∃ u, e 5 = u ∧ Own A A' 9 1 u i ((cutl l i).map .string)) m
    ⟨0, by simp, by omega, rfl, by simp [go_sem], by simp [go_sem], by simp [go_sem], View.le_refl _, .slice none 0 0, by simp [go_sem], Own.nil _ _ _ _⟩ ?_
  rintro k e ds A' ⟨i, hk, hil, rfl, h0, h1, h6, hle, u, h5, hown⟩ J X hJ hX
  refine xc_sound _ ?_
  by_cases hno : i < l.length ∧ i < m
  · obtain ⟨hi1, hi2⟩ := hno
    obtain ⟨a1, q1, f1, g1⟩ := h.at' hi1
    have g1' := le_cell hle g1
    have hw := wrap_nat (i := i) (by omega)
    have hmin : (if (40 : Int) < (l[i].size : Int) then (40 : Int) else (l[i].size : Int)) = ((min l[i].size 40 : Nat) : Int) := by split <;> omega
    have hmin2 : min l[i].size 40 ≤ l[i].size := Nat.min_le_left _ _
    simp [go_sem, h0, h1, h5, h6, e1, xlen, xbin, eqPlain, hi1, hi2, gval]
    refine vdrawK [(0, false), (1, false), (2, false), (3, false), (4, false), (5, false), (6, false), (7, false), (8, false), (9, false), (10, false), (11, false), (12, false), (13, false), (14, false)] A mixed (by kernel_rfl) hle fun K hK => ?_
    simp only [rslv_cons, rslv_nil, List.getElem?_toArray, List.getElem?_cons_zero, List.getElem?_cons_succ, gres]
    simp [go_sem, h0, h1, h5, h6, f1, xindexAt, hi1, vload, g1, xlen, xmin, xslice]
    rw [hmin]
    simp [hmin2, onS_some, go_sem, xnew, Instr.fill, zerosB, Value.cells]
    intro b hb
    refine xappend_own ti23 ti23 (fun k => by simp) ti9 rfl (by decide) (hown.le (le_set hb)) (View.le_trans hle (le_set hb)) appended_one (by simp) (by simp [one]) (by omega) fun v' A3 h1' h2' h3' => ?_
    refine hK _ _ _ ?_
    simp [thenQ_normal, go_sem, h6, xbin, eqPlain, hw, h0, h1]
    refine hJ (k - 1) _ _ _ (by omega) ⟨i + 1, by omega, by omega, rfl, by simp [go_sem, h0], by simp [go_sem, h1], by simp [go_sem], h1', v', by simp [go_sem], ?_⟩
    rw [cutl_succ l i hi1, List.map_append]
    exact h2'
  · have hout : cutl l i = cutl l m := by
      unfold cutl
      congr 1
      rw [List.take_eq_take_iff]
      omega
    have hlen : (cutl l i).length = i := cutl_len l i hil
    by_cases hi : i < l.length
    · have hi2 : ¬ i < m := fun h => hno ⟨hi, h⟩
      simp [go_sem, h0, h1, h5, h6, e1, xlen, xbin, eqPlain, hi, hi2, gval]
      refine hX _ _ _ _ ?_
      simp [go_sem, h5, hlen, ← hout]
      exact ⟨hle, hown⟩
    · simp [go_sem, h0, h1, h5, h6, e1, xlen, xbin, eqPlain, hi, gval]
      refine hX _ _ _ _ ?_
      simp [go_sem, h5, hlen, ← hout]
      exact ⟨hle, hown⟩
set_option maxHeartbeats 1000000 in
theorem same9 (A : View) (v1 v2 : Value) (l1 l2 : List ByteArray) (h1 : Texts A v1 l1) (h2 : Texts A v2 l2) (hl : l1.length ≤ 9223372036854775807) :
    VCalls Tryd.prog 9 #[v1, v2] A fun r A' => r = .bool (decide (l1 = l2)) ∧ A' = A := by
  refine xcalls Tryd.func9 rfl (by simp [Tryd.ntmps9]) ?_
  obtain ⟨b1, c1, e1⟩ := h1.slice
  obtain ⟨b2, c2, e2⟩ := h2.slice
  by_cases hlen : l1.length = l2.length
  · have hc : (((l1.length : Nat) : Int) != ((l2.length : Nat) : Int)) = false := by simp [hlen]
    simp [go_sem, Tryd.f9, e1, e2, xlen, xbin, eqPlain, hc]
    refine vloopK (fun k e ds A' => ∃ i : Nat, k + i = l1.length ∧ A' = A ∧ ds = [] ∧ e 0 = v1 ∧ e 1 = v2 ∧ e 12 = .int .i64 l1.length ∧ e 13 = .int .i64 i ∧ (∀ j, j < i → l1[j]? = l2[j]?)) l1.length
      ⟨0, by simp, rfl, rfl, by simp [go_sem, e1], by simp [go_sem, e2], by simp [go_sem], by simp [go_sem], fun j hj => by omega⟩ ?_
    rintro k e ds A' ⟨i, hk, rfl, rfl, h0, h1', h12, h13, heq⟩ J X hJ hX
    by_cases hi : i < l1.length
    · obtain ⟨a1, q1, f1, g1⟩ := h1.at' hi
      obtain ⟨a2, q2, f2, g2⟩ := h2.at' (hlen ▸ hi)
      have hi2 : i < l2.length := hlen ▸ hi
      have hw := wrap_nat (i := i) (by omega)
      refine xc_sound _ ?_
      simp [go_sem, h12, h13, xbin, eqPlain, hi]
      refine vdrawK [(0, true), (1, true), (2, true), (3, true), (4, true), (5, true), (6, true), (7, true), (8, true)] A' mixed (by kernel_rfl) (View.le_refl _) fun K hK => ?_
      simp only [rslv_cons, rslv_nil, List.getElem?_toArray, List.getElem?_cons_zero, List.getElem?_cons_succ, gres]
      simp [go_sem, h0, h1', h13, f1, f2, xindexAt, hi, hi2, vload, g1, g2, xbin, eqPlain, bs_bne]
      refine hK _ _ _ ?_
      simp only [thenQ_normal]
      by_cases hx : l1[i] = l2[i]
      · simp [go_sem, hx, xbin, eqPlain, h0, h1', h12, h13, hw]
        refine hJ (k - 1) _ _ _ (by omega) ⟨i + 1, by omega, rfl, rfl, by simp [go_sem, h0], by simp [go_sem, h1'], by simp [go_sem, h12], by simp [go_sem], fun j hj => ?_⟩
        rcases Nat.lt_or_eq_of_le (Nat.le_of_lt_succ hj) with hj | hj
        · exact heq j hj
        · subst hj; simp [hi, hi2, hx]
      · simp [go_sem, hx]
        refine hX _ _ _ _ ?_
        simp [go_sem]
        intro h; subst h; exact hx rfl
    · have hi' : i = l1.length := by omega
      subst hi'
      refine xc_sound _ ?_
      simp [go_sem, h12, h13, xbin, eqPlain]
      refine hX _ _ _ _ ?_
      simp [go_sem]
      refine List.ext_getElem? fun j => ?_
      by_cases hj : j < l1.length
      · exact heq j hj
      · simp [List.getElem?_eq_none, Nat.not_lt.1 hj, hlen ▸ Nat.not_lt.1 hj]
  · have hc : (((l1.length : Nat) : Int) != ((l2.length : Nat) : Int)) = true := by simp [hlen]; omega
    simp [go_sem, Tryd.f9, e1, e2, xlen, xbin, eqPlain, hc]
    intro h; subst h; exact hlen rfl

def cl (L : List (List UInt8)) : List (List UInt8) := (L.map trm).filter fun l => !l.isEmpty
theorem cl_len (L : List (List UInt8)) : (cl L).length ≤ L.length := by
  unfold cl
  exact Nat.le_trans (List.length_filter_le _ _) (by simp)
theorem cl_succ (L : List (List UInt8)) (i : Nat) (h : i < L.length) : cl (L.take (i + 1)) = cl (L.take i) ++ (if (trm L[i]).isEmpty then [] else [trm L[i]]) := by
  unfold cl
  rw [List.take_succ_eq_append_getElem h, List.map_append, List.filter_append]
  cases hh : (trm L[i]).isEmpty <;> simp [List.filter, hh]
abbrev vals (L : List (List UInt8)) : List Value := L.map fun l => .string (bs l)
set_option maxHeartbeats 1000000 in
theorem clean15 (A : View) (v : Value) (L : List (List UInt8)) (h : Texts A v (L.map bs)) (hp : ∀ l ∈ L, (∀ b ∈ l, plainB b) ∧ l.length ≤ 1000) (hn : L.length ≤ 100) :
    VCalls Tryd.prog 15 #[v] A fun r A' => A ≤ A' ∧ Own A A' 9 1 r (cl L).length (vals (cl L)) := by
  refine xcalls Tryd.func15 rfl (by simp [Tryd.ntmps15]) ?_
  obtain ⟨b1, c1, e1⟩ := h.slice
  rw [List.length_map] at e1
  simp [go_sem, Tryd.f15, e1, xlen]
  refine vloopK (fun k e ds A' => ∃ i : Nat, k + i = L.length ∧ ds = [] ∧ e 6 = v ∧ e 7 = .int .i64 L.length ∧ e 8 = .int .i64 i ∧ A ≤ A' ∧ ∃ u, e 3 = u ∧ Own A A' 9 1 u (cl (L.take i)).length (vals (cl (L.take i)))) L.length
    ⟨0, by simp, rfl, by simp [go_sem, e1], by simp [go_sem], by simp [go_sem], View.le_refl _, .slice none 0 0, by simp [go_sem], by simpa [cl] using Own.nil _ _ _ _⟩ ?_
  rintro k e ds A' ⟨i, hk, rfl, h6, h7, h8, hle, u, h3, hown⟩ J X hJ hX
  refine xc_sound _ ?_
  by_cases hi : i < L.length
  · obtain ⟨a1, q1, f1, g1⟩ := h.at' (i := i) (by rw [List.length_map]; exact hi)
    rw [List.length_map] at f1
    have g1' := le_cell hle g1
    rw [List.getElem_map] at g1'
    have hw := wrap_nat (i := i) (by omega)
    have hpl := hp L[i] (List.getElem_mem hi)
    have hcl := cl_len (L.take i)
    have hcl2 : (L.take i).length ≤ i := by simp; omega
    simp [go_sem, h3, h6, h7, h8, f1, xbin, eqPlain, hi, xindexAt, vload, g1']
    refine (trim16 A' L[i] hpl.1 hpl.2).mono ?_
    rintro _ _ ⟨rfl, rfl⟩
    simp [go_sem, xlen, bs_size, xbin, eqPlain]
    have hsucc := cl_succ L i hi
    generalize hT : trm L[i] = T at hsucc
    cases T with
    | nil =>
      simp [go_sem, h8, xbin, eqPlain, hw]
      refine hJ (k - 1) _ _ _ (by omega) ⟨i + 1, by omega, rfl, by simp [go_sem, h6, f1], by simp [go_sem, h7], by simp [go_sem], hle, u, by simp [go_sem, h3], ?_⟩
      rw [hsucc]
      simpa using hown
    | cons a q =>
      have hz : (((q.length : Int) + 1) == 0) = false := by simp; omega
      simp [go_sem, hz, h3, xnew, Instr.fill, zerosB, Value.cells]
      intro b hb
      refine xappend_own ti23 ti23 (fun k => by simp) ti9 rfl (by decide) (hown.le (le_set hb)) (View.le_trans hle (le_set hb)) appended_one (by simp) (by simp [one]) (by omega) fun v' A3 h1' h2' h3' => ?_
      simp [go_sem, h8, xbin, eqPlain, hw]
      refine hJ (k - 1) _ _ _ (by omega) ⟨i + 1, by omega, rfl, by simp [go_sem, h6, f1], by simp [go_sem, h7], by simp [go_sem], h1', v', by simp [go_sem], ?_⟩
      rw [hsucc]
      simpa [vals] using h2'
  · have hi' : i = L.length := by omega
    subst hi'
    rw [List.take_length] at hown
    simp [go_sem, h7, h8, xbin, eqPlain]
    refine hX _ _ _ _ ?_
    simp [go_sem, h3]
    exact ⟨hle, hown⟩
theorem clean10 (A : View) (v : Value) (L : List (List UInt8)) (h : Texts A v (L.map bs)) (hp : ∀ l ∈ L, (∀ b ∈ l, plainB b) ∧ l.length ≤ 1000) (hn : L.length ≤ 100) :
    VCalls Tryd.prog 10 #[v] A fun r A' => A ≤ A' ∧ Own A A' 9 1 r (cl L).length (vals (cl L)) := by
  refine xcalls Tryd.func10 rfl (by simp [Tryd.ntmps10]) ?_
  simp [go_sem, Tryd.f10]
  refine xcalls Tryd.func13 rfl (by simp [Tryd.ntmps13]) ?_
  simp [go_sem, Tryd.f13]
  refine (clean15 A v L h hp hn).mono ?_
  rintro r A' ⟨h1, h2⟩
  exact ⟨h1, h2⟩
end Go.Proofs.YtdomnigegpigiabDoorV

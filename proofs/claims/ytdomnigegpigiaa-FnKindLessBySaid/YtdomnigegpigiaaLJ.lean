import Derived.Test.YtdomnigegpigiaaLI
namespace Go.Proofs.YtdomnigegpigiaaV
open Go.RowKit
def cut1 (s : ByteArray) : ByteArray := s.extract 0 (min s.size 40)
def cutl (l : List ByteArray) (m : Nat) : List ByteArray := (l.take m).map cut1
theorem cutl_len (l : List ByteArray) (m : Nat) (h : m ≤ l.length) : (cutl l m).length = m := by simp [cutl, Nat.min_eq_left h]
theorem cutl_succ (l : List ByteArray) (i : Nat) (h : i < l.length) : cutl l (i + 1) = cutl l i ++ [cut1 l[i]] := by
  unfold cutl
  rw [List.take_succ_eq_append_getElem h, List.map_append]; rfl
set_option maxHeartbeats 1000000 in
theorem cut12 (A : View) (v : Value) (l : List ByteArray) (m : Nat) (h : Texts A v l) (hl : l.length < 9223372036854775807) (hm : m ≤ 100) (hsz : ∀ s ∈ l, s.size ≤ 9223372036854775807) :
    VCalls Try.prog 12 #[v, .int .i64 m] A fun r A' => A ≤ A' ∧ Own A A' 9 1 r (cutl l m).length ((cutl l m).map .string) := by
  refine xcalls Try.func12 rfl (by simp [Try.ntmps12]) ?_
  obtain ⟨b1, c1, e1⟩ := h.slice
  simp [go_sem, Try.f12]
  refine vloopK (fun k e ds A' => ∃ i : Nat, k + i = m ∧ i ≤ l.length ∧ ds = [] ∧ e 0 = v ∧ e 1 = .int .i64 m ∧ e 6 = .int .i64 i ∧ A ≤ A' ∧ ∃ u, e 5 = u ∧ Own A A' 9 1 u i ((cutl l i).map .string)) m
    ⟨0, by simp, by omega, rfl, by simp [go_sem], by simp [go_sem], by simp [go_sem], View.le_refl _, .slice none 0 0, by simp [go_sem], Own.nil _ _ _ _⟩ ?_
  rintro k e ds A' ⟨i, hk, hil, rfl, h0, h1, h6, hle, u, h5, hown⟩ J X hJ hX
  refine xc_sound _ ?_
  by_cases hno : i < l.length ∧ i < m
  · obtain ⟨hi1, hi2⟩ := hno
    obtain ⟨a1, q1, f1, g1⟩ := h.at' hi1
    have g1' := le_cell hle g1
    have hw := wrap_nat (i := i) (by omega)
    have hmin : (if (40 : Int) < (l[i].size : Int) then (40 : Int) else (l[i].size : Int)) = ((min l[i].size 40 : Nat) : Int) := by split <;> omega
    have hmin2 : min l[i].size 40 ≤ l[i].size := Nat.min_le_left _ _
    simp [go_sem, h0, h1, h5, h6, e1, xlen, xbin, eqPlain, hi1, hi2, gval]
    refine vdrawK [(0, false), (1, false), (2, false), (3, false), (4, false), (5, false), (6, false), (7, false), (8, false), (9, false), (10, false), (11, false), (12, false), (13, false), (14, false)] A mixed (by kernel_rfl) hle fun K hK => ?_
    simp only [rslv_cons, rslv_nil, List.getElem?_toArray, List.getElem?_cons_zero, List.getElem?_cons_succ, gres]
    simp [go_sem, h0, h1, h5, h6, f1, xindexAt, hi1, vload, g1, xlen, xmin, xslice]
    rw [hmin]
    simp [hmin2, onS_some, go_sem, xnew, Instr.fill, zerosB, Value.cells]
    intro b hb
    refine xappend_own ti25 ti25 (fun k => by simp) ti9 rfl (by decide) (hown.le (le_set hb)) (View.le_trans hle (le_set hb)) appended_one (by simp) (by simp [one]) (by omega) fun v' A3 h1' h2' h3' => ?_
    refine hK _ _ _ ?_
    simp [thenQ_normal, go_sem, h6, xbin, eqPlain, hw, h0, h1]
    refine hJ (k - 1) _ _ _ (by omega) ⟨i + 1, by omega, by omega, rfl, by simp [go_sem, h0], by simp [go_sem, h1], by simp [go_sem], h1', v', by simp [go_sem], ?_⟩
    rw [cutl_succ l i hi1, List.map_append]
    exact h2'
  · have hout : cutl l i = cutl l m := by
      unfold cutl
      congr 1
      rw [List.take_eq_take_iff]
      omega
    have hlen : (cutl l i).length = i := cutl_len l i hil
    by_cases hi : i < l.length
    · have hi2 : ¬ i < m := fun h => hno ⟨hi, h⟩
      simp [go_sem, h0, h1, h5, h6, e1, xlen, xbin, eqPlain, hi, hi2, gval]
      refine hX _ _ _ _ ?_
      simp [go_sem, h5, hlen, ← hout]
      exact ⟨hle, hown⟩
    · simp [go_sem, h0, h1, h5, h6, e1, xlen, xbin, eqPlain, hi, gval]
      refine hX _ _ _ _ ?_
      simp [go_sem, h5, hlen, ← hout]
      exact ⟨hle, hown⟩
end Go.Proofs.YtdomnigegpigiaaV

/- Groups, versions and kinds: the small functions, as far as the law asks: where they stand in the order is left open. -/
import Derived.Test.YtcficphbjicneaaDoorV9
import Derived.Test.YtcficphbjicneaaDoorVT
import Derived.Test.YtcficphbjicneaaDoorShelf
import Derived.Lib.Join
namespace Go.Proofs.YtcficphbjicneaaDoorV
open Go.RowKit
/-- The two lists of kinds can be read. -/
def GV (A : View) : Prop := ∃ u0 u1 l0 l1, A.cell? ⟨0, 0, none⟩ = some u0 ∧ Texts A u0 l0 ∧ l0.length ≤ 9223372036854775807 ∧ A.cell? ⟨1, 0, none⟩ = some u1 ∧ Texts A u1 l1 ∧ l1.length ≤ 9223372036854775807
theorem GV.le {A B : View} (h : GV A) (hle : A ≤ B) : GV B := by
  obtain ⟨u0, u1, l0, l1, h1, h2, h3, h4, h5, h6⟩ := h
  exact ⟨u0, u1, l0, l1, le_cell hle h1, h2.le hle, h3, le_cell hle h4, h5.le hle, h6⟩
theorem orders23 (A : View) (s : ByteArray) (G : GV A) : VCalls Tryd.prog 23 #[.string s] A fun r A' => (∃ n, r = .int .i64 n) ∧ A' = A := by
  obtain ⟨u0, u1, l0, l1, c0, t0, n0, c1, t1, n1⟩ := G
  refine xcalls Tryd.func23 rfl (by simp [Tryd.ntmps23]) ?_
  obtain ⟨b0, k0, e0⟩ := t0.slice
  obtain ⟨b1, k1, e1⟩ := t1.slice
  simp [go_sem, Tryd.f23, vload, c0, e0, xlen]
  refine vloopK (fun k e ds A' => ∃ i : Nat, k + i = l0.length ∧ ds = [] ∧ A' = A ∧ e 0 = .string s ∧ e 6 = .int .i64 l0.length ∧ e 7 = .int .i64 i) l0.length
    ⟨0, by simp, rfl, rfl, by simp [go_sem], by simp [go_sem], by simp [go_sem]⟩ ?_
  rintro k e ds A ⟨i, hk, rfl, rfl, h0, h6, h7⟩ J X hJ hX
  refine xc_sound _ ?_
  by_cases hi : i < l0.length
  · obtain ⟨a, q, f1, g1⟩ := t0.at' hi
    have hw := wrap_nat (i := i) (by omega)
    by_cases hc : (l0[i].toList == s.toList) = true
    · simp [go_sem, h0, h6, h7, xbin, eqPlain, hi, vload, c0, f1, xindexAt, g1, hc]
      refine hX _ _ _ _ ?_
      simp [go_sem]
    · simp only [Bool.not_eq_true] at hc
      simp [go_sem, h0, h6, h7, xbin, eqPlain, hi, vload, c0, f1, xindexAt, g1, hc, hw]
      exact hJ (k - 1) _ _ _ (by omega) ⟨i + 1, by omega, rfl, rfl, by simp [go_sem, h0], by simp [go_sem, h6], by simp [go_sem]⟩
  · simp [go_sem, h6, h7, xbin, eqPlain, hi]
    refine hX _ _ _ _ ?_
    clear hX hJ
    simp [go_sem, vload, c1, e1, xlen]
    refine vloopK (fun k e ds A' => ∃ i : Nat, k + i = l1.length ∧ ds = [] ∧ A' = A ∧ e 0 = .string s ∧ e 20 = .int .i64 l1.length ∧ e 21 = .int .i64 i) l1.length
      ⟨0, by simp, rfl, rfl, by simp [go_sem, h0], by simp [go_sem], by simp [go_sem]⟩ ?_
    rintro k e ds A ⟨i, hk, rfl, rfl, h0, h6, h7⟩ J X hJ hX
    refine xc_sound _ ?_
    by_cases hi : i < l1.length
    · obtain ⟨a, q, f1, g1⟩ := t1.at' hi
      have hw := wrap_nat (i := i) (by omega)
      by_cases hc : (l1[i].toList == s.toList) = true
      · simp [go_sem, h0, h6, h7, xbin, eqPlain, hi, vload, c1, f1, xindexAt, g1, hc, xlen, xunop]
        refine hX _ _ _ _ ?_
        simp [go_sem]
      · simp only [Bool.not_eq_true] at hc
        simp [go_sem, h0, h6, h7, xbin, eqPlain, hi, vload, c1, f1, xindexAt, g1, hc, hw]
        exact hJ (k - 1) _ _ _ (by omega) ⟨i + 1, by omega, rfl, rfl, by simp [go_sem, h0], by simp [go_sem, h6], by simp [go_sem]⟩
    · simp [go_sem, h6, h7, xbin, eqPlain, hi]
      refine hX _ _ _ _ ?_
      simp [go_sem]
theorem join27 (A : View) (b : Nat) (x y z sep : ByteArray) (hb : A b = some (.cells #[.string x, .string y, .string z] 9)) (hx : x.size ≤ 1000) (hy : y.size ≤ 1000) (hz : z.size ≤ 1000) (hs : sep.size ≤ 1000) :
    VCalls Tryd.prog 27 #[.slice (some ⟨b, 0, none⟩) 3 3, .string sep] A fun r A' => (∃ s, r = .string s) ∧ A' = A := by
  refine vcalls_of_below fun w hw => ?_
  have hc := hw b _ hb
  refine (Tryd.strings_Join b 0 3 [x, y, z] sep w (fun j u hj => ?_) (hw.lt (by rw [hb]; simp)) (by simp) (by simp) ?_).mono ?_
  · unfold World.cell?
    rw [hc]
    match j, hj with
    | 0, hj => simp at hj; simp [hj]
    | 1, hj => simp at hj; simp [hj]
    | 2, hj => simp at hj; simp [hj]
    | k + 3, hj => simp at hj
  · have h1 : x.data.toList.length = x.size := by rw [Array.length_toList]; rfl
    have h2 : y.data.toList.length = y.size := by rw [Array.length_toList]; rfl
    have h3 : z.data.toList.length = z.size := by rw [Array.length_toList]; rfl
    have h4 : sep.data.toList.length = sep.size := by rw [Array.length_toList]; rfl
    simp only [Lib.join, List.map_cons, List.map_nil, List.length_append]
    simp [Lib.join] at *
    omega
  · rintro e w' ⟨he, hbl⟩
    exact ⟨_, he, ⟨_, rfl⟩, hbl⟩
set_option maxHeartbeats 2000000 in
theorem stable24 (A : View) (g v k : ByteArray) (c : Bool) (hg : g.size ≤ 1000) (hv : v.size ≤ 1000) (hk : k.size ≤ 1000) :
    VCalls Tryd.prog 24 #[.agg #[.string g, .string v, .string k, .bool c]] A fun r A' => (∃ s, r = .string s) ∧ A ≤ A' := by
  refine xcalls Tryd.func24 rfl (by simp [Tryd.ntmps24]) ?_
  have sz : ∀ a b : UInt8, (ByteArray.mk #[a, b]).size ≤ 1000 := fun a b => by simp [ByteArray.size]
  have s1 : (ByteArray.mk #[95]).size ≤ 1000 := by simp [ByteArray.size]
  have fin : ∀ (b : Nat) (hb : A b = none) (x y z : ByteArray), x.size ≤ 1000 → y.size ≤ 1000 → z.size ≤ 1000 → ∀ b2, (A.set b (.cells #[.string g, .string v, .string k, .bool c] 41)) b2 = none →
      VCalls Tryd.prog 27 #[.slice (some ⟨b2, 0, none⟩) 3 3, .string { data := #[95] }] ((A.set b (.cells #[.string g, .string v, .string k, .bool c] 41)).set b2 (.cells #[.string x, .string y, .string z] 9)) fun r A' => (∃ s, r = .string s) ∧ A ≤ A' := by
    intro b hb x y z hx hy hz b2 hb2
    refine (join27 _ b2 x y z _ (set_at _ _ _) hx hy hz s1).mono ?_
    rintro r _ ⟨h1, rfl⟩
    exact ⟨h1, View.le_trans (le_set hb) (le_set hb2)⟩
  have cl : ∀ (b : Nat) (i : Nat) (u : Value), (#[Value.string g, .string v, .string k, .bool c])[i]? = some u → (A.set b (.cells #[.string g, .string v, .string k, .bool c] 41)).cell? ⟨b, i, none⟩ = some u := by
    intro b i u hu
    unfold View.cell?
    rw [set_at]
    exact hu
  cases c1 : g.toList.isEmpty <;> cases c2 : v.toList.isEmpty <;> cases c3 : k.toList.isEmpty <;>
  · simp [go_sem, Tryd.f24, xnew, Value.cells]
    intro b hb
    have d0 := cl b 0 _ rfl
    have d1 := cl b 1 _ rfl
    have d2 := cl b 2 _ rfl
    simp [go_sem, xfieldAt, vload, d0, d1, d2, xbin, eqPlain, c1, c2, c3, xnew, Instr.fill, zerosB, Value.cells]
    intro b2 hb2
    exact fin b hb _ _ _ (by first | assumption | exact sz _ _) (by first | assumption | exact sz _ _) (by first | assumption | exact sz _ _) b2 hb2
end Go.Proofs.YtcficphbjicneaaDoorV

/- Trees: laws.tfKeyed. -/
import Derived.Test.YtpinamipjddobaaRX
namespace Go.Proofs.YtpinamipjddobaaV
open Go.RowKit
set_option linter.unusedSimpArgs false
set_option linter.unusedVariables false
/-- Keys and values, words, as many. -/
def KV (ks vs : List ByteArray) : Prop := ks.length = vs.length ∧ 0 < ks.length ∧ ks.length < 5 ∧ (∀ s ∈ ks, Wd s) ∧ ∀ s ∈ vs, Wd s
set_option maxRecDepth 20000 in
set_option maxHeartbeats 400000 in
theorem keyed37 (A : View) (v w : Value) (ks vs : List ByteArray) (hv : Texts A v ks) (hw : Texts A w vs) (hkl : ks.length ≤ 2147483647) (hvl : vs.length ≤ 2147483647) (hks : ∀ s ∈ ks, s.size ≤ 1125899906842624) (hvs : ∀ s ∈ vs, s.size ≤ 1125899906842624) : VCalls Try.prog 37 #[v, w] A fun r A' => FB (KV ks vs) r ∧ A' = A := by
  obtain ⟨b1, c1, rfl⟩ := hv.slice
  obtain ⟨b2, c2, rfl⟩ := hw.slice
  refine xcalls Try.func37 rfl (by simp [Try.ntmps37]) ?_
  simp only [Try.f37]
  have hP : Priv A (addrs []) := Priv.nil A
  show xc _ _ _ _ _ _ (ov A [])
  refine xc_two fun N1 hN1 => ?_
  refine xc_reg2 fun K hK => ?_
  simp only [rall, rsl, gres]
  (refine seqX_hide2 fun R hR => ?_; simp [go_sem]; refine hR _ _ _ ?_; clear hR R)
  rw [seqX_nil]
  refine hK _ _ _ ?_; clear hK K
  refine hN1 _ _ _ ?_
  refine xc_two fun N2 hN2 => ?_
  refine xc_two fun N3 hN3 => ?_
  refine xc_reg2 fun K hK => ?_
  simp only [rall, rsl, gres]
  iterate 3 (refine seqX_hide2 fun R hR => ?_; simp [go_sem]; refine hR _ _ _ ?_; clear hR R)
  rw [seqX_nil]
  refine hK _ _ _ ?_; clear hK K
  refine hN3 _ _ _ ?_
  rw [xc_block]
  rw [xc_loop]
  refine vloopK (fun k' e ds A' => ∃ (i : Nat), k' = ks.length - i ∧ ds = [] ∧ A' = ov A [] ∧ Priv A [] ∧ e 0 = .slice b1 ks.length c1 ∧ e 1 = .slice b2 vs.length c2 ∧ e 7 = .slice b1 ks.length c1 ∧ e 8 = .int .i64 ks.length ∧ e 9 = .int .i64 i ∧ (i ≤ ks.length) ∧ (i ≤ vs.length) ∧ (∀ j (h : j < ks.length), j < i → Wd ks[j]) ∧ (∀ j (h : j < vs.length), j < i → Wd vs[j])) _ ⟨0, rfl, rfl, rfl, hP, by simp [go_sem], by simp [go_sem], by simp [go_sem], by simp [go_sem], by simp [go_sem], by omega, Nat.zero_le _, fun j h hj => by omega, fun j h hj => by omega⟩ ?_
  clear hP
  rintro k' e ds A' ⟨i, rfl, rfl, hV, hP, g0, g1, g7, g8, g9, hil, hiv, hkw, hvw⟩ J1 X1 hJ1 hX1
  refine xc_sound _ ?_
  replace hV := Eq.symm hV; subst hV; replace hP : Priv A (addrs []) := hP
  have hw1 : IntKind.i64.wrap ((i : Int) + 1) = ((i + 1 : Nat) : Int) := by rw [wrap_in (by omega) (by omega)]; omega
  by_cases hi : i < ks.length
  rotate_left
  · have hii : ¬ (i : Int) < ks.length := by omega
    have hie : i = ks.length := by omega
    refine xc_two fun N4 hN4 => ?_
    refine xc_reg2 fun K hK => ?_
    simp only [rall, rsl, gres]
    (refine seqX_hide2 fun R hR => ?_; simp [go_sem, g0, g1, g7, g8, g9, hi, hii]; refine hR _ _ _ ?_; clear hR R)
    rw [seqX_nil]
    refine hK _ _ _ ?_; clear hK K
    refine hN4 _ _ _ ?_
    refine xc_two fun N5 hN5 => ?_
    refine xc_iffalse (by simp [go_sem, g0, g1, g7, g8, g9, hi, hii]) ?_
    refine hX1 _ _ _ _ ?_
    refine hN2 _ _ _ ?_
    refine xc_two fun N6 hN6 => ?_
    by_cases h0 : 0 < ks.length
    rotate_left
    · have h0i : ¬ (0 : Int) < ks.length := by omega
      refine xc_reg2 fun K hK => ?_
      simp only [rall, rsl, gres]
      iterate 16 (refine seqX_hide2 fun R hR => ?_; simp [go_sem, g0, g1, g7, g8, g9, hi, hii, h0, h0i]; refine hR _ _ _ ?_; clear hR R)
      rw [seqX_nil]
      refine hK _ _ _ ?_; clear hK K
      refine hN6 _ _ _ ?_
      simp [go_sem, g0, g1, g7, g8, g9, hi, hii, h0, h0i]
      exact ⟨FB.no _, rfl⟩
    have h0i : (0 : Int) < ks.length := by omega
    by_cases h5 : ks.length < 5
    rotate_left
    · have h5i : ¬ (ks.length : Int) < 5 := by omega
      refine xc_reg2 fun K hK => ?_
      simp only [rall, rsl, gres]
      iterate 16 (refine seqX_hide2 fun R hR => ?_; simp [go_sem, g0, g1, g7, g8, g9, hi, hii, h0, h0i, h5, h5i]; refine hR _ _ _ ?_; clear hR R)
      rw [seqX_nil]
      refine hK _ _ _ ?_; clear hK K
      refine hN6 _ _ _ ?_
      simp [go_sem, g0, g1, g7, g8, g9, hi, hii, h0, h0i, h5, h5i]
      exact ⟨FB.no _, rfl⟩
    have h5i : (ks.length : Int) < 5 := by omega
    by_cases hl : ks.length = vs.length
    rotate_left
    · have hli : ¬ (ks.length : Int) = vs.length := by omega
      refine xc_reg2 fun K hK => ?_
      simp only [rall, rsl, gres]
      iterate 16 (refine seqX_hide2 fun R hR => ?_; simp [go_sem, g0, g1, g7, g8, g9, hi, hii, h0, h0i, h5, h5i, hl, hli]; refine hR _ _ _ ?_; clear hR R)
      rw [seqX_nil]
      refine hK _ _ _ ?_; clear hK K
      refine hN6 _ _ _ ?_
      simp [go_sem, g0, g1, g7, g8, g9, hi, hii, h0, h0i, h5, h5i, hl, hli]
      have hbe : ((ks.length : Int) == vs.length) = false := beq_eq_false_iff_ne.2 hli
      rw [hbe]
      exact ⟨FB.no _, rfl⟩
    have hli : (ks.length : Int) = vs.length := by omega
    have hlb : ((ks.length : Int) == vs.length) = true := by rw [hli]; simp
    refine xc_reg2 fun K hK => ?_
    simp only [rall, rsl, gres]
    iterate 16 (refine seqX_hide2 fun R hR => ?_; simp [go_sem, g0, g1, g7, g8, g9, hi, hii, h0, h0i, h5, h5i, hlb]; refine hR _ _ _ ?_; clear hR R)
    rw [seqX_nil]
    refine hK _ _ _ ?_; clear hK K
    refine hN6 _ _ _ ?_
    simp [go_sem, g0, g1, g7, g8, g9, hi, hii, h0, h0i, h5, h5i, hlb]
    refine ⟨FB.yes ⟨hl, h0, h5, fun s hs => ?_, fun s hs => ?_⟩, rfl⟩
    · obtain ⟨j, hj, rfl⟩ := List.getElem_of_mem hs
      exact hkw j hj (by omega)
    · obtain ⟨j, hj, rfl⟩ := List.getElem_of_mem hs
      exact hvw j hj (by omega)
  have hii : (i : Int) < ks.length := by omega
  obtain ⟨a1, k1, f1, u1⟩ := hv.at' hi
  simp only [Value.slice.injEq] at f1
  obtain ⟨rfl, -, rfl⟩ := f1
  by_cases hiw : i < vs.length
  rotate_left
  · have hiwi : ¬ (i : Int) < vs.length := by omega
    have hiwi2 : (vs.length : Int) ≤ i := by omega
    have hiwi3 : vs.length ≤ i := by omega
    refine xc_two fun N4 hN4 => ?_
    refine xc_reg2 fun K hK => ?_
    simp only [rall, rsl, gres]
    (refine seqX_hide2 fun R hR => ?_; simp [go_sem, g0, g1, g7, g8, g9, hi, hii, hw1, bc hP u1, hiw, hiwi, hiwi2, hiwi3, xindexAt, vload]; refine hR _ _ _ ?_; clear hR R)
    rw [seqX_nil]
    refine hK _ _ _ ?_; clear hK K
    refine hN4 _ _ _ ?_
    refine xc_two fun N5 hN5 => ?_
    refine xc_iftrue (by simp [go_sem, g0, g1, g7, g8, g9, hi, hii, hw1, bc hP u1, hiw, hiwi, hiwi2, hiwi3, xindexAt, vload]) ?_
    refine hN5 _ _ _ ?_
    refine xc_two fun N6 hN6 => ?_
    rw [xc_block]
    refine xc_two fun N7 hN7 => ?_
    refine xc_reg2 fun K hK => ?_
    simp only [rall, rsl, gres]
    iterate 5 (refine seqX_hide2 fun R hR => ?_; simp [go_sem, g0, g1, g7, g8, g9, hi, hii, hw1, bc hP u1, hiw, hiwi, hiwi2, hiwi3, xindexAt, vload]; refine hR _ _ _ ?_; clear hR R)
    rw [seqX_nil]
    refine hK _ _ _ ?_; clear hK K
    refine hN7 _ _ _ ?_
    refine xc_two fun N8 hN8 => ?_
    refine xc_reg2 fun K hK => ?_
    simp only [rall, rsl, gres]
    iterate 6 (refine seqX_hide2 fun R hR => ?_; simp [go_sem, g0, g1, g7, g8, g9, hi, hii, hw1, bc hP u1, hiw, hiwi, hiwi2, hiwi3, xindexAt, vload]; refine hR _ _ _ ?_; clear hR R)
    refine seqX_hide2 fun R hR => ?_
    simp [go_sem, g0, g1, g7, g8, g9, hi, hii, hw1, bc hP u1, hiw, hiwi, hiwi2, hiwi3, xindexAt, vload]
    refine hR _ _ _ ?_; clear hR R
    iterate 7 (refine seqX_hide2 fun R hR => ?_; simp [go_sem, g0, g1, g7, g8, g9, hi, hii, hw1, bc hP u1, hiw, hiwi, hiwi2, hiwi3, xindexAt, vload]; refine hR _ _ _ ?_; clear hR R)
    refine seqX_hide2 fun R hR => ?_
    simp [go_sem, g0, g1, g7, g8, g9, hi, hii, hw1, bc hP u1, hiw, hiwi, hiwi2, hiwi3, xindexAt, vload]
    refine hR _ _ _ ?_; clear hR R
    iterate 2 (refine seqX_hide2 fun R hR => ?_; simp [go_sem, g0, g1, g7, g8, g9, hi, hii, hw1, bc hP u1, hiw, hiwi, hiwi2, hiwi3, xindexAt, vload]; refine hR _ _ _ ?_; clear hR R)
    rw [seqX_nil]
    refine hK _ _ _ ?_; clear hK K
    refine hN8 _ _ _ ?_
    refine xc_iftrue (by simp [go_sem, g0, g1, g7, g8, g9, hi, hii, hw1, bc hP u1, hiw, hiwi, hiwi2, hiwi3, xindexAt, vload]) ?_
    refine xc_two fun N9 hN9 => ?_
    refine xc_reg2 fun K hK => ?_
    simp only [rall, rsl, gres]
    (refine seqX_hide2 fun R hR => ?_; simp [go_sem, g0, g1, g7, g8, g9, hi, hii, hw1, bc hP u1, hiw, hiwi, hiwi2, hiwi3, xindexAt, vload]; refine hR _ _ _ ?_; clear hR R)
    rw [seqX_nil]
    refine hK _ _ _ ?_; clear hK K
    refine hN9 _ _ _ ?_
    refine hX1 _ _ _ _ ?_
    simp [go_sem, g0, g1, g7, g8, g9, hi, hii, hw1, bc hP u1, hiw, hiwi, hiwi2, hiwi3, xindexAt, vload]
    exact ⟨FB.no _, rfl⟩
  have hiwi : (i : Int) < vs.length := by omega
  have hiwi2 : ¬ (vs.length : Int) ≤ i := by omega
  have hiwi3 : ¬ vs.length ≤ i := by omega
  obtain ⟨a2, k2, f2, u2⟩ := hw.at' hiw
  simp only [Value.slice.injEq] at f2
  obtain ⟨rfl, -, rfl⟩ := f2
  refine xc_two fun N4 hN4 => ?_
  refine xc_reg2 fun K hK => ?_
  simp only [rall, rsl, gres]
  (refine seqX_hide2 fun R hR => ?_; simp [go_sem, g0, g1, g7, g8, g9, hi, hii, hw1, bc hP u1, bc hP u2, hiw, hiwi, hiwi2, hiwi3, xindexAt, vload]; refine hR _ _ _ ?_; clear hR R)
  rw [seqX_nil]
  refine hK _ _ _ ?_; clear hK K
  refine hN4 _ _ _ ?_
  refine xc_two fun N5 hN5 => ?_
  refine xc_iftrue (by simp [go_sem, g0, g1, g7, g8, g9, hi, hii, hw1, bc hP u1, bc hP u2, hiw, hiwi, hiwi2, hiwi3, xindexAt, vload]) ?_
  refine hN5 _ _ _ ?_
  refine xc_two fun N6 hN6 => ?_
  rw [xc_block]
  refine xc_two fun N7 hN7 => ?_
  refine xc_reg2 fun K hK => ?_
  simp only [rall, rsl, gres]
  iterate 5 (refine seqX_hide2 fun R hR => ?_; simp [go_sem, g0, g1, g7, g8, g9, hi, hii, hw1, bc hP u1, bc hP u2, hiw, hiwi, hiwi2, hiwi3, xindexAt, vload]; refine hR _ _ _ ?_; clear hR R)
  rw [seqX_nil]
  refine hK _ _ _ ?_; clear hK K
  refine hN7 _ _ _ ?_
  refine xc_two fun N8 hN8 => ?_
  refine xc_reg2 fun K hK => ?_
  simp only [rall, rsl, gres]
  iterate 6 (refine seqX_hide2 fun R hR => ?_; simp [go_sem, g0, g1, g7, g8, g9, hi, hii, hw1, bc hP u1, bc hP u2, hiw, hiwi, hiwi2, hiwi3, xindexAt, vload]; refine hR _ _ _ ?_; clear hR R)
  refine seqX_hide2 fun R hR => ?_
  simp [go_sem, g0, g1, g7, g8, g9, hi, hii, hw1, bc hP u1, bc hP u2, hiw, hiwi, hiwi2, hiwi3, xindexAt, vload]
  refine call_same hP (word6 A ks[i] (hks _ (List.getElem_mem hi))) ?_
  rintro _ ⟨b, rfl, hb⟩
  cases b with
  | false =>
    refine hR _ _ _ ?_; clear hR R
    iterate 7 (refine seqX_hide2 fun R hR => ?_; simp [go_sem, g0, g1, g7, g8, g9, hi, hii, hw1, bc hP u1, bc hP u2, hiw, hiwi, hiwi2, hiwi3, xindexAt, vload]; refine hR _ _ _ ?_; clear hR R)
    refine seqX_hide2 fun R hR => ?_
    simp [go_sem, g0, g1, g7, g8, g9, hi, hii, hw1, bc hP u1, bc hP u2, hiw, hiwi, hiwi2, hiwi3, xindexAt, vload]
    refine hR _ _ _ ?_; clear hR R
    iterate 2 (refine seqX_hide2 fun R hR => ?_; simp [go_sem, g0, g1, g7, g8, g9, hi, hii, hw1, bc hP u1, bc hP u2, hiw, hiwi, hiwi2, hiwi3, xindexAt, vload]; refine hR _ _ _ ?_; clear hR R)
    rw [seqX_nil]
    refine hK _ _ _ ?_; clear hK K
    refine hN8 _ _ _ ?_
    refine xc_iftrue (by simp [go_sem, g0, g1, g7, g8, g9, hi, hii, hw1, bc hP u1, bc hP u2, hiw, hiwi, hiwi2, hiwi3, xindexAt, vload]) ?_
    refine xc_two fun N9 hN9 => ?_
    refine xc_reg2 fun K hK => ?_
    simp only [rall, rsl, gres]
    (refine seqX_hide2 fun R hR => ?_; simp [go_sem, g0, g1, g7, g8, g9, hi, hii, hw1, bc hP u1, bc hP u2, hiw, hiwi, hiwi2, hiwi3, xindexAt, vload]; refine hR _ _ _ ?_; clear hR R)
    rw [seqX_nil]
    refine hK _ _ _ ?_; clear hK K
    refine hN9 _ _ _ ?_
    refine hX1 _ _ _ _ ?_
    simp [go_sem, g0, g1, g7, g8, g9, hi, hii, hw1, bc hP u1, bc hP u2, hiw, hiwi, hiwi2, hiwi3, xindexAt, vload]
    exact ⟨FB.no _, rfl⟩
  | true =>
  refine hR _ _ _ ?_; clear hR R
  iterate 7 (refine seqX_hide2 fun R hR => ?_; simp [go_sem, g0, g1, g7, g8, g9, hi, hii, hw1, bc hP u1, bc hP u2, hiw, hiwi, hiwi2, hiwi3, xindexAt, vload]; refine hR _ _ _ ?_; clear hR R)
  refine seqX_hide2 fun R hR => ?_
  simp [go_sem, g0, g1, g7, g8, g9, hi, hii, hw1, bc hP u1, bc hP u2, hiw, hiwi, hiwi2, hiwi3, xindexAt, vload]
  refine call_same hP (word6 A vs[i] (hvs _ (List.getElem_mem hiw))) ?_
  rintro _ ⟨b2, rfl, hb2⟩
  cases b2 with
  | false =>
    refine hR _ _ _ ?_; clear hR R
    iterate 2 (refine seqX_hide2 fun R hR => ?_; simp [go_sem, g0, g1, g7, g8, g9, hi, hii, hw1, bc hP u1, bc hP u2, hiw, hiwi, hiwi2, hiwi3, xindexAt, vload]; refine hR _ _ _ ?_; clear hR R)
    rw [seqX_nil]
    refine hK _ _ _ ?_; clear hK K
    refine hN8 _ _ _ ?_
    refine xc_iftrue (by simp [go_sem, g0, g1, g7, g8, g9, hi, hii, hw1, bc hP u1, bc hP u2, hiw, hiwi, hiwi2, hiwi3, xindexAt, vload]) ?_
    refine xc_two fun N9 hN9 => ?_
    refine xc_reg2 fun K hK => ?_
    simp only [rall, rsl, gres]
    (refine seqX_hide2 fun R hR => ?_; simp [go_sem, g0, g1, g7, g8, g9, hi, hii, hw1, bc hP u1, bc hP u2, hiw, hiwi, hiwi2, hiwi3, xindexAt, vload]; refine hR _ _ _ ?_; clear hR R)
    rw [seqX_nil]
    refine hK _ _ _ ?_; clear hK K
    refine hN9 _ _ _ ?_
    refine hX1 _ _ _ _ ?_
    simp [go_sem, g0, g1, g7, g8, g9, hi, hii, hw1, bc hP u1, bc hP u2, hiw, hiwi, hiwi2, hiwi3, xindexAt, vload]
    exact ⟨FB.no _, rfl⟩
  | true =>
  have hkw2 : ∀ j (h : j < ks.length), j < i + 1 → Wd ks[j] := by
    intro j h hj
    rcases Nat.lt_or_eq_of_le (Nat.le_of_lt_succ hj) with h2 | h2
    · exact hkw j h h2
    · subst h2; exact hb rfl
  have hvw2 : ∀ j (h : j < vs.length), j < i + 1 → Wd vs[j] := by
    intro j h hj
    rcases Nat.lt_or_eq_of_le (Nat.le_of_lt_succ hj) with h2 | h2
    · exact hvw j h h2
    · subst h2; exact hb2 rfl
  refine hR _ _ _ ?_; clear hR R
  iterate 2 (refine seqX_hide2 fun R hR => ?_; simp [go_sem, g0, g1, g7, g8, g9, hi, hii, hw1, bc hP u1, bc hP u2, hiw, hiwi, hiwi2, hiwi3, xindexAt, vload]; refine hR _ _ _ ?_; clear hR R)
  rw [seqX_nil]
  refine hK _ _ _ ?_; clear hK K
  refine hN8 _ _ _ ?_
  refine xc_iffalse (by simp [go_sem, g0, g1, g7, g8, g9, hi, hii, hw1, bc hP u1, bc hP u2, hiw, hiwi, hiwi2, hiwi3, xindexAt, vload]) ?_
  refine hN6 _ _ _ ?_
  refine xc_reg2 fun K hK => ?_
  simp only [rall, rsl, gres]
  iterate 2 (refine seqX_hide2 fun R hR => ?_; simp [go_sem, g0, g1, g7, g8, g9, hi, hii, hw1, bc hP u1, bc hP u2, hiw, hiwi, hiwi2, hiwi3, xindexAt, vload]; refine hR _ _ _ ?_; clear hR R)
  rw [seqX_nil]
  refine hK _ _ _ ?_; clear hK K
  refine hJ1 (ks.length - (i + 1)) _ _ _ (by omega) ⟨i + 1, rfl, rfl, rfl, hP, by simp [go_sem, g0, g1, g7, g8, g9, hi, hii, hw1, hiw, hiwi, hiwi2, hiwi3, xindexAt, vload], by simp [go_sem, g0, g1, g7, g8, g9, hi, hii, hw1, hiw, hiwi, hiwi2, hiwi3, xindexAt, vload], by simp [go_sem, g0, g1, g7, g8, g9, hi, hii, hw1, hiw, hiwi, hiwi2, hiwi3, xindexAt, vload], by simp [go_sem, g0, g1, g7, g8, g9, hi, hii, hw1, hiw, hiwi, hiwi2, hiwi3, xindexAt, vload], by simp [go_sem, g0, g1, g7, g8, g9, hi, hii, hw1, hiw, hiwi, hiwi2, hiwi3, xindexAt, vload], by omega, by omega, hkw2, hvw2⟩
end Go.Proofs.YtpinamipjddobaaV

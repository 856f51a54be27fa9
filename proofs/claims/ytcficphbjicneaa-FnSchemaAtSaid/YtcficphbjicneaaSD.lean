/- Schemas: fields, elements, and the way along a path. -/
import Derived.Test.YtcficphbjicneaaSC
namespace Go.Proofs.YtcficphbjicneaaV
open Go.RowKit
/-- A resource's schema, for a path: a pointer to a pointer. -/
def RS (A : View) (T : ByteArray) (p : List ByteArray) (v : Value) : Prop :=
  ∃ m b c, v = .pointer (some ⟨m, 0, none⟩) ∧ A m = some (.cells #[.pointer (some ⟨b, 0, none⟩)] 62 (0, 0)) ∧ A b = some (.cells c 67 (0, 0)) ∧ c.size = 5 ∧ OSV A T p c
theorem OSV.one {A : View} {T : ByteArray} : ∀ (p : List ByteArray) (c : Array Value), OSV A T p c → ∀ v ∈ c.toList, one v = true
  | [], c, ⟨u, h1, _⟩ => by subst h1; simp [Go.Proofs.YtcficphbjicneaaV.one]
  | k :: p, c, .inl ⟨_, u, b, c', h1, _⟩ => by subst h1; simp [Go.Proofs.YtcficphbjicneaaV.one]
  | k :: p, c, .inr ⟨_, u, r, c', h1, _⟩ => by subst h1; simp [Go.Proofs.YtcficphbjicneaaV.one]
set_option maxHeartbeats 4000000 in
theorem elements50 (A : View) (T : ByteArray) (p : List ByteArray) (v : Value) (h : RS A T (br :: p) v) : VCalls Try.prog 50 #[v] A fun r A' => RS A' T p r ∧ A ≤ A' := by
  obtain ⟨m, b, c, rfl, hM, hB, hz, hO⟩ := h
  obtain ⟨_, u, b', c', rfl, hu, hb', hz', hO⟩ := hO.resolve_right fun h => h.1 rfl
  refine xcalls Try.func50 rfl (by simp [Try.ntmps50]) ?_
  simp only [Try.f50]
  have gm := cell_of hM (i := 0) rfl
  have g0 := cell_of hB (i := 0) rfl
  have g1 := cell_of hB (i := 1) rfl
  have gu := cell_of hu (i := 0) rfl
  refine xc_step fun C hC => ?_
  simp [go_sem]
  subst hC
  refine xc_step fun C hC => ?_
  rw [xc_seq]
  refine xc_reg 21 rfl fun K hK => ?_
  simp only [show (List.range 21).map (·, true) = [(0, true), (1, true), (2, true), (3, true), (4, true), (5, true), (6, true), (7, true), (8, true), (9, true), (10, true), (11, true), (12, true), (13, true), (14, true), (15, true), (16, true), (17, true), (18, true), (19, true), (20, true)] from rfl, rslv_cons, rslv_nil, List.getElem?_toArray, List.getElem?_cons_zero, List.getElem?_cons_succ, gres]
  (repeat (refine seqX_hide fun R hR => ?_; simp [go_sem, xfieldAt, xlen, vload, xbin, eqPlain, wantR, undef, xnil, gm, g0, gu, xindexAt]; subst hR))
  rw [seqX_nil]
  refine hK _ _ _ ?_
  simp [go_sem]
  subst hC
  clear hK
  refine xc_step fun C hC => ?_
  rw [xc_seq]
  refine xc_reg 19 rfl fun K hK => ?_
  simp only [show (List.range 19).map (·, true) = [(0, true), (1, true), (2, true), (3, true), (4, true), (5, true), (6, true), (7, true), (8, true), (9, true), (10, true), (11, true), (12, true), (13, true), (14, true), (15, true), (16, true), (17, true), (18, true)] from rfl, rslv_cons, rslv_nil, List.getElem?_toArray, List.getElem?_cons_zero, List.getElem?_cons_succ, gres]
  (repeat (refine seqX_hide fun R hR => ?_; simp [go_sem, xfieldAt, xlen, vload, xbin, eqPlain, wantR, undef, xnil, gm, g1]; subst hR))
  rw [seqX_nil]
  refine hK _ _ _ ?_
  simp [go_sem]
  subst hC
  clear hK
  have gb' := cells_block hb' hz'
  refine xc_step fun C hC => ?_
  simp [go_sem, xnil, xfieldAt, vload, gm, g1, gb', xnew, Value.cells, zeroOf]
  intro n hn
  have hst := xstore_agg (P := Try.prog) (vs := c') ti67 hz' (set_at A n (.cells #[nl, .pointer none, .map none, .pointer none, .map none] 67)) (by rw [hz']; rfl) (OSV.one p c' hO)
  rw [set_set] at hst
  simp [hst, onS_some]
  subst hC
  have hN := set_at A n (.cells c' 67)
  have L : A ≤ A.set n (.cells c' 67) := le_set hn
  clear hst
  generalize A.set n (.cells c' 67) = B at hN L
  simp [go_sem, xbuild, Instr.fill, Value.cells, xnew]
  intro q hq
  exact ⟨⟨q, n, c', rfl, set_at _ _ _, le_set hq _ _ hN, hz', OSV.le (View.le_trans L (le_set hq)) p c' hO⟩, View.le_trans L (le_set hq)⟩
set_option maxHeartbeats 4000000 in
theorem field51 (A : View) (T k : ByteArray) (p : List ByteArray) (v : Value) (hk : k ≠ br) (h : RS A T (k :: p) v) : VCalls Try.prog 51 #[v, .string k] A fun r A' => RS A' T p r ∧ A ≤ A' := by
  obtain ⟨m, b, c, rfl, hM, hB, hz, hO⟩ := h
  rcases hO with ⟨hk', _⟩ | ⟨_, u, r, c', rfl, hu, hr, hz', hO⟩
  · exact absurd hk' hk
  refine xcalls Try.func51 rfl (by simp [Try.ntmps51]) ?_
  simp only [Try.f51]
  have gm := cell_of hM (i := 0) rfl
  have g2 := cell_of hB (i := 2) rfl
  have hl := hr.lookup (P := Try.prog) (s := k) (z := .agg #[nl, .pointer none, .map none, .pointer none, .map none]) ti64 ti9 (by unfold zeroOf; rw [ti67]; rfl) true
  simp at hl
  refine xc_step fun C hC => ?_
  simp [go_sem]
  subst hC
  refine xc_step fun C hC => ?_
  simp [go_sem, xnil, xfieldAt, vload, gm, g2, hl, xnew, Value.cells, zeroOf]
  intro n hn
  have hst := xstore_agg (P := Try.prog) (vs := c') ti67 hz' (set_at A n (.cells #[nl, .pointer none, .map none, .pointer none, .map none] 67)) (by rw [hz']; rfl) (OSV.one p c' hO)
  rw [set_set] at hst
  simp [hst, onS_some]
  have hN := set_at A n (.cells c' 67)
  have L : A ≤ A.set n (.cells c' 67) := le_set hn
  clear hst
  generalize A.set n (.cells c' 67) = B at hN L
  try simp [go_sem]
  subst hC
  refine xc_step fun C hC => ?_
  simp [go_sem]
  subst hC
  simp [go_sem, xbuild, Instr.fill, Value.cells, xnew]
  intro q hq
  exact ⟨⟨q, n, c', rfl, set_at _ _ _, le_set hq _ _ hN, hz', OSV.le (View.le_trans L (le_set hq)) p c' hO⟩, View.le_trans L (le_set hq)⟩
theorem RS.le {A B : View} {T : ByteArray} {p : List ByteArray} {v : Value} (h : A ≤ B) (r : RS A T p v) : RS B T p v := by
  obtain ⟨m, b, c, h1, h2, h3, h4, h5⟩ := r
  exact ⟨m, b, c, h1, h _ _ h2, h _ _ h3, h4, OSV.le h p c h5⟩
set_option maxHeartbeats 2000000 in
theorem lookup35 (A : View) (T : ByteArray) (v w : Value) (l : List ByteArray) (h : RS A T l v) (hl : Texts A w l) (hn : l.length ≤ 100) : VCalls Try.prog 35 #[v, w] A fun r A' => RS A' T [] r ∧ A ≤ A' := by
  refine xcalls Try.func35 rfl (by simp [Try.ntmps35]) ?_
  obtain ⟨b1, c1, e1⟩ := hl.slice
  simp [go_sem, Try.f35, e1, xlen]
  refine vloopK (fun k e ds A' => ∃ i : Nat, k + i = l.length ∧ ds = [] ∧ e 9 = w ∧ e 10 = .int .i64 l.length ∧ e 11 = .int .i64 i ∧ A ≤ A' ∧ ∃ x, e 5 = x ∧ RS A' T (l.drop i) x) l.length
    ⟨0, by simp, rfl, by simp [go_sem, e1], by simp [go_sem], by simp [go_sem], View.le_refl _, v, by simp [go_sem], by simpa using h⟩ ?_
  rintro k e ds A1 ⟨i, hk, rfl, h9, h10, h11, L, x, h5, hx⟩ J X hJ hX
  refine xc_sound _ ?_
  by_cases hi : i < l.length
  · obtain ⟨a, cap, f1, g1⟩ := hl.at' hi
    have g1' := le_cell L g1
    have hw := wrap_nat (i := i) (by omega)
    rw [List.drop_eq_getElem_cons hi] at hx
    obtain ⟨m, b, c, rfl, hrest⟩ := id hx
    by_cases hb : l[i] = br
    · rw [hb] at hx g1'
      have hq : (br.toList == br.toList) = true := (Lib.bytes_beq_iff _ _).2 rfl
      simp [go_sem, h5, h9, h10, h11, xbin, eqPlain, hi, f1, xindexAt, vload, g1', hq]
      refine (elements50 A1 T _ _ hx).mono ?_
      rintro y A2 ⟨hy, L2⟩
      simp [go_sem, h11, xbin, eqPlain, hw]
      exact hJ (k - 1) _ _ _ (by omega) ⟨i + 1, by omega, rfl, by simp [go_sem, h9, f1], by simp [go_sem, h10], by simp [go_sem], View.le_trans L L2, y, by simp [go_sem], hy⟩
    · have hq : (l[i].toList == br.toList) = false := (Lib.bytes_beq_false_iff _ _).2 hb
      have hq2 : (l[i].toList == [91, 93]) = false := by rw [← hq, ByteArray.toList_eq br]
      simp [go_sem, h5, h9, h10, h11, xbin, eqPlain, hi, f1, xindexAt, vload, g1', hq, hq2]
      refine (field51 A1 T l[i] _ _ hb hx).mono ?_
      rintro y A2 ⟨hy, L2⟩
      simp [go_sem, h11, xbin, eqPlain, hw]
      exact hJ (k - 1) _ _ _ (by omega) ⟨i + 1, by omega, rfl, by simp [go_sem, h9, f1], by simp [go_sem, h10], by simp [go_sem], View.le_trans L L2, y, by simp [go_sem], hy⟩
  · have hi' : i = l.length := by omega
    subst hi'
    rw [List.drop_eq_nil_of_le (Nat.le_refl _)] at hx
    simp [go_sem, h10, h11, xbin, eqPlain]
    refine hX _ _ _ _ ?_
    simp [go_sem, h5]
    exact ⟨hx, L⟩
end Go.Proofs.YtcficphbjicneaaV

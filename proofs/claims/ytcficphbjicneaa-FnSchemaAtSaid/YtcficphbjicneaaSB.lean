/- Schemas: a text as a plain tree. -/
import Derived.Test.YtcficphbjicneaaSA
namespace Go.Proofs.YtcficphbjicneaaV
open Go.RowKit
abbrev str5 : ByteArray := ⟨#[33, 33, 115, 116, 114]⟩
abbrev nodeT (s : ByteArray) : Array Value := #[.int .i64 8, .int .i64 0, .string str5, .string s, .string ⟨#[]⟩, .string ⟨#[]⟩, .string ⟨#[]⟩, .string ⟨#[]⟩, .int .i64 0, .int .i64 0, .int .i64 (-1), .slice none 0 0]
theorem text18 (A : View) (s : ByteArray) : VCalls Try.prog 18 #[.string s] A fun r A' => r = .agg (nodeT s) ∧ A ≤ A' := by
  refine xcalls Try.func18 rfl (by simp [Try.ntmps18]) ?_
  simp [go_sem, Try.f18, xnew, Value.cells, zeroOf]
  intro m hm
  have hA := set_at A m (.cells #[.int .i64 0, .int .i64 0, .string ⟨#[]⟩, .string ⟨#[]⟩, .string ⟨#[]⟩, .string ⟨#[]⟩, .string ⟨#[]⟩, .string ⟨#[]⟩, .int .i64 0, .int .i64 0, .int .i64 0, .slice none 0 0] 39)
  have hst := xstore_agg (P := Try.prog) (vs := nodeT s) ti39 rfl hA rfl (by simp [one])
  rw [set_set] at hst
  have hb := cells_block (set_at A m (.cells (nodeT s) 39)) (n := 12) rfl
  simp [go_sem, xbuild, Instr.fill, Value.cells, hst, vload, hb]
  exact le_set hm
set_option maxHeartbeats 4000000 in
theorem plain32 (A : View) (s : ByteArray) (m5 : Nat) (hs : s.size ≤ 9223372036854775807) (h5 : A m5 = some (.cells #[.int .i64 1] 3 (0, 0))) :
    VCalls Try.prog 32 #[.agg (nodeT s), .int .i64 12, .pointer (some ⟨m5, 0, none⟩)] A fun r A' => isB r ∧ A.erase m5 ≤ A' := by
  refine xcalls Try.func32 rfl (by simp [Try.ntmps32]) ?_
  simp only [Try.f32]
  refine xc_step fun C hC => ?_
  simp [go_sem, xnew, Value.cells]
  intro m hm
  subst hC
  have d5 : m5 ≠ m := fun hx => by rw [← hx, h5] at hm; cases hm
  have hA := set_at A m (.cells (nodeT s) 39)
  have h5' : (A.set m (.cells (nodeT s) 39)) m5 = some (.cells #[.int .i64 1] 3 (0, 0)) := by rw [set_other d5]; exact h5
  have c5 := cell_of h5' (i := 0) rfl
  have hst : xstore Try.prog 3 (.pointer (some ⟨m5, 0, none⟩)) (.int .i64 0) (A.set m (.cells (nodeT s) 39)) = some ((A.set m (.cells (nodeT s) 39)).set m5 (.cells #[.int .i64 0] 3 (0, 0))) := xstore_field ti3 h5' (by simp) rfl
  have w0 : IntKind.i64.wrap 0 = 0 := by decide
  have hle : A.erase m5 ≤ (A.set m (.cells (nodeT s) 39)).set m5 (.cells #[.int .i64 0] 3 (0, 0)) := le_set' (View.le_trans (erase_le _ _) (le_set hm)) (if_pos rfl)
  have hA2 : ((A.set m (.cells (nodeT s) 39)).set m5 (.cells #[.int .i64 0] 3 (0, 0))) m = some (.cells (nodeT s) 39 (0, 0)) := by rw [set_other d5.symm]; exact hA
  have h52 := set_at (A.set m (.cells (nodeT s) 39)) m5 (.cells #[.int .i64 0] 3 (0, 0))
  refine xc_step fun C hC => ?_
  rw [xc_seq]
  refine xc_step fun C2 hC2 => ?_
  simp [go_sem, xnil, vload, c5, xbin, eqPlain, w0, hst]
  subst hC2
  clear hst c5 h5' hA
  generalize (A.set m (.cells (nodeT s) 39)).set m5 (.cells #[.int .i64 0] 3 (0, 0)) = A1 at *
  have c5 := cell_of h52 (i := 0) rfl
  have c0 := cell_of hA2 (i := 0) rfl
  have c1 := cell_of hA2 (i := 1) rfl
  have c2 := cell_of hA2 (i := 2) rfl
  have c3 := cell_of hA2 (i := 3) rfl
  have c4 := cell_of hA2 (i := 4) rfl
  have c55 := cell_of hA2 (i := 5) rfl
  have c6 := cell_of hA2 (i := 6) rfl
  have c7 := cell_of hA2 (i := 7) rfl
  have c10 := cell_of hA2 (i := 10) rfl
  have c11 := cell_of hA2 (i := 11) rfl
  have e0 : (ByteArray.mk #[]) ++ (ByteArray.mk #[]) = ByteArray.mk #[] := rfl
  have z0 : (ByteArray.mk #[]).size = 0 := rfl
  have e1 : (ByteArray.mk #[]).toList.isEmpty = true := by rw [ByteArray.toList_eq]; rfl
  refine xc_reg 32 rfl fun K hK => ?_
  simp only [show (List.range 32).map (·, true) = [(0, true), (1, true), (2, true), (3, true), (4, true), (5, true), (6, true), (7, true), (8, true), (9, true), (10, true), (11, true), (12, true), (13, true), (14, true), (15, true), (16, true), (17, true), (18, true), (19, true), (20, true), (21, true), (22, true), (23, true), (24, true), (25, true), (26, true), (27, true), (28, true), (29, true), (30, true), (31, true)] from rfl, rslv_cons, rslv_nil, List.getElem?_toArray, List.getElem?_cons_zero, List.getElem?_cons_succ, gres]
  (repeat (refine seqX_hide fun R hR => ?_; simp [go_sem, xfieldAt, xnil, vload, c5, c1, c4, c55, c6, c7, c10, xbin, eqPlain, wantR, undef, e0, z0, e1]; subst hR))
  rw [seqX_nil]
  refine hK _ _ _ ?_
  simp [go_sem]
  subst hC
  have k1 : ((ByteArray.mk #[33, 33, 115, 116, 114]).toList == (ByteArray.mk #[33, 33, 110, 117, 108, 108]).toList) = false := by rw [ByteArray.toList_eq, ByteArray.toList_eq]; rfl
  have k3 : ((ByteArray.mk #[33, 33, 115, 116, 114]).toList == (ByteArray.mk #[33, 33, 105, 110, 116]).toList) = false := by rw [ByteArray.toList_eq, ByteArray.toList_eq]; rfl
  clear hK
  refine xc_step fun C hC => ?_
  rw [xc_seq]
  refine xc_step fun C2 hC2 => ?_
  simp [go_sem, xfieldAt, vload, c0]
  subst hC2
  rw [xc_block]
  refine xc_step fun C2 hC2 => ?_
  simp [go_sem, xbin, eqPlain]
  subst hC2
  refine xc_iftrue (by simp [go_sem]) ?_
  refine xc_reg 35 rfl fun K hK => ?_
  simp only [show (List.range 35).map (·, true) = [(0, true), (1, true), (2, true), (3, true), (4, true), (5, true), (6, true), (7, true), (8, true), (9, true), (10, true), (11, true), (12, true), (13, true), (14, true), (15, true), (16, true), (17, true), (18, true), (19, true), (20, true), (21, true), (22, true), (23, true), (24, true), (25, true), (26, true), (27, true), (28, true), (29, true), (30, true), (31, true), (32, true), (33, true), (34, true)] from rfl, rslv_cons, rslv_nil, List.getElem?_toArray, List.getElem?_cons_zero, List.getElem?_cons_succ, gres]
  (repeat (refine seqX_hide fun R hR => ?_; simp [go_sem, xfieldAt, xlen, vload, c2, c3, c11, xbin, eqPlain, wantR, undef, k1, k3]; subst hR))
  refine (word48 A1 s hs).mono ?_
  rintro _ _ ⟨⟨q, rfl⟩, rfl⟩
  rename_i A1
  cases q <;>
  · (repeat (refine seqX_hide fun R hR => ?_; simp [go_sem, xfieldAt, xlen, vload, c2, c3, c11, xbin, eqPlain, wantR, undef, k1, k3]; subst hR))
    rw [seqX_nil]
    refine hK _ _ _ ?_
    simp [go_sem]
    exact hle
theorem plain17 (A : View) (s : ByteArray) (hs : s.size ≤ 9223372036854775807) : VCalls Try.prog 17 #[.agg (nodeT s), .int .i64 1] A fun r A' => isB r ∧ A ≤ A' := by
  refine xcalls Try.func17 rfl (by simp [Try.ntmps17]) ?_
  simp only [Try.f17]
  refine xc_step fun C hC => ?_
  simp [go_sem, xnew, Value.cells]
  intro m hm
  subst hC
  have hA := set_at A m (.cells (nodeT s) 39)
  have hle : A ≤ A.set m (.cells (nodeT s) 39) := le_set hm
  generalize A.set m (.cells (nodeT s) 39) = A1 at *
  refine xc_step fun C hC => ?_
  simp [go_sem, xnew, Value.cells, zeroOf]
  intro m5 hm5
  have d5 : m ≠ m5 := fun hx => by rw [← hx, hA] at hm5; cases hm5
  have hst : xstore Try.prog 3 (.pointer (some ⟨m5, 0, none⟩)) (.int .i64 1) (A1.set m5 (.cells #[.int .i64 0] 3)) = some ((A1.set m5 (.cells #[.int .i64 0] 3)).set m5 (.cells #[.int .i64 1] 3 (0, 0))) := xstore_field ti3 (set_at _ _ _) (by simp) rfl
  rw [set_set] at hst
  simp [hst, onS_some]
  subst hC
  have hA2 : (A1.set m5 (.cells #[.int .i64 1] 3)) m = some (.cells (nodeT s) 39 (0, 0)) := by rw [set_other d5]; exact hA
  have hb := cells_block hA2 (n := 12) rfl
  simp [go_sem, vload, hb]
  refine (plain32 _ s m5 hs (set_at _ _ _)).mono ?_
  rintro r A' ⟨h1, h2⟩
  refine ⟨h1, View.le_trans hle (View.le_trans ?_ h2)⟩
  intro b o hb
  have hne : b ≠ m5 := fun hx => by rw [hx, hm5] at hb; cases hb
  show (if b = m5 then none else _) = _
  rw [if_neg hne, set_other hne]
  exact hb
end Go.Proofs.YtcficphbjicneaaV

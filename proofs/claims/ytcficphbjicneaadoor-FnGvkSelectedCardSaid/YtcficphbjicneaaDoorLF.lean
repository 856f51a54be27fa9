/- Groups, versions and kinds: where the two lists of kinds read as listed, they can be read; the law in the row's words. -/
import Derived.Test.YtcficphbjicneaaDoorLE
import Derived.Test.YtcficphbjicneaaDoorRows
import Derived.LaidMore
import Derived.LaidOnce
import Derived.Lay
namespace Go.Proofs.YtcficphbjicneaaDoorV
open Go.RowKit
theorem gFirst : Tryd.prog.globalNamed "given.example/pub-antistrophe/pub/kyaml/resid.orderFirst" = some 1 := by kernel_rfl
theorem gLast : Tryd.prog.globalNamed "given.example/pub-antistrophe/pub/kyaml/resid.orderLast" = some 0 := by kernel_rfl
theorem tFirst : (Tryd.prog.globals[1]?).map (·.type) = some 65 := by kernel_rfl
theorem tLast : (Tryd.prog.globals[0]?).map (·.type) = some 65 := by kernel_rfl
theorem full_cell (W : World) (a : Addr) : (full W).cell? a = W.cell? a := by
  unfold View.cell? World.cell? full
  cases W.heap[a.block]? with
  | none => rfl
  | some o => cases o <;> rfl
theorem of_laid {W : World} (h : laidMetH Tryd.prog YtcficphbjicneaaDoor.Rows.fnGvkSelectedRow.laid W) : GV (full W) := by
  rw [MakeChecks.laidMetH_plain _ _ _ (by kernel_rfl)] at h
  obtain ⟨ps, ⟨g0, t0, cs0, f0, p0, q0, hg0, ht0, hv0, hd0, ⟨g1, t1, cs1, f1, p1, q1, hg1, ht1, hv1, hd1, _, _⟩, _⟩, _, _⟩ := h
  obtain rfl := Option.some.inj (gFirst.symm.trans hg0)
  obtain rfl := Option.some.inj (gLast.symm.trans hg1)
  obtain rfl := Option.some.inj (tFirst.symm.trans ht0)
  obtain rfl := Option.some.inj (tLast.symm.trans ht1)
  obtain ⟨v0, y0, e0, o0⟩ := opn_texts Tryd.underlying65 Tryd.underlying9 (by kernel_rfl) _ _ _ hd0
  obtain ⟨v1, y1, e1, o1⟩ := opn_texts Tryd.underlying65 Tryd.underlying9 (by kernel_rfl) _ _ _ hd1
  have c0 := World.var?_cell hg0 hv0 0
  have c1 := World.var?_cell hg1 hv1 0
  rw [Array.eq_one_of_toList e0] at c0
  rw [Array.eq_one_of_toList e1] at c1
  refine ⟨v1, v0, y1, y0, ?_, o1.1, Nat.le_trans o1.2.1 (by decide), ?_, o0.1, Nat.le_trans o0.2.1 (by decide)⟩
  · rw [full_cell]; simpa using c1
  · rw [full_cell]; simpa using c0
theorem law3' (W : World) (G : GV (full W)) (a b c d f a' b' c' d' f' : ByteArray) (w : Int) (hw : (Lit.int .u8 w).wf = true) :
    VCalls Tryd.prog 3 #[.agg #[.string a, .string b, .string c, .string d, .string f], .agg #[.string a', .string b', .string c', .string d', .string f'], .int .u8 w] (full W) fun r A' => r = .bool true ∧ full W ≤ A' :=
  law3 (full W) G a b c d f a' b' c' d' f' w
end Go.Proofs.YtcficphbjicneaaDoorV

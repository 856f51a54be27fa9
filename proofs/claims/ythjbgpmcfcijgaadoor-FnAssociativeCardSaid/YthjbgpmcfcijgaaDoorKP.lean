/- Trees: where the list of keys reads as listed, it can be read; law 4 in the row's words. -/
import Derived.Test.YthjbgpmcfcijgaaDoorKO
import Derived.Test.YthjbgpmcfcijgaaDoorRows
import Derived.LaidMore
import Derived.LaidOnce
import Derived.Lay
namespace Go.Proofs.YthjbgpmcfcijgaaDoorV
open Go.RowKit
set_option linter.unusedSimpArgs false
set_option linter.unusedVariables false
theorem gKeys : Tryd.prog.globalNamed "given.example/pub-antistrophe/pub/kyaml/yaml.AssociativeSequenceKeys" = some 0 := by kernel_rfl
theorem tKeys : (Tryd.prog.globals[0]?).map (·.type) = some 41 := by kernel_rfl
theorem full_cell (W : World) (a : Addr) : (full W).cell? a = W.cell? a := by
  unfold View.cell? World.cell? full
  cases W.heap[a.block]? with
  | none => rfl
  | some o => cases o <;> rfl
set_option maxRecDepth 20000 in
theorem of_laid {W : World} (h : laidMetH Tryd.prog YthjbgpmcfcijgaaDoor.Rows.fnAssociativeRow.laid W) : GN (full W) := by
  rw [MakeChecks.laidMetH_plain _ _ _ (by kernel_rfl)] at h
  obtain ⟨ps, ⟨g0, t0, cs0, f0, p0, q0, hg0, ht0, hv0, hd0, _, _⟩, _, _⟩ := h
  obtain rfl := Option.some.inj (gKeys.symm.trans hg0)
  obtain rfl := Option.some.inj (tKeys.symm.trans ht0)
  have c0 := World.var?_cell hg0 hv0 0
  rcases DataW.trod_slice Tryd.underlying41 hd0 with ⟨_, e6⟩ | ⟨a, len, cap, elems, rest, m, hm, e6, ex, hb, hl, hmx, hlen, hel2, _, _⟩
  · cases e6
  · rw [Array.eq_one_of_toList e6] at c0
    have e7 := (Prod.mk.inj ex).1
    replace e7 : (DataW.slice [.lit (.string [110, 97, 109, 101])] [] : DataW _) = .slice (elems.map (·.1)) (rest.map (·.1)) := e7
    injection e7 with e8 e9
    match elems, e8, hlen, hel2 with
    | [(d, p)], e8, hlen, hel2 =>
      replace e8 : [DataW.lit (.string [110, 97, 109, 101])] = [d] := e8
      obtain rfl := (List.cons.inj e8).1
      obtain rfl : len = 1 := hlen.symm
      have h1 := hel2 0 (by omega)
      have hc1 : Tryd.prog.cellsOf 9 = 1 := by kernel_rfl
      simp only [hc1] at h1
      rw [show ([(DataW.lit (.string [110, 97, 109, 101]), p)] : List (DataW _ × List MemPlace))[0]? = some (.lit (.string [110, 97, 109, 101]), p) from rfl, Option.bind_eq_some_iff] at h1
      obtain ⟨cs, hcs, htr⟩ := h1
      obtain ⟨_, hl1, hcell⟩ := World.cells?_some hcs
      obtain ⟨s, e1, e2, _⟩ := DataW.trod_string Tryd.underlying9 htr
      have hs : s = vName := by
        have e3 : DataW.lit (.string [110, 97, 109, 101]) = DataW.lit (.string s.data.toList) := (Prod.mk.inj e2).1
        injection e3 with e4
        injection e4 with e5
        obtain ⟨⟨l⟩⟩ := s
        rw [vName]
        congr 2
        exact e5.symm
      have h2 := hcell 0 (by omega)
      rw [e1, hs] at h2
      refine ⟨a, cap, ?_, ?_⟩
      · rw [full_cell]; simpa using c0
      · rw [show (a.add (0 * 1)).add 0 = a by rw [Addr.add, if_pos rfl, Addr.add, if_pos rfl]] at h2
        exact h2
theorem law4 (W : World) (G : GN (full W)) (v : Value) (l : List Tr) (h : Trs (full W) v l ∧ l.length ≤ 1125899906842624 ∧ ∀ t ∈ l, SB t) : VCalls Tryd.prog 4 #[v] (full W) fun r A' => r = .bool true ∧ full W ≤ A' := assoc4 (full W) G v l h
end Go.Proofs.YthjbgpmcfcijgaaDoorV

/- FnGvkSelected: the row and its tied card, where the listed variables read as listed, out of the walk in YtcficphbjicneaaDoorLF. -/
import Derived.Test.YtcficphbjicneaaDoorCards
import Derived.Test.YtcficphbjicneaaDoorTie
import Derived.Test.YtcficphbjicneaaDoorLF
import Derived.WalkKit
import Derived.ProofKit
import Derived.OpenShut
import Derived.ShutString
import Derived.ChangeOld
import Derived.ChangeAlike
import Derived.Below
import Derived.SizedLaws
import Derived.LaidMore
import Derived.LaidOnce
import Derived.Lay
import Derived.SevenTiedAt
import Derived.OpenVars
namespace Go.Proofs.YtcficphbjicneaaDoor.fnGvkSelected
open Go.ChangeShapes Go.WideShapes Go.ChangeAt Go.RowKit
open Go.ChangeMaps (open_string shut_string)
set_option linter.unusedVariables false
theorem own : ownKnob Tryd.prog.godebug = none := by kernel_rfl
theorem laidOut : laidOutB Tryd.prog = true := by kernel_rfl
set_option maxRecDepth 100000 in
theorem lifted (os : Os) (started : os.Started) (H : Type) (enc : TypeId × Value → H) :
    ReturnsInHanded {} Tryd.checked os 3 .any (fun w args => (Rows.fnGvkSelectedSpec.pre enc Tryd.prog Tryd.f3 [] false w args ∧ laidMetH Tryd.prog Rows.fnGvkSelectedRow.laid w) ∧ sizedMet enc Tryd.prog Tryd.f3 (OpenSpec.ofChange Rows.fnGvkSelectedSpec) false w args)
      (Rows.fnGvkSelectedSpec.post enc Tryd.prog Tryd.f3 false true false false) := by
  refine returnsInHanded_of_change_and (C := Tryd.checked) (X := fun w _ => laidMetH Tryd.prog Rows.fnGvkSelectedRow.laid w) (fun _ _ _ hh h => h.of_heap hh) own started (by kernel_rfl) Tryd.func3
    (ChangeSpec.witness_shaped (enc := enc) (C := Tryd.checked) (os := os) (X := fun w _ => laidMetH Tryd.prog Rows.fnGvkSelectedRow.laid w) false (World.laidAll Tryd.prog os Rows.fnGvkSelectedRow.laid) #[.agg #[.string ByteArray.empty, .string ByteArray.empty, .string ByteArray.empty, .string ByteArray.empty, .string ByteArray.empty], .agg #[.string ByteArray.empty, .string ByteArray.empty, .string ByteArray.empty, .string ByteArray.empty, .string ByteArray.empty], .int .u8 0] 8 (World.laidAll_os _ _ _)
      (World.shaped_of_ZipB (by kernel_rfl) (by kernel_rfl)) (by kernel_rfl) (by kernel_rfl) (by kernel_rfl)
      (by rw [MakeChecks.laidMetH_plain _ _ _ (by kernel_rfl)]; exact laidMet_laidAll _ (by kernel_rfl) (by kernel_rfl))) ?_
  intro W base args ds gs before hval0 hW _ hsz0 hL _
  have hsz : (DataW.weightsEach Tryd.prog (Tryd.f3.params.toList ++ Rows.fnGvkSelectedSpec.plain.varTypes Tryd.prog) (ds ++ gs)).all (· ≤ reachBytes) = true := hsz0
  have hval : ∀ (j : Nat) t v, Tryd.f3.params[j]? = some t → args[j]? = some v → Value.okWide Tryd.prog W .any base t v := hval0
  have hW' := hW
  obtain ⟨p, q, hA0, hV, rfl, hfz, hnd⟩ := hW
  have hA : DataW.TrodAll enc Tryd.prog W 0 (fun _ => true) true Tryd.f3.params.toList args.toList ds p := hA0
  rw [Tryd.params3] at hA hval hsz
  obtain ⟨v0, vs0, d0, ds0, p0, q0, hargs, rfl, rfl, h0, r0⟩ := trodAll_cons hA
  obtain ⟨v1, vs1, d1, ds1, p1, q1, rfl, rfl, rfl, h1, r1⟩ := trodAll_cons r0
  obtain ⟨v2, vs2, d2, ds2, p2, q2, rfl, rfl, rfl, h2, r2⟩ := trodAll_cons r1
  obtain ⟨rfl, rfl, rfl⟩ := trodAll_nil r2
  obtain rfl : args = #[v0, v1, v2] := by cases args; simp_all
  have hV2 : DataW.TrodVars enc Tryd.prog W (fun _ => true) ["given.example/pub-antistrophe/pub/kyaml/resid.orderLast", "given.example/pub-antistrophe/pub/kyaml/resid.orderFirst"] gs q := hV
  obtain ⟨g0_, t0_, cs0_, f0_, e0_, q0_, g1_, t1_, cs1_, f1_, e1_, q1_, rfl, _, _, _, _, _, _, _, _, rfl⟩ := trodVars_two hV2
  have hV3 : DataW.TrodVars enc Tryd.prog W (fun _ => true) ["given.example/pub-antistrophe/pub/kyaml/resid.orderLast", "given.example/pub-antistrophe/pub/kyaml/resid.orderFirst"] _ _ := hV
  have k0 := h0
  have lt0 : ∀ x ∈ p0, x.block < W.heap.size := by obtain ⟨m, hm⟩ := k0; exact DataW.trod_lt m _ _ _ hm
  obtain ⟨cs0, m0, rfl, sz0, f0⟩ := YtcficphbjicneaaDoorV.agg_of Tryd.underlying23 (hval 0 23 v0 rfl rfl) h0
  obtain ⟨b0_0, b0_1, b0_2, b0_3, b0_4, rfl⟩ := YtcficphbjicneaaDoorV.array5 (sz0.trans (show Tryd.prog.cellsOf 23 = 5 by kernel_rfl))
  obtain ⟨y0_0, g0_0⟩ := f0 0 _ rfl
  obtain ⟨a0_0, e0_0, _, _⟩ := DataW.trod_string Tryd.underlying9 g0_0
  replace e0_0 : [b0_0] = _ := e0_0
  obtain rfl := (List.cons.inj e0_0).1
  obtain ⟨y0_1, g0_1⟩ := f0 1 _ rfl
  obtain ⟨a0_1, e0_1, _, _⟩ := DataW.trod_string Tryd.underlying9 g0_1
  replace e0_1 : [b0_1] = _ := e0_1
  obtain rfl := (List.cons.inj e0_1).1
  obtain ⟨y0_2, g0_2⟩ := f0 2 _ rfl
  obtain ⟨a0_2, e0_2, _, _⟩ := DataW.trod_string Tryd.underlying9 g0_2
  replace e0_2 : [b0_2] = _ := e0_2
  obtain rfl := (List.cons.inj e0_2).1
  obtain ⟨y0_3, g0_3⟩ := f0 3 _ rfl
  obtain ⟨a0_3, e0_3, _, _⟩ := DataW.trod_string Tryd.underlying9 g0_3
  replace e0_3 : [b0_3] = _ := e0_3
  obtain rfl := (List.cons.inj e0_3).1
  obtain ⟨y0_4, g0_4⟩ := f0 4 _ rfl
  obtain ⟨a0_4, e0_4, _, _⟩ := DataW.trod_string Tryd.underlying9 g0_4
  replace e0_4 : [b0_4] = _ := e0_4
  obtain rfl := (List.cons.inj e0_4).1
  have k1 := h1
  have lt1 : ∀ x ∈ p1, x.block < W.heap.size := by obtain ⟨m, hm⟩ := k1; exact DataW.trod_lt m _ _ _ hm
  obtain ⟨cs1, m1, rfl, sz1, f1⟩ := YtcficphbjicneaaDoorV.agg_of Tryd.underlying23 (hval 1 23 v1 rfl rfl) h1
  obtain ⟨b1_0, b1_1, b1_2, b1_3, b1_4, rfl⟩ := YtcficphbjicneaaDoorV.array5 (sz1.trans (show Tryd.prog.cellsOf 23 = 5 by kernel_rfl))
  obtain ⟨y1_0, g1_0⟩ := f1 0 _ rfl
  obtain ⟨a1_0, e1_0, _, _⟩ := DataW.trod_string Tryd.underlying9 g1_0
  replace e1_0 : [b1_0] = _ := e1_0
  obtain rfl := (List.cons.inj e1_0).1
  obtain ⟨y1_1, g1_1⟩ := f1 1 _ rfl
  obtain ⟨a1_1, e1_1, _, _⟩ := DataW.trod_string Tryd.underlying9 g1_1
  replace e1_1 : [b1_1] = _ := e1_1
  obtain rfl := (List.cons.inj e1_1).1
  obtain ⟨y1_2, g1_2⟩ := f1 2 _ rfl
  obtain ⟨a1_2, e1_2, _, _⟩ := DataW.trod_string Tryd.underlying9 g1_2
  replace e1_2 : [b1_2] = _ := e1_2
  obtain rfl := (List.cons.inj e1_2).1
  obtain ⟨y1_3, g1_3⟩ := f1 3 _ rfl
  obtain ⟨a1_3, e1_3, _, _⟩ := DataW.trod_string Tryd.underlying9 g1_3
  replace e1_3 : [b1_3] = _ := e1_3
  obtain rfl := (List.cons.inj e1_3).1
  obtain ⟨y1_4, g1_4⟩ := f1 4 _ rfl
  obtain ⟨a1_4, e1_4, _, _⟩ := DataW.trod_string Tryd.underlying9 g1_4
  replace e1_4 : [b1_4] = _ := e1_4
  obtain rfl := (List.cons.inj e1_4).1
  obtain ⟨a2, rfl, rfl, rfl, w2⟩ := open_int Tryd.underlying5 (hval 2 5 v2 rfl rfl) h2
  clear hA0 hval0 hsz0 hsz
  have gl := YtcficphbjicneaaDoorV.of_laid hL
  refine (YtcficphbjicneaaDoorV.calls_full (YtcficphbjicneaaDoorV.law3' W gl a0_0 a0_1 a0_2 a0_3 a0_4 a1_0 a1_1 a1_2 a1_3 a1_4 a2 w2)).mono fun e W' ⟨he, bel⟩ => ?_
  subst he
  exact ⟨_, rfl, _, _, _, _, _, _, hW', trodAll_mk1 (shut_bool Tryd.underlying4 _), (trodAll_cons_mk (Below.trod laidOut (by kernel_rfl) (of_decide_eq_true (by kernel_rfl)) k0 bel lt0) (trodAll_cons_mk (Below.trod laidOut (by kernel_rfl) (of_decide_eq_true (by kernel_rfl)) k1 bel lt1) (trodAll_cons_mk (shut_int Tryd.underlying5 w2) trodAll_mk0))), Below.trodVars laidOut bel (by kernel_rfl) hV3, bel.frame _, fun h => by cases h⟩
theorem over : Rows.FnGvkSelectedSaid :=
  OpenClaim.holds_of_wide 3 Tryd.f3 rfl rfl rfl rfl rfl rfl rfl ⟨rfl, rfl, rfl, rfl, rfl⟩ rfl rfl rfl rfl rfl (by kernel_rfl) Tryd.func3 (by kernel_rfl)
    (of_decide_eq_true (by kernel_rfl)) (by unfold Func.isWrapper; first | (rw [if_pos (by decide +kernel)]; kernel_rfl) | (rw [if_neg (by decide +kernel)]; exact ⟨rfl, rfl⟩))
    (fun os started H enc _ => lifted os started H enc)
theorem proved : Rows.FnGvkSelectedCardSaid :=
  Claim7.holds_tied_plain_at .later [] [.data, .data] true (true, "c1667defb1b6fb1bd34e61b52cb1b34d3f563430807d99d1883117196eea9a4f") false
    over (fun _ h => by cases h) (by kernel_rfl) (fun _ h => by cases h) fnGvkSelected_row_tie rfl ⟨rfl, rfl⟩ (by kernel_rfl) rfl
    (fun f fn hf hfn => by
      obtain rfl : f = 3 := Option.some.inj ((show Tryd.prog.funcNamed "given.example/pub-antistrophe/laws.FnGvkSelected" = some 3 by kernel_rfl).symm.trans hf) |>.symm
      obtain rfl : fn = Tryd.f3 := (Option.some.inj (Tryd.func3.symm.trans hfn)).symm
      exact ⟨by kernel_rfl, fun j t ht => by
        rw [Tryd.params3] at ht
        have hm : t ∈ [5, 23] := by have := Array.mem_of_getElem? ht; simp at this; rcases this with rfl | rfl | rfl <;> simp
        have hall : ([5, 23].all fun u => !Tryd.prog.wantsStandIn u) = true := by kernel_rfl
        exact (show Tryd.prog.wantsStandIn t = false by simpa using List.all_eq_true.1 hall t hm)⟩)
    (by kernel_rfl)
#print axioms proved
end Go.Proofs.YtcficphbjicneaaDoor.fnGvkSelected
namespace Go.Proofs.YtcficphbjicneaaDoor
/-- The card, under a short name, for the claim. -/
theorem fnGvkSelected_holds : Rows.FnGvkSelectedCardSaid := fnGvkSelected.proved
end Go.Proofs.YtcficphbjicneaaDoor

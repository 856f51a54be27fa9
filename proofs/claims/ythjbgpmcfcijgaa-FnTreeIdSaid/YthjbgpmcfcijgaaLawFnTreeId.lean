/- The row of FnTreeId: for every input the law answers true and leaves its arguments as they were, out of the walk in YthjbgpmcfcijgaaKW; no condition. -/
import Derived.Test.YthjbgpmcfcijgaaRows
import Derived.Test.YthjbgpmcfcijgaaKW
import Derived.WalkKit
import Derived.ProofKit
import Derived.OpenShut
import Derived.ShutString
import Derived.ChangeOld
import Derived.Below
import Derived.SizedLaws
namespace Go.Proofs.Ythjbgpmcfcijgaa.fnTreeId
open Go.ChangeShapes Go.WideShapes Go.ChangeAt Go.RowKit
open Go.ChangeMaps (open_string shut_string)
set_option linter.unusedVariables false
theorem own : ownKnob Try.prog.godebug = none := by kernel_rfl
theorem laidOut : laidOutB Try.prog = true := by kernel_rfl
set_option maxRecDepth 100000 in
theorem lifted (os : Os) (started : os.Started) (H : Type) (enc : TypeId × Value → H) :
    ReturnsInHanded {} Try.checked os 3 .any (Rows.fnTreeIdSpec.pre6 enc Try.prog Try.f3 Rows.fnTreeIdRow.domain false) (Rows.fnTreeIdSpec.post enc Try.prog Try.f3 false true false false) := by
  refine returnsInHanded_of_change_sized (C := Try.checked) own started (by kernel_rfl) Try.func3
    (ChangeSpec.witness6 (enc := enc) (C := Try.checked) false ⟨#[], #[.agg #[.string ByteArray.empty, .string ByteArray.empty, .string ByteArray.empty, .string ByteArray.empty, .string ByteArray.empty]], []⟩ 8 (by kernel_rfl) (by kernel_rfl) (by kernel_rfl) (by kernel_rfl)) ?_
  intro W base args ds gs before hval0 hW hcnd hsz0 _
  have hsz : (DataW.weightsEach Try.prog (Try.f3.params.toList ++ Rows.fnTreeIdSpec.plain.varTypes Try.prog) (ds ++ gs)).all (· ≤ reachBytes) = true := hsz0
  have hval : ∀ (j : Nat) t v, Try.f3.params[j]? = some t → args[j]? = some v → Value.okWide Try.prog W .any base t v := hval0
  have hW' := hW
  obtain ⟨p, q, hA0, hV, rfl, hfz, hnd⟩ := hW
  have hA : DataW.TrodAll enc Try.prog W 0 (fun _ => true) true Try.f3.params.toList args.toList ds p := hA0
  rw [Try.params3] at hA hval hsz
  obtain ⟨v0, vs0, d0, ds0, p0, q0, hargs, rfl, rfl, h0, r0⟩ := trodAll_cons hA
  obtain ⟨rfl, rfl, rfl⟩ := trodAll_nil r0
  obtain rfl : args = #[v0] := by cases args; simp_all
  obtain ⟨rfl, rfl⟩ := trodVars_none hV
  have k0 := h0
  have lt0 : ∀ x ∈ p0, x.block < W.heap.size := by obtain ⟨m, hm⟩ := k0; exact DataW.trod_lt m _ _ _ hm
  obtain ⟨cs0, m0, rfl, sz0, f0⟩ := YthjbgpmcfcijgaaV.agg_of Try.underlying23 (hval 0 23 v0 rfl rfl) h0
  obtain ⟨b0_0, b0_1, b0_2, b0_3, b0_4, rfl⟩ := YthjbgpmcfcijgaaV.array5 (sz0.trans (show Try.prog.cellsOf 23 = 5 by kernel_rfl))
  obtain ⟨y0_0, g0_0⟩ := f0 0 _ rfl
  obtain ⟨a0_0, e0_0, _, _⟩ := DataW.trod_string Try.underlying9 g0_0
  replace e0_0 : [b0_0] = _ := e0_0
  obtain rfl := (List.cons.inj e0_0).1
  obtain ⟨y0_1, g0_1⟩ := f0 1 _ rfl
  obtain ⟨a0_1, e0_1, _, _⟩ := DataW.trod_string Try.underlying9 g0_1
  replace e0_1 : [b0_1] = _ := e0_1
  obtain rfl := (List.cons.inj e0_1).1
  obtain ⟨y0_2, g0_2⟩ := f0 2 _ rfl
  obtain ⟨a0_2, e0_2, _, _⟩ := DataW.trod_string Try.underlying9 g0_2
  replace e0_2 : [b0_2] = _ := e0_2
  obtain rfl := (List.cons.inj e0_2).1
  obtain ⟨y0_3, g0_3⟩ := f0 3 _ rfl
  obtain ⟨a0_3, e0_3, _, _⟩ := DataW.trod_string Try.underlying9 g0_3
  replace e0_3 : [b0_3] = _ := e0_3
  obtain rfl := (List.cons.inj e0_3).1
  obtain ⟨y0_4, g0_4⟩ := f0 4 _ rfl
  obtain ⟨a0_4, e0_4, _, _⟩ := DataW.trod_string Try.underlying9 g0_4
  replace e0_4 : [b0_4] = _ := e0_4
  obtain rfl := (List.cons.inj e0_4).1
  clear hA0 hval0 hsz0 hsz
  refine (YthjbgpmcfcijgaaV.calls_full (YthjbgpmcfcijgaaV.law3 W a0_0 a0_1 a0_2 a0_3 a0_4)).mono fun e W' ⟨he, bel⟩ => ?_
  subst he
  exact ⟨_, rfl, _, _, _, [], _, [], hW', trodAll_mk1 (shut_bool Try.underlying4 _), (trodAll_cons_mk (Below.trod laidOut (by kernel_rfl) (of_decide_eq_true (by kernel_rfl)) k0 bel lt0) trodAll_mk0), rfl, bel.frame _, fun h => by cases h⟩
theorem over : Rows.fnTreeIdRow.holds Try.pinned (OpenSpec.ofChange Rows.fnTreeIdSpec) :=
  OpenClaim.holds_of_wide 3 Try.f3 rfl rfl rfl rfl rfl rfl rfl ⟨rfl, rfl, rfl, rfl, rfl⟩ rfl rfl rfl rfl rfl (by kernel_rfl) Try.func3 (by kernel_rfl)
    (of_decide_eq_true (by kernel_rfl)) (by unfold Func.isWrapper; first | (rw [if_pos (by decide +kernel)]; kernel_rfl) | (rw [if_neg (by decide +kernel)]; exact ⟨rfl, rfl⟩))
    (fun os started H enc _ => lifted os started H enc)
theorem proved : Rows.FnTreeIdSaid := over
#print axioms proved
end Go.Proofs.Ythjbgpmcfcijgaa.fnTreeId
namespace Go.Proofs.Ythjbgpmcfcijgaa
/-- The row, under a short name, for the claim. -/
theorem fnTreeId_holds : Rows.FnTreeIdSaid := fnTreeId.proved
end Go.Proofs.Ythjbgpmcfcijgaa

/- FnAssociative: the row and its tied card, where the listed variables read as listed, out of the walk in YthjbgpmcfcijgaaDoorKP. -/
import Derived.Test.YthjbgpmcfcijgaaDoorCards
import Derived.Test.YthjbgpmcfcijgaaDoorTie
import Derived.Test.YthjbgpmcfcijgaaDoorKP
import Derived.WalkKit
import Derived.ProofKit
import Derived.OpenShut
import Derived.ShutString
import Derived.ChangeOld
import Derived.ChangeAlike
import Derived.Below
import Derived.SizedLaws
import Derived.LaidMore
import Derived.LaidOnce
import Derived.Lay
import Derived.SevenTiedAt
import Derived.OpenVars
namespace Go.Proofs.YthjbgpmcfcijgaaDoor.fnAssociative
open Go.ChangeShapes Go.WideShapes Go.ChangeAt Go.RowKit
open Go.ChangeMaps (open_string shut_string)
set_option linter.unusedVariables false
theorem own : ownKnob Tryd.prog.godebug = none := by kernel_rfl
theorem laidOut : laidOutB Tryd.prog = true := by kernel_rfl
set_option maxRecDepth 100000 in
theorem lifted (os : Os) (started : os.Started) (H : Type) (enc : TypeId × Value → H) :
    ReturnsInHanded {} Tryd.checked os 4 .any (fun w args => (Rows.fnAssociativeSpec.pre enc Tryd.prog Tryd.f4 [] false w args ∧ laidMetH Tryd.prog Rows.fnAssociativeRow.laid w) ∧ sizedMet enc Tryd.prog Tryd.f4 (OpenSpec.ofChange Rows.fnAssociativeSpec) false w args)
      (Rows.fnAssociativeSpec.post enc Tryd.prog Tryd.f4 false true false false) := by
  refine returnsInHanded_of_change_and (C := Tryd.checked) (X := fun w _ => laidMetH Tryd.prog Rows.fnAssociativeRow.laid w) (fun _ _ _ hh h => h.of_heap hh) own started (by kernel_rfl) Tryd.func4
    (ChangeSpec.witness_shaped (enc := enc) (C := Tryd.checked) (os := os) (X := fun w _ => laidMetH Tryd.prog Rows.fnAssociativeRow.laid w) false (World.laidAll Tryd.prog os Rows.fnAssociativeRow.laid) #[.slice none 0 0] 8 (World.laidAll_os _ _ _)
      (World.shaped_of_ZipB (by kernel_rfl) (by kernel_rfl)) (by kernel_rfl) (by kernel_rfl) (by kernel_rfl)
      (by rw [MakeChecks.laidMetH_plain _ _ _ (by kernel_rfl)]; exact laidMet_laidAll _ (by kernel_rfl) (by kernel_rfl))) ?_
  intro W base args ds gs before hval0 hW _ hsz0 hL _
  have hsz : (DataW.weightsEach Tryd.prog (Tryd.f4.params.toList ++ Rows.fnAssociativeSpec.plain.varTypes Tryd.prog) (ds ++ gs)).all (· ≤ reachBytes) = true := hsz0
  have hval : ∀ (j : Nat) t v, Tryd.f4.params[j]? = some t → args[j]? = some v → Value.okWide Tryd.prog W .any base t v := hval0
  have hW' := hW
  obtain ⟨p, q, hA0, hV, rfl, hfz, hnd⟩ := hW
  have hA : DataW.TrodAll enc Tryd.prog W 0 (fun _ => true) true Tryd.f4.params.toList args.toList ds p := hA0
  rw [Tryd.params4] at hA hval hsz
  obtain ⟨v0, vs0, d0, ds0, p0, q0, hargs, rfl, rfl, h0, r0⟩ := trodAll_cons hA
  obtain ⟨rfl, rfl, rfl⟩ := trodAll_nil r0
  obtain rfl : args = #[v0] := by cases args; simp_all
  have hV2 : DataW.TrodVars enc Tryd.prog W (fun _ => true) ["given.example/pub-antistrophe/pub/kyaml/yaml.AssociativeSequenceKeys"] gs q := hV
  obtain ⟨g0_, t0_, cs0_, f0_, e0_, q0_, rfl, _, _, _, _, rfl⟩ := trodVars_one hV2
  have hV3 : DataW.TrodVars enc Tryd.prog W (fun _ => true) ["given.example/pub-antistrophe/pub/kyaml/yaml.AssociativeSequenceKeys"] _ _ := hV
  obtain ⟨a0, len0, cap0, rfl⟩ := okWide_slice Tryd.underlying31 (hval 0 31 v0 rfl rfl)
  have k0 := h0
  have lt0 : ∀ x ∈ p0, x.block < W.heap.size := by obtain ⟨m, hm⟩ := k0; exact DataW.trod_lt m _ _ _ hm
  obtain ⟨u0, y0, e0, o0⟩ := (let ⟨fu, hfu⟩ := h0; YthjbgpmcfcijgaaDoorV.opn_trs fu _ _ hfu (fun n hn => by have := List.all_eq_true.1 hsz n (DataW.weights_mem_each (j := 0) (t := 31) rfl rfl n hn); simpa using this))
  replace e0 : [Value.slice a0 len0 cap0] = [u0] := e0
  obtain rfl := (List.cons.inj e0).1
  clear hA0 hval0 hsz0 hsz
  have gl := YthjbgpmcfcijgaaDoorV.of_laid hL
  refine (YthjbgpmcfcijgaaDoorV.calls_full (YthjbgpmcfcijgaaDoorV.law4 W gl (.slice a0 len0 cap0) y0 o0)).mono fun e W' ⟨he, bel⟩ => ?_
  subst he
  exact ⟨_, rfl, _, _, _, _, _, _, hW', trodAll_mk1 (shut_bool Tryd.underlying4 _), (trodAll_cons_mk (Below.trod laidOut (by kernel_rfl) (of_decide_eq_true (by kernel_rfl)) k0 bel lt0) trodAll_mk0), Below.trodVars laidOut bel (by kernel_rfl) hV3, bel.frame _, fun h => by cases h⟩
theorem over : Rows.FnAssociativeSaid :=
  OpenClaim.holds_of_wide 4 Tryd.f4 rfl rfl rfl rfl rfl rfl rfl ⟨rfl, rfl, rfl, rfl, rfl⟩ rfl rfl rfl rfl rfl (by kernel_rfl) Tryd.func4 (by kernel_rfl)
    (of_decide_eq_true (by kernel_rfl)) (by unfold Func.isWrapper; first | (rw [if_pos (by decide +kernel)]; kernel_rfl) | (rw [if_neg (by decide +kernel)]; exact ⟨rfl, rfl⟩))
    (fun os started H enc _ => lifted os started H enc)
theorem proved : Rows.FnAssociativeCardSaid :=
  Claim7.holds_tied_plain_at .later [] [.data] true (true, "d65dad2bca93240fc94df054dbcef063a7706ba46443fd68f11ac90fb2fa168c") true
    over (fun _ h => by cases h) (by kernel_rfl) (fun _ h => by cases h) fnAssociative_row_tie rfl ⟨rfl, rfl⟩ (by kernel_rfl) rfl
    (fun f fn hf hfn => by
      obtain rfl : f = 4 := Option.some.inj ((show Tryd.prog.funcNamed "given.example/pub-antistrophe/laws.FnAssociative" = some 4 by kernel_rfl).symm.trans hf) |>.symm
      obtain rfl : fn = Tryd.f4 := (Option.some.inj (Tryd.func4.symm.trans hfn)).symm
      exact ⟨by kernel_rfl, fun j t ht => by
        rw [Tryd.params4] at ht
        have hm : t ∈ [31] := by simpa using Array.mem_of_getElem? ht
        have hall : ([31].all fun u => !Tryd.prog.wantsStandIn u) = true := by kernel_rfl
        exact (show Tryd.prog.wantsStandIn t = false by simpa using List.all_eq_true.1 hall t hm)⟩)
    (by kernel_rfl)
#print axioms proved
end Go.Proofs.YthjbgpmcfcijgaaDoor.fnAssociative
namespace Go.Proofs.YthjbgpmcfcijgaaDoor
/-- The card, under a short name, for the claim. -/
theorem fnAssociative_holds : Rows.FnAssociativeCardSaid := fnAssociative.proved
end Go.Proofs.YthjbgpmcfcijgaaDoor

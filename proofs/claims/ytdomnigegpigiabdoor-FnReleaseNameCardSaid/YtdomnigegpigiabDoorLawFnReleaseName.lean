/- FnReleaseName: the row, where the two variables of the errors read as listed, and its tied card. -/
import Derived.Test.YtdomnigegpigiabDoorCards
import Derived.Test.YtdomnigegpigiabDoorTie
import Derived.Test.YtdomnigegpigiabDoorPureFnReleaseName
import Derived.WalkKit
import Derived.ProofKit
import Derived.OpenShut
import Derived.ShutString
import Derived.ChangeOld
import Derived.ChangeAlike
import Derived.Below
import Derived.SizedLaws
import Derived.LaidMore
import Derived.Stop.Joined
import Derived.SevenTiedAt
import Derived.Stop.LaidErr
namespace Go.Proofs.YtdomnigegpigiabDoor.fnReleaseName
open Go.ChangeShapes Go.WideShapes Go.ChangeAt Go.RowKit Go.WideMaps Go.WideElems
open Go.ChangeMaps (open_string shut_string)
set_option linter.unusedVariables false
theorem own : ownKnob Tryd.prog.godebug = none := by kernel_rfl

theorem iface_of_trod {H : Type} {enc : TypeId × Value → H} {P : Program} {w : World} {sp : Nat → Bool} {fuel : Nat} {t : TypeId} {ms : Array (String × TypeId)} {cs : List Value} {nm : String} {d : DataW H} {p : List MemPlace}
    (ht : P.underlying t = some (.interface ms)) (h : DataW.trod enc P w 0 sp false fuel t cs = some (.iface nm d, p)) : ∃ u v, cs = [.iface u v] := by
  cases fuel with
  | zero => simp [DataW.trod] at h
  | succ n =>
    match cs, h with
    | [], h => simp [DataW.trod, ht] at h
    | [v], h => cases v <;> first | exact ⟨_, _, rfl⟩ | (simp [DataW.trod, ht] at h)
    | _ :: _ :: _, h => simp [DataW.trod, ht] at h
theorem of_laid {W : World} (h : laidMetH Tryd.prog Rows.fnReleaseNameRow.laid W) : PFnReleaseName.Gl W := by
  rw [MakeChecks.laidMetH_plain _ _ _ (by kernel_rfl)] at h
  obtain ⟨ps, ⟨g0, t0, cs0, f0, p0, q0, hg0, ht0, hv0, hd0, ⟨g1, t1, cs1, f1, p1, q1, hg1, ht1, hv1, hd1, _, _⟩, _⟩, _, _⟩ := h
  obtain rfl := Option.some.inj (PFnReleaseName.gM.symm.trans hg0)
  obtain rfl := Option.some.inj (PFnReleaseName.gI.symm.trans hg1)
  obtain rfl := Option.some.inj (PFnReleaseName.tM.symm.trans ht0)
  obtain rfl := Option.some.inj (PFnReleaseName.tI.symm.trans ht1)
  obtain ⟨u0, v0, e0⟩ := iface_of_trod Tryd.underlying30 hd0
  obtain ⟨u1, v1, e1⟩ := iface_of_trod Tryd.underlying30 hd1
  refine ⟨u0, v0, u1, v1, ?_, ?_⟩
  · have := World.var?_cell hg0 hv0 0
    rw [Array.eq_one_of_toList e0] at this
    simpa using this
  · have := World.var?_cell hg1 hv1 0
    rw [Array.eq_one_of_toList e1] at this
    simpa using this
/-- The door's own heap meets the condition. -/
theorem door_met (os : Os) (args : Array Value) : laidMetH Tryd.prog Rows.fnReleaseNameRow.laid ((World.doorLaid Tryd.prog 400 os).forCall (fun _ _ => 0) ⟨#[], args, []⟩).memory :=
  laidMetH_of_parts3 (fuel := 8) (laidMet_of_run' 8 (by kernel_rfl) (by kernel_rfl)) (by kernel_rfl) (by kernel_rfl)

set_option maxRecDepth 100000 in
theorem lifted (os : Os) (started : os.Started) (H : Type) (enc : TypeId × Value → H) :
    ReturnsInHanded {} Tryd.checked os 3 .any (fun w args => (Rows.fnReleaseNameSpec.pre enc Tryd.prog Tryd.f3 [] false w args ∧ laidMetH Tryd.prog Rows.fnReleaseNameRow.laid w) ∧ sizedMet enc Tryd.prog Tryd.f3 (OpenSpec.ofChange Rows.fnReleaseNameSpec) false w args)
      (Rows.fnReleaseNameSpec.post enc Tryd.prog Tryd.f3 false true false false) := by
  refine returnsInHanded_of_change_and (C := Tryd.checked) (X := fun w _ => laidMetH Tryd.prog Rows.fnReleaseNameRow.laid w) (fun _ _ _ hh h => h.of_heap hh) own started (by kernel_rfl) Tryd.func3
    (ChangeSpec.witness_shaped (enc := enc) (C := Tryd.checked) (os := os) (X := fun w _ => laidMetH Tryd.prog Rows.fnReleaseNameRow.laid w) false (World.doorLaid Tryd.prog 400 os) #[.string ByteArray.empty] 8 rfl (World.shaped_of_RefB (by kernel_rfl) (by kernel_rfl)) (by kernel_rfl) (by kernel_rfl) (by kernel_rfl) (door_met os _)) ?_
  intro W base args ds gs before hval0 hW _ hsz0 hL _
  have hsz : (DataW.weightsEach Tryd.prog (Tryd.f3.params.toList ++ Rows.fnReleaseNameSpec.plain.varTypes Tryd.prog) (ds ++ gs)).all (· ≤ reachBytes) = true := hsz0
  have hval : ∀ (j : Nat) t v, Tryd.f3.params[j]? = some t → args[j]? = some v → Value.okWide Tryd.prog W .any base t v := hval0
  have hG := of_laid hL
  have hW' := hW
  obtain ⟨p, q, hA0, hV0, rfl, hfz, hnd⟩ := hW
  have hA : DataW.TrodAll enc Tryd.prog W 0 (fun _ => true) true Tryd.f3.params.toList args.toList ds p := hA0
  have hV : DataW.TrodVars enc Tryd.prog W (fun _ => true) ["given.example/pub-antistrophe/pub/helm/pkg/chartutil.errMissingName", "given.example/pub-antistrophe/pub/helm/pkg/chartutil.errInvalidName"] gs q := hV0
  rw [Tryd.params3] at hA hval hsz
  obtain ⟨v0, d0, rfl, rfl, h0⟩ := trodAll_one hA
  obtain ⟨g0, t0, cs0, f0, e0, q0, g1, t1, cs1, f1, e1, q1, rfl, hg0, ht0, hv0, hd0, hg1, ht1, hv1, hd1, rfl⟩ := trodVars_two hV
  obtain rfl := Option.some.inj (PFnReleaseName.gM.symm.trans hg0)
  obtain rfl := Option.some.inj (PFnReleaseName.gI.symm.trans hg1)
  obtain rfl := Option.some.inj (PFnReleaseName.tM.symm.trans ht0)
  obtain rfl := Option.some.inj (PFnReleaseName.tI.symm.trans ht1)
  obtain ⟨o0, rfl, ho0, rfl, rfl, hc0⟩ := token_of hg0 Tryd.underlying30 hv0 hd0
  obtain ⟨o1, rfl, ho1, rfl, rfl, hc1⟩ := token_of hg1 Tryd.underlying30 hv1 hd1
  obtain ⟨a0, rfl, rfl, rfl, y0⟩ := open_string Tryd.underlying9 (hval 0 9 v0 rfl rfl) h0
  have w0 : a0.size ≤ 140737488351232 := by
    have z := sized_string hsz (j := 0) (t := 9) rfl rfl
    rw [Array.length_toList] at z
    exact z
  clear hA0 hV0 hval0 hsz0 hsz
  simp only [List.append_nil, List.nil_append, List.size_toArray, List.length_cons, List.length_nil, Nat.zero_add, row_one] at hW'
  have vars : ∀ sp : Nat → Bool, DataW.TrodVars enc Tryd.prog W sp ["given.example/pub-antistrophe/pub/helm/pkg/chartutil.errMissingName", "given.example/pub-antistrophe/pub/helm/pkg/chartutil.errInvalidName"] [tok enc o0, tok enc o1] [.cell 0 0, .cell 1 0] :=
    vars_read2 enc hg0 ht0 Tryd.underlying30 hv0 ho0 hg1 ht1 Tryd.underlying30 hv1 ho1
  obtain ⟨k, hk⟩ := Pure.FnReleaseName a0 w0
  refine (PFnReleaseName.laws_FnReleaseName.calls k a0 true W hk hG).mono fun e W' ⟨he, hd⟩ => ?_
  subst he
  obtain ⟨nd, rfl⟩ := hd
  exact ⟨_, rfl, ChangeSpec.post_alike (post_of_same (pa := []) (pv := [.cell 0 0, .cell 1 0]) hW' (fun _ _ _ => trodAll_mk1 (shut_bool Tryd.underlying4 _)) (fun sp _ => trodAll_mk1 (shut_string Tryd.underlying9 y0)) (fun sp _ => vars sp) rfl (World.keptBut_refl _ _) (fun _ => rfl) (ok_one (by kernel_rfl) rfl (okWide_bool_mk Tryd.underlying4 _))) (World.drewN_alike _ _)⟩

theorem over : Rows.FnReleaseNameSaid :=
  OpenClaim.holds_of_wide 3 Tryd.f3 rfl rfl rfl rfl rfl rfl rfl ⟨rfl, rfl, rfl, rfl, rfl⟩ rfl rfl rfl rfl rfl (by kernel_rfl) Tryd.func3 (by kernel_rfl)
    (of_decide_eq_true (by kernel_rfl)) (by unfold Func.isWrapper; first | (rw [if_pos (by decide +kernel)]; kernel_rfl) | (rw [if_neg (by decide +kernel)]; exact ⟨rfl, rfl⟩))
    (fun os started H enc _ => lifted os started H enc)

theorem proved : Rows.FnReleaseNameCardSaid :=
  Claim7.holds_tied_plain_at .later [] [.sentinel, .sentinel] true (true, "312c4f92d1a774ace0bbdee029ede4811c3fd0d68e91c1384eec3e1bc1bd6d70") false
    over (fun _ h => by cases h) (by kernel_rfl) (fun _ h => by cases h) fnReleaseName_row_tie rfl ⟨rfl, rfl⟩ (by kernel_rfl) rfl
    (fun f fn hf hfn => by
      obtain rfl : f = 3 := Option.some.inj ((show Tryd.prog.funcNamed "given.example/pub-antistrophe/laws.FnReleaseName" = some 3 by kernel_rfl).symm.trans hf) |>.symm
      obtain rfl : fn = Tryd.f3 := (Option.some.inj (Tryd.func3.symm.trans hfn)).symm
      exact ⟨by kernel_rfl, fun j t ht => by
        rw [Tryd.params3] at ht
        have hm : t ∈ [9] := by simpa using Array.mem_of_getElem? ht
        have hall : ([9].all fun u => !Tryd.prog.wantsStandIn u) = true := by kernel_rfl
        exact (show Tryd.prog.wantsStandIn t = false by simpa using List.all_eq_true.1 hall t hm)⟩)
    (by kernel_rfl)
#print axioms proved
end Go.Proofs.YtdomnigegpigiabDoor.fnReleaseName
namespace Go.Proofs.YtdomnigegpigiabDoor
/-- The card, under a short name, for the claim. -/
theorem fnReleaseName_holds : Rows.FnReleaseNameCardSaid := fnReleaseName.proved
end Go.Proofs.YtdomnigegpigiabDoor

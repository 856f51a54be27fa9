/- impl.ReleaseName: what it tells, where the two variables of its errors hold errors. -/
import Derived.Test.YtdomnigegpigiabDoorPFnReleaseNamex0
import Derived.Test.YtdomnigegpigiabDoorPvalidNamex1
namespace Go.Proofs.YtdomnigegpigiabDoor.PFnReleaseName
open Go.RowKit Go.Proofs.YtdomnigegpigiabDoorW.PrintWords Go.Proofs.YtdomnigegpigiabDoorW.PrintLast Go.Proofs.YtdomnigegpigiabDoorW.PrintMore

theorem gM : Tryd.prog.globalNamed "given.example/pub-antistrophe/pub/helm/pkg/chartutil.errMissingName" = some 0 := by kernel_rfl
theorem gI : Tryd.prog.globalNamed "given.example/pub-antistrophe/pub/helm/pkg/chartutil.errInvalidName" = some 1 := by kernel_rfl
theorem tM : (Tryd.prog.globals[0]?).map (·.type) = some 30 := by kernel_rfl
theorem tI : (Tryd.prog.globals[1]?).map (·.type) = some 30 := by kernel_rfl
theorem u30 : Tryd.prog.cellsOf 30 = 1 := by kernel_rfl

def Gl (w : World) : Prop := ∃ t1 v1 t2 v2, w.cell? ⟨0, 0, none⟩ = some (.iface t1 v1) ∧ w.cell? ⟨1, 0, none⟩ = some (.iface t2 v2)

def impl_ReleaseName.f (k : Nat) (a0 : ByteArray) : Option Bool := if a0.toList = ([] : List UInt8) then some false else if (a0.size : Int) > 53 then some false else PvalidName.chartutil_validName.f k a0
theorem impl_ReleaseName.mono : ∀ a0 k, LeO (impl_ReleaseName.f k a0) (impl_ReleaseName.f (k + 1) a0) := by
  intro a0 k
  unfold impl_ReleaseName.f
  split
  · exact LeO.refl _
  · split
    · exact LeO.refl _
    · exact PvalidName.chartutil_validName.mono _ _

theorem Gl.drew {w : World} (h : Gl w) : Gl w.drew := h
theorem Gl.drewN {w : World} (h : Gl w) : ∀ n, Gl (w.drewN n) := by
  intro n
  obtain ⟨t1, v1, t2, v2, g1, g2⟩ := h
  exact ⟨t1, v1, t2, v2, by first | simpa using g1 | (rw [World.cell?_drewN]; exact g1), by first | simpa using g2 | (rw [World.cell?_drewN]; exact g2)⟩

set_option maxHeartbeats 2000000 in
theorem validate_calls (k : Nat) (a0 : ByteArray) (r : Bool) (w : World) (hG : Gl w) (h : impl_ReleaseName.f k a0 = some r) :
    Calls Tryd.prog 11 #[.string a0] w fun e w' => (∃ v, e = .returned v ∧ (r = true → v = .nilIface) ∧ (r = false → ∃ t x, v = .iface t x)) ∧ Drawn0 w w' := by
  obtain ⟨t1, v1, t2, v2, g1, g2⟩ := hG
  unfold impl_ReleaseName.f at h
  by_cases c1 : a0.toList = ([] : List UInt8)
  · rw [if_pos c1] at h
    obtain rfl := Option.some.inj h
    have c1' : a0.toList.isEmpty = true := by simpa using c1
    clear h c1
    go_enter Tryd.func11, Tryd.ntmps11
    go_wp2
    go_ret
    exact ⟨⟨_, rfl, fun h => (by cases h), fun _ => ⟨_, _, rfl⟩⟩, Drawn0.refl _⟩
  rw [if_neg c1] at h
  have c1' : a0.toList.isEmpty = false := by simpa using c1
  clear c1
  by_cases c2 : (a0.size : Int) > 53
  · rw [if_pos c2] at h
    obtain rfl := Option.some.inj h
    have c2' : decide (53 < (a0.size : Int)) = true := decide_eq_true c2
    clear h c2
    go_enter Tryd.func11, Tryd.ntmps11
    go_wp2
    go_ret
    exact ⟨⟨_, rfl, fun h => (by cases h), fun _ => ⟨_, _, rfl⟩⟩, Drawn0.refl _⟩
  rw [if_neg c2] at h
  have c2' : decide (53 < (a0.size : Int)) = false := decide_eq_false c2
  clear c2
  have H := Aside0.mk h
  clear h
  cases r
  · go_enter Tryd.func11, Tryd.ntmps11
    go_wp2_with fail
    refine (PvalidName.chartutil_validName.calls k a0 false _ H.out).mono ?_
    rintro e w' ⟨rfl, hd⟩
    have g2' : w'.cell? ⟨1, 0, none⟩ = some (.iface t2 v2) := by
      obtain ⟨nd, rfl⟩ := hd
      simpa using g2
    go_wp2
    go_ret
    exact ⟨⟨_, rfl, fun h => (by cases h), fun _ => ⟨_, _, rfl⟩⟩, hd⟩
  · go_enter Tryd.func11, Tryd.ntmps11
    go_wp2_with fail
    refine (PvalidName.chartutil_validName.calls k a0 true _ H.out).mono ?_
    rintro e w' ⟨rfl, hd⟩
    go_wp2
    go_ret
    exact ⟨⟨_, rfl, fun _ => rfl, fun h => (by cases h)⟩, hd⟩

set_option maxHeartbeats 2000000 in
theorem impl_ReleaseName.calls (k : Nat) (a0 : ByteArray) (r : Bool) (w : World) (h : impl_ReleaseName.f k a0 = some r) (hG : Gl w) :
    Calls Tryd.prog 5 #[.string a0] w fun e w' => e = .returned (.bool r) ∧ Drawn0 w w' := by
  have H := Aside0.mk h
  clear h
  go_enter Tryd.func5, Tryd.ntmps5
  go_wp2_with fail
  refine (validate_calls k a0 r _ hG H.out).mono ?_
  rintro e w' ⟨⟨v, rfl, h1, h2⟩, hd⟩
  cases r
  · obtain ⟨t, x, rfl⟩ := h2 rfl
    clear h1 h2
    go_wp2
    go_ret
    exact ⟨by first | rfl | simp, hd⟩
  · obtain rfl := h1 rfl
    clear h1 h2
    go_wp2
    go_ret
    exact ⟨by first | rfl | simp, hd⟩
end Go.Proofs.YtdomnigegpigiabDoor.PFnReleaseName

/- impl.SplitIndex: what it tells of a part of a path, by the printed contracts of what it calls; the error's own text is not spoken of. -/
import Derived.Test.YtdomnigegpigiabPFnSplitIndexx0
import Derived.Test.YtdomnigegpigiabPzzSplitTwox1
import Derived.Test.YtdomnigegpigiabPTrimSuffixx1
import Derived.Test.YtdomnigegpigiabPTrimPrefixx1
namespace Go.Proofs.Ytdomnigegpigiab.PFnSplitIndex
open Go.RowKit Go.Proofs.YtdomnigegpigiabW.PrintWords Go.Proofs.YtdomnigegpigiabW.PrintLast Go.Proofs.YtdomnigegpigiabW.PrintMore

def hParts (k : Nat) (a0 : ByteArray) : Option (List ByteArray) := (PTrimSuffix.strings_TrimSuffix.f a0 (⟨#[93]⟩ : ByteArray)).bind fun t => (PTrimPrefix.strings_TrimPrefix.f t (⟨#[91]⟩ : ByteArray)).bind fun u => PzzSplitTwo.yaml_zzSplitTwo.f k u (⟨#[61]⟩ : ByteArray)
def impl_SplitIndex.f (k : Nat) (a0 : ByteArray) : Option (ByteArray × ByteArray × Int) := (hParts k a0).bind fun l => if l.length = 1 then some ((⟨#[]⟩ : ByteArray), (⟨#[]⟩ : ByteArray), 1) else if 2 ≤ l.length then some (rdOf ByteArray.empty l 0, rdOf ByteArray.empty l 1, 0) else none

theorem hParts_mono (a0 : ByteArray) (k : Nat) : LeO (hParts k a0) (hParts (k + 1) a0) := by
  unfold hParts
  exact LeO.bind (LeO.refl _) fun _ => LeO.bind (LeO.refl _) fun _ => PzzSplitTwo.yaml_zzSplitTwo.mono _ _ _
theorem impl_SplitIndex.mono : ∀ a0 k, LeO (impl_SplitIndex.f k a0) (impl_SplitIndex.f (k + 1) a0) := by
  intro a0 k
  unfold impl_SplitIndex.f
  exact LeO.bind (hParts_mono _ _) fun _ => LeO.refl _

theorem new_any (s : ByteArray) (w : World) : Calls Try.prog 50 #[.string s] w fun e w' => (∃ a, e = .returned (.iface 73 (.pointer (some a)))) ∧ Below w.heap.size w w' := by
  go_enter Try.func50, Try.ntmps50
  go_wp2
  go_ret
  exact ⟨⟨_, rfl⟩, (Below.refl _ _).alloc (Nat.le_refl _) _⟩
theorem errorf_any (s : ByteArray) (v : Value) (w : World) : Calls Try.prog 40 #[.string s, v] w fun e w' => (∃ a, e = .returned (.iface 73 (.pointer (some a)))) ∧ Below w.heap.size w w' := by
  go_enter Try.func40, Try.ntmps40
  go_wp2_with (go_at_call 50; refine (new_any _ _).mono ?_; rintro e w' ⟨⟨a, rfl⟩, hb⟩)
  go_ret
  exact ⟨⟨_, rfl⟩, hb⟩
set_option maxHeartbeats 1000000 in
theorem value_one (k : Nat) (a0 : ByteArray) (l : List ByteArray) (w : World) (h : hParts k a0 = some l) (h1 : l.length = 1) :
    Calls Try.prog 27 #[.string a0] w fun e w' => (∃ a, e = .returned (.tuple #[.string ⟨#[]⟩, .string ⟨#[]⟩, .iface 73 (.pointer (some a))])) ∧ Below w.heap.size w w' := by
  unfold hParts at h
  obtain ⟨t, ht, h⟩ := Option.bind_eq_some_iff.1 h
  obtain ⟨u, hu, hl⟩ := Option.bind_eq_some_iff.1 h
  obtain ⟨x, rfl⟩ : ∃ x, l = [x] := List.length_eq_one_iff.1 h1
  clear h h1
  have T := Aside0.mk ht
  have U := Aside0.mk hu
  have V := Aside0.mk hl
  clear ht hu hl
  go_enter Try.func27, Try.ntmps27
  go_wp2_with fail
  refine (PTrimSuffix.strings_TrimSuffix.calls _ _ _ _ T.out).mono ?_
  rintro e w' ⟨rfl, ⟨n1, rfl⟩⟩
  go_wp2_with fail
  refine (PTrimPrefix.strings_TrimPrefix.calls _ _ _ _ U.out).mono ?_
  rintro e w' ⟨rfl, ⟨n2, rfl⟩⟩
  go_wp2_with fail
  refine (PzzSplitTwo.yaml_zzSplitTwo.calls k _ _ _ _ V.out).mono ?_
  rintro e w1 ⟨v0, rfl, ho, hb⟩
  obtain ⟨A, c, rfl⟩ := Kd.R_slice ho
  clear ho
  go_wp2_with (go_at_call 40; refine (errorf_any _ _ _).mono ?_; rintro e w' ⟨⟨a, rfl⟩, hb2⟩)
  go_ret3
  exact ⟨⟨_, rfl⟩, below_then (below_then (pw_below_drewN (Below.refl _ _) _) (by simp) hb) (by have := hb.size; simp at this; omega) hb2⟩

set_option maxHeartbeats 1000000 in
theorem value_two (k : Nat) (a0 : ByteArray) (l : List ByteArray) (w : World) (h : hParts k a0 = some l) (h1 : 2 ≤ l.length) :
    Calls Try.prog 27 #[.string a0] w fun e w' => e = .returned (.tuple #[.string (rdOf ByteArray.empty l 0), .string (rdOf ByteArray.empty l 1), .nilIface]) ∧ Below w.heap.size w w' := by
  unfold hParts at h
  obtain ⟨t, ht, h⟩ := Option.bind_eq_some_iff.1 h
  obtain ⟨u, hu, hl⟩ := Option.bind_eq_some_iff.1 h
  clear h
  have T := Aside0.mk ht
  have U := Aside0.mk hu
  have V := Aside0.mk hl
  clear ht hu hl
  go_enter Try.func27, Try.ntmps27
  go_wp2_with fail
  refine (PTrimSuffix.strings_TrimSuffix.calls _ _ _ _ T.out).mono ?_
  rintro e w' ⟨rfl, ⟨n1, rfl⟩⟩
  go_wp2_with fail
  refine (PTrimPrefix.strings_TrimPrefix.calls _ _ _ _ U.out).mono ?_
  rintro e w' ⟨rfl, ⟨n2, rfl⟩⟩
  go_wp2_with fail
  refine (PzzSplitTwo.yaml_zzSplitTwo.calls k _ _ _ _ V.out).mono ?_
  rintro e w1 ⟨v0, rfl, ho, hb⟩
  obtain ⟨g, c, rfl, _, _, _⟩ := Kd.R_form ho (by omega)
  have hc0 := (Kd.R_cell ByteArray.empty ho 0 (by omega) (by omega)).1
  have hc1 := (Kd.R_cell ByteArray.empty ho 1 (by omega) (by omega)).1
  have hneq : ((l.length : Int) == 1) = false := by rw [beq_eq_false_iff_ne]; omega
  have h0l : 0 < l.length := by omega
  have h1l : 1 < l.length := by omega
  have h0i : (0 : Int) < (l.length : Int) := by omega
  have h1i : (1 : Int) < (l.length : Int) := by omega
  have HB := Aside0.mk hb
  clear ho hb
  simp only [Int.toNat_zero, Int.toNat_one] at hc0 hc1
  go_wp2_with fail
  go_quiet (fail)
  go_wp2
  go_ret3
  exact ⟨rfl, below_then (pw_below_drewN (Below.refl _ _) _) (by simp) (pw_below_drewN HB.out _)⟩

set_option maxHeartbeats 1000000 in
theorem impl_SplitIndex.calls (k : Nat) (a0 : ByteArray) (r1 : ByteArray) (r2 : ByteArray) (r3 : Int) (w : World) (h : impl_SplitIndex.f k a0 = some (r1, r2, r3)) :
    Calls Try.prog 12 #[.string a0] w fun e w' => e = .returned (.tuple #[.string r1, .string r2, .int .i64 r3]) ∧ Below w.heap.size w w' := by
  unfold impl_SplitIndex.f at h
  obtain ⟨l, hl, h⟩ := Option.bind_eq_some_iff.1 h
  by_cases h1 : l.length = 1
  · rw [if_pos h1] at h
    simp only [Option.some.injEq, Prod.mk.injEq] at h
    obtain ⟨rfl, rfl, rfl⟩ := h
    have V := Aside0.mk hl
    have H1 := Aside0.mk h1
    clear hl h1
    go_enter Try.func12, Try.ntmps12
    go_wp2_with (go_at_call 27; refine (value_one k _ l _ V.out H1.out).mono ?_; rintro e w' ⟨⟨a, rfl⟩, hb2⟩)
    go_ret3
    exact ⟨rfl, hb2⟩
  · rw [if_neg h1] at h
    by_cases h2 : 2 ≤ l.length
    · rw [if_pos h2] at h
      simp only [Option.some.injEq, Prod.mk.injEq] at h
      obtain ⟨rfl, rfl, rfl⟩ := h
      have V := Aside0.mk hl
      have H1 := Aside0.mk h2
      clear hl h1 h2
      go_enter Try.func12, Try.ntmps12
      go_wp2_with (go_at_call 27; refine (value_two k _ l _ V.out H1.out).mono ?_; rintro e w' ⟨rfl, hb2⟩)
      go_ret3
      exact ⟨rfl, hb2⟩
    · rw [if_neg h2] at h
      exact absurd h (by simp)

end Go.Proofs.Ytdomnigegpigiab.PFnSplitIndex

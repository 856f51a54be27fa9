/- strings.Join: what it tells, by the shelf's contract; nothing is told of a result past 2^47 bytes. -/
import Derived.Test.YtcficphbjicneaaPFromStringx0
import Derived.Test.YtcficphbjicneaaShelf
import Derived.Lib.Join
namespace Go.Proofs.Ytcficphbjicneaa.PFromString
open Go.RowKit Go.Proofs.YtcficphbjicneaaW.PrintWords Go.Proofs.YtcficphbjicneaaW.PrintLast Go.Proofs.YtcficphbjicneaaW.PrintMore

def strings_Join.f (l : List ByteArray) (sep : ByteArray) : Option ByteArray :=
  if l.length ≤ 140737488355328 then (if (Lib.join (l.map (·.data.toList)) sep.data.toList).length ≤ 140737488355328 then some ⟨(Lib.join (l.map (·.data.toList)) sep.data.toList).toArray⟩ else none) else none

theorem strings_Join.calls (A0 : Option Addr) (c0 : Nat) (l0 : List ByteArray) (a1 : ByteArray) (r : ByteArray) (w : World) (hr0 : Kd.C Kd.string w A0 l0.length l0) (hc0 : l0.length ≤ c0) (h : strings_Join.f l0 a1 = some r) :
    Calls Try.prog 40 #[.slice A0 l0.length c0, .string a1] w fun e w' => e = .returned (.string r) ∧ Below w.heap.size w w' := by
  unfold strings_Join.f at h
  by_cases h1 : l0.length ≤ 140737488355328
  · rw [if_pos h1] at h
    by_cases h2 : (Lib.join (l0.map (·.data.toList)) a1.data.toList).length ≤ 140737488355328
    · rw [if_pos h2] at h
      obtain rfl := Option.some.inj h
      cases l0 with
      | nil => exact (Try.strings_Join_none A0 c0 a1 w).mono fun e w' ⟨he, hw⟩ => ⟨he, hw ▸ Below.refl _ _⟩
      | cons x t =>
        obtain ⟨ad, rfl, hcell⟩ := hr0.2.2 (by simp)
        have hc : ∀ (j : Nat) y, (x :: t)[j]? = some y → w.cell? (ad.add j) = some (.string y) := by
          intro j y hj
          obtain ⟨cs, h3, h4, h5⟩ := hcell j y hj
          have h4' : cs = [.string y] := h4
          subst h4'
          have := h5 0 (.string y) rfl
          simpa [Kd.string, Kd.scalar] using this
        have h0 := hc 0 x rfl
        obtain ⟨b, o, sp⟩ := ad
        have hsp : sp = none := by
          have h6 : w.cell? ⟨b, o, sp⟩ = some (.string x) := h0
          unfold World.cell? at h6
          split at h6
          · cases sp with
            | none => rfl
            | some z => simp at h6
          · cases h6
        subst hsp
        refine (Try.strings_Join b o c0 (x :: t) a1 w (fun j y hj => ?_) (World.block_lt_of_cell? w ⟨b, o, none⟩ h0) h1 hc0 h2).mono fun e w' hw => hw
        have := hc j y hj
        rw [show (⟨b, o, none⟩ : Addr).add j = ⟨b, o + j, none⟩ by unfold Addr.add; split <;> simp_all] at this
        exact this
    · rw [if_neg h2] at h
      cases h
  · rw [if_neg h1] at h
    cases h

end Go.Proofs.Ytcficphbjicneaa.PFromString

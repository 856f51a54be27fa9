/- yaml.zzTrimLeft with a space alone as its set: what it tells, and one block of an iterator after the other. -/
import Derived.Test.YtcficphbjicneaaPFnSeqIndentStylex0
import Derived.Laws.RangeString
import Derived.Laws.RangeAny
import Derived.Lib.OthersKept
import Derived.Lib.IndexBytes
import Derived.Deep.LoopGhost
namespace Go.Proofs.Ytcficphbjicneaa.PFnSeqIndentStyle
open Go.RowKit Go.Proofs.YtcficphbjicneaaW.PrintWords Go.Proofs.YtcficphbjicneaaW.PrintLast Go.Proofs.YtcficphbjicneaaW.PrintMore

def sp : ByteArray := ⟨#[32]⟩
def lead (s : ByteArray) : Nat := (s.data.toList.takeWhile (· == 32)).length
def yaml_zzTrimLeft.f (a0 a1 : ByteArray) : Option ByteArray := if a1 = sp then some (a0.extract (lead a0) a0.size) else none

theorem tw_le : ∀ (l : List UInt8), (l.takeWhile (· == 32)).length ≤ l.length
  | [] => Nat.le_refl _
  | x :: l => by
    by_cases h : x = 32
    · have := tw_le l
      simp [h]; exact this
    · simp [h]
theorem tw_lt : ∀ (l : List UInt8) (i : Nat), i < (l.takeWhile (· == 32)).length → l[i]? = some 32
  | [], i, h => by simp at h
  | x :: l, i, h => by
    by_cases hx : x = 32
    · cases i with
      | zero => simp [hx]
      | succ i => simp [hx] at h ⊢; exact tw_lt l i h
    · simp [hx] at h
theorem tw_at : ∀ (l : List UInt8), l[(l.takeWhile (· == 32)).length]? ≠ some 32
  | [] => by simp
  | x :: l => by
    by_cases hx : x = 32
    · simp only [hx, List.takeWhile_cons, beq_self_eq_true, if_true, List.length_cons, List.getElem?_cons_succ]; exact tw_at l
    · simp [hx]
theorem lead_le (s : ByteArray) : lead s ≤ s.size := tw_le s.data.toList
theorem data_at (s : ByteArray) (i : Nat) (h : i < s.size) : s.data.toList[i]? = some (s[i]'h) := Lib.data_getElem? s i h
theorem lead_lt {s : ByteArray} {i : Nat} (hi : i < lead s) (h : i < s.size) : s[i]'h = 32 :=
  Option.some.inj ((data_at s i h).symm.trans (tw_lt _ i hi))
theorem lead_at {s : ByteArray} (h : lead s < s.size) : s[lead s]'h ≠ 32 := fun e =>
  tw_at s.data.toList ((data_at s (lead s) h).trans (congrArg some e))
theorem lead_stop {s : ByteArray} {i : Nat} (h : i < s.size) (hb : i ≤ lead s) (hn : s[i]'h ≠ 32) : lead s = i := by
  rcases Nat.lt_or_ge i (lead s) with h1 | h1
  · exact absurd (lead_lt h1 h) hn
  · omega
theorem lead_more {s : ByteArray} {i : Nat} (h : i < s.size) (hb : i ≤ lead s) (hn : s[i]'h = 32) : i + 1 ≤ lead s := by
  rcases Nat.lt_or_ge i (lead s) with h1 | h1
  · exact h1
  · obtain rfl : i = lead s := by omega
    exact absurd hn (lead_at h)

theorem decode_ne (s : ByteArray) (pos : Nat) (h : pos < s.size) (ha : s[pos]'h ≠ 32) : (Utf8.decode s pos).1 ≠ 32 := by
  by_cases h1 : (s[pos]'h).toNat < 128
  · rw [decode_ascii s pos h h1]
    intro h2
    exact ha (UInt8.toNat_inj.1 (by simpa using h2))
  · have := (decode_high s pos h (by omega)).1
    omega

set_option maxHeartbeats 2000000 in
theorem inSet_calls (c : Nat) (hc : c ≤ 2147483647) (w : World) :
    Calls Try.prog 61 #[.int .i32 c, .string sp] w fun e w' => e = .returned (.bool (c == 32)) ∧ w' = w.iter sp 1 := by
  go_enter Try.func61, Try.ntmps61
  go_wp2_with fail
  go_loopg [6] 1 (fun g s6 wx => ∃ i : Nat, i + g = 1 ∧ wx = w.iter sp i ∧ (c = 32 → i = 0))
  case atStart => exact ⟨0, rfl, rfl, fun _ => rfl⟩
  case round =>
    obtain ⟨i, hig, rfl, hne⟩ := hrel
    cases gk with
    | zero =>
      obtain rfl : i = 1 := by omega
      have hne2 := Aside0.mk (show ¬ c = 32 from fun h => absurd (hne h) (by decide))
      clear hne
      have hnx := fun ty => run_next_end (P := Try.prog) w sp 1 ty (by decide)
      go_wp2
      go_ret
      refine ⟨?_, rfl⟩
      simp [hne2.out]
    | succ g =>
      obtain rfl : i = 0 := by omega
      have hnx := fun ty => run_next_ascii (P := Try.prog) w sp 0 ty (by decide) (by decide)
      go_wp2
      · rename_i hc2
        have hc3 : c = 32 := by
          have := beq_iff_eq.1 hc2
          have h32 : sp[0].toNat = 32 := rfl
          omega
        go_ret
        refine ⟨?_, rfl⟩
        simp [hc3]
      · rename_i hc2
        have hc3 : ¬ c = 32 := by
          intro h
          subst h
          exact absurd hc2 (by decide)
        go_roundg g
        case measure => omega
        case rel => exact ⟨1, by omega, rfl, fun h => absurd h hc3⟩

set_option maxHeartbeats 2000000 in
theorem yaml_zzTrimLeft.calls (a0 a1 r : ByteArray) (w : World) (h : yaml_zzTrimLeft.f a0 a1 = some r) :
    Calls Try.prog 45 #[.string a0, .string a1] w fun e w' => e = .returned (.string r) ∧ Below w.heap.size w w' := by
  unfold yaml_zzTrimLeft.f at h
  split at h
  · rename_i ha
    subst ha
    obtain rfl := (Option.some.inj h).symm
    clear h
    go_enter Try.func45, Try.ntmps45
    go_wp2_with fail
    go_loopg [5, 6] a0.size (fun g s5 s6 wx => ∃ i : Nat, i + g = a0.size ∧ i ≤ lead a0 ∧ wx.heap[w.heap.size]? = some (.stringIter a0 i) ∧ Below w.heap.size w wx)
    case atStart => exact ⟨0, by omega, Nat.zero_le _, World.iter_heap _ _ _, by first | exact below_alloc (Below.refl _ _) _ | (apply below_alloc; exact Below.refl _ _)⟩
    case round =>
      obtain ⟨i, hig, hil, hit, hb⟩ := hrel
      cases gk with
      | zero =>
        obtain rfl : i = a0.size := by omega
        have hnx := fun ty => Lib.run_next_end_at (P := Try.prog) wr w.heap.size a0 a0.size ty hit (by omega)
        have HE := Aside0.mk (show (⟨#[]⟩ : ByteArray) = a0.extract (lead a0) a0.size by
          have h1 := lead_le a0
          rw [show lead a0 = a0.size by omega]
          apply ByteArray.ext; apply Array.ext'; simp)
        go_wp2
        go_ret
        exact ⟨by rw [← HE.out]; rfl, hb⟩
      | succ g =>
        have hi : i < a0.size := by omega
        have hnx := fun ty => Lib.run_next_any_at (P := Try.prog) wr w.heap.size a0 i ty hit hi
        go_wp2_with fail
        refine (inSet_calls (Utf8.decode a0 i).1 (decode_le a0 i) _).mono ?_
        rintro e w2 ⟨rfl, rfl⟩
        go_wp2_with fail
        · rename_i hc
          have hs : ¬ a0[i]'hi = 32 := by
            intro h1
            have h2 := decode_ascii a0 i hi (by rw [h1]; decide)
            rw [h2] at hc
            simp [h1] at hc
          have HL := Aside0.mk (lead_stop hi hil hs)
          go_ret
          refine ⟨by rw [HL.out]; rfl, ?_⟩
          exact below_alloc (Lib.below_iterAt hb (Nat.le_refl _) _ _) _
        · rename_i hc
          have hs : a0[i]'hi = 32 := by
            by_cases h1 : a0[i]'hi = 32
            · exact h1
            · have := decode_ne a0 i hi h1
              simp [this] at hc
          have h2 := decode_ascii a0 i hi (by rw [hs]; decide)
          go_roundg g
          case measure => omega
          case rel =>
            refine ⟨i + 1, by omega, lead_more hi hil hs, ?_, below_alloc (Lib.below_iterAt hb (Nat.le_refl _) _ _) _⟩
            have h3 := Lib.iterAt_heap wr w.heap.size a0 i (i + (Utf8.decode a0 i).2) hit
            rw [h2] at h3 ⊢
            exact (Lib.alloc_old _ _ _ (Array.getElem?_eq_some_iff.1 h3).1).trans h3
  · cases h
end Go.Proofs.Ytcficphbjicneaa.PFnSeqIndentStyle

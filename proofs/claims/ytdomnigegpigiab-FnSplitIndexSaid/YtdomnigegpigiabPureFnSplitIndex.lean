/- FnSplitIndex: for every part of a path the field's name and the value that the package tells are the reference's, and it tells an error where there is none; no condition. -/
import Derived.Test.YtdomnigegpigiabPFnSplitIndexx1
import Derived.Test.YtdomnigegpigiabBL
namespace Go.Proofs.Ytdomnigegpigiab.Pure
open Go.RowKit Go.Proofs.Ytdomnigegpigiab.PFnSplitIndex Go.Proofs.YtdomnigegpigiabW.PrintWords Go.Proofs.YtdomnigegpigiabW.PrintLast Go.Proofs.YtdomnigegpigiabW.PrintMore Go.Proofs.Ytdomnigegpigiab.BL

def siT (s : ByteArray) : ByteArray := if s.size = 0 then s else if bt s ((s.size : Int) - 1) = 93 then s.extract 0 (s.size - 1) else s
def siU (s : ByteArray) : ByteArray := if s.size = 0 then s else if bt s 0 = 91 then s.extract 1 s.size else s

theorem si_last (s : ByteArray) (h : 0 < s.size) (c : UInt8) : (L s).drop (s.size - 1) = [c] ↔ bt s ((s.size : Int) - 1) = (c.toNat : Int) := by
  have hl : s.size - 1 < (L s).length := by rw [L_length]; omega
  have e : bt s ((s.size : Int) - 1) = bt s ((s.size - 1 : Nat) : Int) := by congr 1; omega
  rw [e, bt_L s (s.size - 1) (by omega), List.drop_eq_getElem_cons hl, List.drop_eq_nil_of_le (by rw [L_length]; omega)]
  constructor
  · intro h2
    rw [(List.cons.inj h2).1]
  · intro h2
    rw [u8_toNat_inj h2]
theorem si_first (s : ByteArray) (h : 0 < s.size) (c : UInt8) : (L s).take 1 = [c] ↔ bt s 0 = (c.toNat : Int) := by
  have hl : 0 < (L s).length := by rw [L_length]; omega
  have e := bt_L s 0 h
  have e' : bt s ((0 : Nat) : Int) = bt s 0 := rfl
  rw [← e', e]
  have h3 : (L s).take 1 = [(L s)[0]] := by
    have h4 := List.drop_eq_getElem_cons hl
    rw [List.drop_zero] at h4
    conv => lhs; rw [h4]
    rfl
  rw [h3]
  constructor
  · intro h2
    rw [(List.cons.inj h2).1]
  · intro h2
    have := u8_toNat_inj h2
    simpa using this

theorem si_suffix (s : ByteArray) (hs : s.size ≤ 4294967296) : PTrimSuffix.strings_TrimSuffix.f s (⟨#[93]⟩ : ByteArray) = some (siT s) := by
  unfold PTrimSuffix.strings_TrimSuffix.f PTrimSuffix.stringslite_TrimSuffix.f PTrimSuffix.stringslite_HasSuffix.f siT
  have h1 : ((⟨#[93]⟩ : ByteArray).size : Int) = 1 := rfl
  rw [h1]
  by_cases h : s.size = 0
  · rw [if_neg (by omega), if_pos h]
    rfl
  · have hw : wrap64 ((s.size : Int) - 1) = ((s.size - 1 : Nat) : Int) := w64_eq (by omega) (by omega) (by omega)
    rw [if_pos (by omega), hw, if_pos (by omega), if_pos (by omega), if_neg h, Option.bind_some, toList_L, toList_L, L_extract]
    rw [show (((s.size - 1 : Nat) : Int)).toNat = s.size - 1 by omega, List.take_of_length_le (by rw [List.length_drop, L_length]; omega)]
    have h93 : L (⟨#[93]⟩ : ByteArray) = [93] := rfl
    rw [h93]
    by_cases c : bt s ((s.size : Int) - 1) = 93
    · rw [if_pos c, (si_last s (by omega) 93).2 c, if_pos (by simp), if_pos (by omega), if_pos (by omega)]
      rfl
    · have hn : ¬ (L s).drop (s.size - 1) = [93] := fun e => c ((si_last s (by omega) 93).1 e)
      rw [if_neg c, if_neg (by simpa using hn)]
      rfl
theorem si_prefix (s : ByteArray) : PTrimPrefix.strings_TrimPrefix.f s (⟨#[91]⟩ : ByteArray) = some (siU s) := by
  unfold PTrimPrefix.strings_TrimPrefix.f PTrimPrefix.stringslite_TrimPrefix.f PTrimPrefix.stringslite_HasPrefix.f siU
  have h1 : ((⟨#[91]⟩ : ByteArray).size : Int) = 1 := rfl
  rw [h1]
  by_cases h : s.size = 0
  · rw [if_neg (by omega), if_pos h]
    rfl
  · rw [if_pos (by omega), if_pos (by omega), if_pos (by omega), if_neg h, Option.bind_some, toList_L, toList_L, L_extract]
    have h91 : L (⟨#[91]⟩ : ByteArray) = [91] := rfl
    rw [h91, List.drop_zero, show (1 : Int).toNat - 0 = 1 from rfl]
    by_cases c : bt s 0 = 91
    · rw [if_pos c, (si_first s (by omega) 91).2 c, if_pos (by simp), if_pos (by omega), if_pos (by omega)]
      rfl
    · have hn : ¬ (L s).take 1 = [91] := fun e => c ((si_first s (by omega) 91).1 e)
      rw [if_neg c, if_neg (by simpa using hn)]
      rfl
theorem si_T_size (s : ByteArray) : (siT s).size ≤ s.size := by
  unfold siT
  repeat' split
  all_goals first | omega | (rw [ByteArray.size_extract]; omega)
theorem si_U_size (s : ByteArray) : (siU s).size ≤ s.size := by
  unfold siU
  repeat' split
  all_goals first | omega | (rw [ByteArray.size_extract]; omega)

theorem si_idx_eq : ∀ (k : Nat) (s p : ByteArray) (i : Int), PzzSplitTwo.yaml_zzIndex.l0 k s p i = spec_kyIndex.l0 k s p i := by
  intro k
  induction k with
  | zero => intros; rfl
  | succ k ih => intros; simp only [PzzSplitTwo.yaml_zzIndex.l0, spec_kyIndex.l0, ih]

/-- What both tell of a part without its brackets. -/
def siEnd (u : ByteArray) (t : Int) : ByteArray × ByteArray × Bool := if t < 0 then ((⟨#[]⟩ : ByteArray), (⟨#[]⟩ : ByteArray), false) else (u.extract 0 t.toNat, u.extract (t + 1).toNat u.size, true)

theorem si_spec (k : Nat) (s : ByteArray) (hs : s.size ≤ 4294967296) (t : Int) (ht : spec_kyIndex.l0 k (siU (siT s)) (⟨#[61]⟩ : ByteArray) 0 = some t) (_ : -1 ≤ t) (h2 : t + 1 ≤ (siU (siT s)).size) : spec_KySplitIndex.f (k + 3) s = some (siEnd (siU (siT s)) t) := by
  have hj2 : ∀ (u : ByteArray), spec_kyIndex.l0 k u (⟨#[61]⟩ : ByteArray) 0 = some t → t + 1 ≤ u.size → u.size ≤ 4294967296 → ((spec_kyIndex.f k u (⟨#[61]⟩ : ByteArray)).bind fun t102 => (if t102 < 0 then (some ((⟨#[]⟩ : ByteArray), (⟨#[]⟩ : ByteArray), false)) else (if 0 ≤ t102 then (if t102 ≤ (u.size : Int) then (if 0 ≤ (wrap64 (t102 + 1)) then (if (wrap64 (t102 + 1)) ≤ (u.size : Int) then (some (u.extract 0 (t102 : Int).toNat, u.extract ((wrap64 (t102 + 1)) : Int).toNat u.size, true)) else (none)) else (none)) else (none)) else (none)))) = some (siEnd u t) := by
    intro u hu hb hz
    have hu' : spec_kyIndex.f k u (⟨#[61]⟩ : ByteArray) = some t := hu
    rw [hu', Option.bind_some]
    unfold siEnd
    by_cases c : t < 0
    · rw [if_pos c, if_pos c]
    · have hw : wrap64 (t + 1) = t + 1 := w64 (by omega) (by omega)
      rw [if_neg c, if_neg c, if_pos (by omega), if_pos (by omega), hw, if_pos (by omega), if_pos (by omega)]
  have hj1 : ∀ (u : ByteArray), siU u = siU (siT s) → u.size ≤ 4294967296 → spec_KySplitIndex.j1 (k + 1 + 1) u = some (siEnd (siU (siT s)) t) := by
    intro u hu hz
    have step : ∀ b, spec_KySplitIndex.j2 (k + 1) u b = (if b = true then (if 1 ≤ (u.size : Int) then ((spec_kyIndex.f k (u.extract 1 u.size) (⟨#[61]⟩ : ByteArray)).bind fun t101 => (if t101 < 0 then (some ((⟨#[]⟩ : ByteArray), (⟨#[]⟩ : ByteArray), false)) else (if 0 ≤ t101 then (if t101 ≤ ((u.extract 1 u.size).size : Int) then (if 0 ≤ (wrap64 (t101 + 1)) then (if (wrap64 (t101 + 1)) ≤ ((u.extract 1 u.size).size : Int) then (some ((u.extract 1 u.size).extract 0 (t101 : Int).toNat, (u.extract 1 u.size).extract ((wrap64 (t101 + 1)) : Int).toNat (u.extract 1 u.size).size, true)) else (none)) else (none)) else (none)) else (none)))) else (none)) else ((spec_kyIndex.f k u (⟨#[61]⟩ : ByteArray)).bind fun t102 => (if t102 < 0 then (some ((⟨#[]⟩ : ByteArray), (⟨#[]⟩ : ByteArray), false)) else (if 0 ≤ t102 then (if t102 ≤ (u.size : Int) then (if 0 ≤ (wrap64 (t102 + 1)) then (if (wrap64 (t102 + 1)) ≤ (u.size : Int) then (some (u.extract 0 (t102 : Int).toNat, u.extract ((wrap64 (t102 + 1)) : Int).toNat u.size, true)) else (none)) else (none)) else (none)) else (none))))) := by
      intro b
      rfl
    have j1 : spec_KySplitIndex.j1 (k + 1 + 1) u = if u.toList = ([] : List UInt8) then (spec_KySplitIndex.j2 (k + 1) u false) else (if 0 < (u.size : Int) then (spec_KySplitIndex.j2 (k + 1) u ((bt u 0) == 91)) else (none)) := rfl
    rw [j1]
    rw [← hu] at ht h2 ⊢
    unfold siU at ht h2 ⊢
    by_cases h0 : u.size = 0
    · rw [if_pos (by rw [toList_L]; exact (L_nil u).2 h0), step, if_neg (by simp)]
      rw [if_pos h0] at ht h2 ⊢
      exact hj2 u ht h2 hz
    · rw [if_neg (by rw [toList_L, L_nil]; exact h0), if_pos (by omega), step]
      rw [if_neg h0] at ht h2 ⊢
      by_cases c : bt u 0 = 91
      · rw [if_pos c] at ht h2 ⊢
        rw [if_pos (by simpa using c), if_pos (by omega)]
        exact hj2 _ ht h2 (by rw [ByteArray.size_extract]; omega)
      · rw [if_neg c] at ht h2 ⊢
        rw [if_neg (by simpa using c)]
        exact hj2 u ht h2 hz
  have j0 : ∀ b, spec_KySplitIndex.j0 (k + 2 + 1) s b = if b = true then (if 0 ≤ (wrap64 ((s.size : Int) - 1)) then (if (wrap64 ((s.size : Int) - 1)) ≤ (s.size : Int) then (spec_KySplitIndex.j1 (k + 2) (s.extract 0 ((wrap64 ((s.size : Int) - 1)) : Int).toNat)) else (none)) else (none)) else (spec_KySplitIndex.j1 (k + 2) s) := fun _ => rfl
  unfold spec_KySplitIndex.f
  by_cases h0 : s.size = 0
  · have e : siT s = s := by unfold siT; rw [if_pos h0]
    rw [if_pos (by rw [toList_L]; exact (L_nil s).2 h0), j0, if_neg (by simp)]
    exact hj1 s (by rw [e]) hs
  · have hw : wrap64 ((s.size : Int) - 1) = (s.size : Int) - 1 := w64 (by omega) (by omega)
    rw [if_neg (by rw [toList_L, L_nil]; exact h0), hw, if_pos (by omega), if_pos (by omega), j0, hw]
    by_cases c : bt s ((s.size : Int) - 1) = 93
    · have e : siT s = s.extract 0 (s.size - 1) := by unfold siT; rw [if_neg h0, if_pos c]
      rw [if_pos (by simpa using c), if_pos (by omega), if_pos (by omega), show ((s.size : Int) - 1).toNat = s.size - 1 by omega]
      exact hj1 _ (by rw [e]) (by rw [ByteArray.size_extract]; omega)
    · have e : siT s = s := by unfold siT; rw [if_neg h0, if_neg c]
      rw [if_neg (by simpa using c)]
      exact hj1 s (by rw [e]) hs

theorem si_impl (k : Nat) (s : ByteArray) (hs : s.size ≤ 4294967296) (t : Int) (ht : spec_kyIndex.l0 k (siU (siT s)) (⟨#[61]⟩ : ByteArray) 0 = some t) (h1 : -1 ≤ t) (h2 : t + 1 ≤ (siU (siT s)).size) :
    impl_SplitIndex.f k s = some ((siEnd (siU (siT s)) t).1, (siEnd (siU (siT s)) t).2.1, if t < 0 then 1 else 0) := by
  have hz1 := si_T_size s
  have hz2 := si_U_size (siT s)
  unfold impl_SplitIndex.f hParts
  rw [si_suffix s hs, Option.bind_some, si_prefix, Option.bind_some]
  unfold PzzSplitTwo.yaml_zzSplitTwo.f
  have hix : PzzSplitTwo.yaml_zzIndex.f k (siU (siT s)) (⟨#[61]⟩ : ByteArray) = some t := (si_idx_eq k _ _ _).trans ht
  rw [hix, Option.bind_some]
  have hp : ((⟨#[61]⟩ : ByteArray).size : Int) = 1 := rfl
  rw [hp]
  have hw : wrap64 (t + 1) = t + 1 := w64 (by omega) (by omega)
  unfold siEnd
  by_cases c : t < 0
  · rw [if_neg (by omega), if_pos c, if_pos c]
    rfl
  · rw [if_pos (by omega), if_pos (by omega), if_pos (by omega), hw, if_pos (by omega), if_pos h2, if_neg c, if_neg c]
    rfl

theorem si_known (k : Nat) : impl_SplitIndex.f (k + 5) (⟨#[91, 97, 61, 98, 93]⟩ : ByteArray) = some ((⟨#[97]⟩ : ByteArray), (⟨#[98]⟩ : ByteArray), 0) :=
  at_rounds (g := fun k => impl_SplitIndex.f k (⟨#[91, 97, 61, 98, 93]⟩ : ByteArray)) (fun k => impl_SplitIndex.mono _ k) (Nat.le_add_left 5 k) (by decide +kernel)

theorem si_law (s : ByteArray) (hs : s.size ≤ 100) : laws_FnSplitIndex.j0 (300 + 1) s = some true := by
  have hz1 := si_T_size s
  have hz2 := si_U_size (siT s)
  obtain ⟨t, ht, h⟩ := idx_one (g := spec_kyIndex.l0) (fun k s p i => by rw [spec_kyIndex.l0]) (siU (siT s)) (⟨#[61]⟩ : ByteArray) (by omega) 61 rfl 297 (by omega)
  have hb : -1 ≤ t ∧ t + 1 ≤ (siU (siT s)).size := by
    rcases h with ⟨h1, _⟩ | ⟨pre, post, h1, _, h3⟩
    · omega
    · have := congrArg List.length h1
      rw [L_length, List.length_append, List.length_cons] at this
      omega
  have g1 := si_spec 297 s (by omega) t ht hb.1 hb.2
  have g2 := at_rounds (g := fun k => impl_SplitIndex.f k s) (fun k => impl_SplitIndex.mono _ k) (show 297 ≤ 300 by omega) (si_impl 297 s (by omega) t ht hb.1 hb.2)
  have g3 := si_known 295
  have j0 : laws_FnSplitIndex.j0 (300 + 1) s = (impl_SplitIndex.f 300 s).bind fun bt103 => ((spec_KySplitIndex.f 300 s).bind fun bt106 => ((impl_SplitIndex.f 300 (⟨#[91, 97, 61, 98, 93]⟩ : ByteArray)).bind fun bt109 => (if bt106.2.2 = true then (if bt103.2.2 = 0 then (if bt103.1.toList = bt106.1.toList then (if bt103.2.1.toList = bt106.2.1.toList then (some (bt109.2.1.toList == ([98] : List UInt8))) else (some false)) else (some false)) else (some false)) else (if bt103.2.2 = 1 then (some (bt109.2.1.toList == ([98] : List UInt8))) else (some false))))) := rfl
  rw [j0, g2, Option.bind_some, g1, Option.bind_some, g3, Option.bind_some]
  have e98 : (⟨#[98]⟩ : ByteArray).toList = ([98] : List UInt8) := by rw [toList_L]; rfl
  unfold siEnd
  by_cases c : t < 0
  · rw [if_pos c]
    simp [c, e98]
  · rw [if_neg c]
    simp [c, e98]

/-- YOURS: ∀ (a0 : ByteArray) (a1 : Bool), a0.size ≤ 140737488351232 → ∃ k, laws_FnSplitIndex.f k a0 a1 = some true -/
theorem FnSplitIndex : laws_FnSplitIndex.Pure := by
  intro a b hn
  by_cases hb : (a.size : Int) > 2147483647
  · exact ⟨0, by unfold laws_FnSplitIndex.f; rw [if_pos hb]⟩
  · obtain ⟨m, hm, m0, m1, m2⟩ : ∃ m : Int, mn (a.size : Int) 40 = m ∧ 0 ≤ m ∧ m ≤ a.size ∧ m ≤ 40 := ⟨_, rfl, by unfold mn; omega, by unfold mn; omega, by unfold mn; omega⟩
    have hsz : (a.extract 0 m.toNat).size ≤ 40 := by rw [ByteArray.size_extract]; omega
    refine ⟨300 + 1, ?_⟩
    unfold laws_FnSplitIndex.f
    rw [if_neg hb, hm, if_pos m0, if_pos m1]
    have e1 : (⟨#[91]⟩ : ByteArray).size = 1 := rfl
    have e2 : (⟨#[93]⟩ : ByteArray).size = 1 := rfl
    cases b with
    | true =>
      rw [if_pos rfl, if_pos (by omega), if_pos (by rw [ByteArray.size_append, e1]; omega)]
      exact si_law _ (by rw [ByteArray.size_append, ByteArray.size_append, e1, e2]; omega)
    | false =>
      rw [if_neg (by simp)]
      exact si_law _ (by omega)

end Go.Proofs.Ytdomnigegpigiab.Pure

/- FnPathNames: for every path and prefix of at most 400 bytes the names of the path are what stands between its points, and a name behind a prefix has a point between both; no condition. -/
import Derived.Test.YtcficphbjicneaaPFnPathNamesx2
import Derived.Test.YtcficphbjicneaaBL
namespace Go.Proofs.Ytcficphbjicneaa.Pure
open Go.RowKit Go.Proofs.Ytcficphbjicneaa.PFnPathNames Go.Proofs.YtcficphbjicneaaW.PrintWords Go.Proofs.YtcficphbjicneaaW.PrintLast Go.Proofs.YtcficphbjicneaaW.PrintMore Go.Proofs.Ytcficphbjicneaa.BL

theorem pn_names (s : ByteArray) (hs : s.size ≤ 2147483647) (d : Nat) : ∀ (k f i : Nat) (acc : List ByteArray), f ≤ i → i ≤ s.size → s.size - i = d → d + 1 < k → acc.length ≤ i → (46 : UInt8) ∉ ((L s).drop f).take (i - f) →
    ∃ r, spec_Names.l0 k s acc (f : Int) (i : Int) = some r ∧ r.map L = acc.map L ++ splitL 46 ((L s).drop f) := by
  induction d with
  | zero =>
    intro k f i acc h0 h1 hd hk ha hp
    obtain ⟨k, rfl⟩ : ∃ m, k = m + 2 := ⟨k - 2, by omega⟩
    have hi : i = s.size := by omega
    have hw : wrap64 ((i : Int) + 1) = ((i + 1 : Nat) : Int) := w64_eq (by omega) (by omega) (by omega)
    have e1 : spec_Names.l0 (k + 1 + 1) s acc (f : Int) (i : Int) = spec_Names.l0 (k + 1) s (acc ++ [s.extract ((f : Int)).toNat ((i : Int)).toNat]) ((i + 1 : Nat) : Int) ((i + 1 : Nat) : Int) := by
      conv => lhs; unfold spec_Names.l0
      rw [if_pos (by omega), if_pos (by omega), if_pos (by omega), if_pos (by omega), if_pos (by omega), hw]
    have e2 : ∀ a, spec_Names.l0 (k + 1) s a ((i + 1 : Nat) : Int) ((i + 1 : Nat) : Int) = some a := by
      intro a
      conv => lhs; unfold spec_Names.l0
      rw [if_neg (by omega)]
    refine ⟨_, by rw [e1, e2], ?_⟩
    have hall : ((L s).drop f).take (i - f) = (L s).drop f := List.take_of_length_le (by rw [List.length_drop, L_length]; omega)
    rw [hall] at hp
    rw [splitL_none 46 _ hp, List.map_append, List.map_singleton, L_extract, show ((f : Int)).toNat = f by omega, show ((i : Int)).toNat = i by omega, hall]
  | succ d ih =>
    intro k f i acc h0 h1 hd hk ha hp
    obtain ⟨k, rfl⟩ : ∃ m, k = m + 1 := ⟨k - 1, by omega⟩
    have hw : ∀ _ : Unit, wrap64 ((i : Int) + 1) = ((i + 1 : Nat) : Int) := fun _ => w64_eq (by omega) (by omega) (by omega)
    obtain ⟨b, hb1, hb2, hb3⟩ := drop_at s i (by omega)
    have hb2' := fun _ : Unit => hb2
    clear hb2
    have hsplit : (L s).drop f = ((L s).drop f).take (i - f) ++ b :: (L s).drop (i + 1) := by
      have h5 := List.take_append_drop (i - f) ((L s).drop f)
      rw [List.drop_drop, show f + (i - f) = i by omega, hb3] at h5
      exact h5.symm
    by_cases c : b = 46
    · have e1 : spec_Names.l0 (k + 1) s acc (f : Int) (i : Int) = spec_Names.l0 k s (acc ++ [s.extract ((f : Int)).toNat ((i : Int)).toNat]) ((i + 1 : Nat) : Int) ((i + 1 : Nat) : Int) := by
        conv => lhs; unfold spec_Names.l0
        rw [if_pos (by omega), if_neg (by omega), if_pos (by omega), if_pos (by omega), hb2' (), if_pos (by rw [c]; rfl), if_pos (by omega), if_pos (by omega), if_pos (by omega), hw ()]
      obtain ⟨r, h2, h3⟩ := ih k (i + 1) (i + 1) (acc ++ [s.extract ((f : Int)).toNat ((i : Int)).toNat]) (by omega) (by omega) (by omega) (by omega) (by simp; omega) (by simp)
      refine ⟨r, by rw [e1]; exact h2, ?_⟩
      rw [h3, hsplit, c, splitL_at 46 _ _ hp, List.map_append, List.map_singleton, L_extract, show ((f : Int)).toNat = f by omega, show ((i : Int)).toNat = i by omega]
      simp
    · have hne : ¬ (b.toNat : Int) = 46 := fun h => c (u8_toNat_inj (b := 46) h)
      have e1 : spec_Names.l0 (k + 1) s acc (f : Int) (i : Int) = spec_Names.l0 k s acc (f : Int) ((i + 1 : Nat) : Int) := by
        conv => lhs; unfold spec_Names.l0
        rw [if_pos (by omega), if_neg (by omega), if_pos (by omega), if_pos (by omega), hb2' (), if_neg hne, hw ()]
      rw [e1]
      refine ih k f (i + 1) acc (by omega) (by omega) (by omega) (by omega) (by omega) ?_
      have hil : i - f < ((L s).drop f).length := by rw [List.length_drop, L_length]; omega
      rw [show i + 1 - f = i - f + 1 by omega, List.take_succ_eq_append_getElem hil, List.mem_append]
      have hg : ((L s).drop f)[i - f] = b := by
        rw [List.getElem_drop]
        have := (List.getElem?_eq_some_iff.1 hb1).2
        rw [← this]
        congr 1
        omega
      rw [hg]
      simp [hp, Ne.symm c]

theorem FnPathNames : laws_FnPathNames.Pure := by
  intro s p hs hp
  by_cases c1 : (s.size : Int) > 2147483647
  · exact ⟨1, by unfold laws_FnPathNames.f; rw [if_pos c1]; rfl⟩
  by_cases c2 : (p.size : Int) > 2147483647
  · exact ⟨1, by unfold laws_FnPathNames.f; rw [if_neg c1, decide_eq_true c2]; rfl⟩
  have j0 : ∀ k, laws_FnPathNames.j0 (k + 1) s p false = if (s.size : Int) > 400 then (laws_FnPathNames.j1 k s p true) else (laws_FnPathNames.j1 k s p (decide ((p.size : Int) > 400))) := fun _ => rfl
  have j1 : ∀ k, laws_FnPathNames.j1 (k + 1) s p false = (impl_ParsePath.f k s).bind fun t125 => ((spec_Names.f k s).bind fun t128 => (if (t125.length : Int) = (t128.length : Int) then (laws_FnPathNames.l0 k s p t128 t125 (t125.length : Int) 0) else (some false))) := fun _ => rfl
  by_cases c3 : (s.size : Int) > 400
  · exact ⟨2, by unfold laws_FnPathNames.f; rw [if_neg c1, decide_eq_false c2, j0, if_pos c3]; rfl⟩
  by_cases c4 : (p.size : Int) > 400
  · exact ⟨2, by unfold laws_FnPathNames.f; rw [if_neg c1, decide_eq_false c2, j0, if_neg c3, decide_eq_true c4]; rfl⟩
  obtain ⟨r, h1, h2⟩ := split_one (ix := chartutil_zzIndex.l0) (fun k s p i => by rw [chartutil_zzIndex.l0]) (g := chartutil_zzSplit.l1) (fun k a b c => by rw [chartutil_zzSplit.l1]; rfl) (⟨#[46]⟩ : ByteArray) 46 rfl s.size 2000 s [] (by omega) (by omega) (by simp; omega) (by omega)
  obtain ⟨q, h3, h4⟩ := pn_names s (by omega) s.size 2000 0 0 [] (by omega) (by omega) (by omega) (by omega) (by simp) (by simp)
  rw [List.map_nil, List.nil_append] at h2
  rw [List.map_nil, List.nil_append, List.drop_zero] at h4
  obtain rfl : r = q := map_L_inj (h2.trans h4.symm)
  have hlen := splitL_length 46 (L s)
  rw [← h2, List.length_map, L_length] at hlen
  have hp1 : impl_ParsePath.f 2000 s = some r := by
    unfold impl_ParsePath.f chartutil_ZzParsePath.f chartutil_parsePath.f chartutil_zzSplit.f
    rw [if_neg (by decide), h1]
    rfl
  have hn1 : spec_Names.f 2000 s = some r := h3
  have e1 : (⟨#[46]⟩ : ByteArray).size = 1 := rfl
  have hend : ∀ k, laws_FnPathNames.l0 (k + 1) s p r r (r.length : Int) (r.length : Int) = some true := by
    intro k
    conv => lhs; unfold laws_FnPathNames.l0
    rw [if_neg (by omega)]
    unfold impl_ConcatPrefix.f chartutil_ZzPrefix.f chartutil_concatPrefix.f
    by_cases c : p.toList = ([] : List UInt8)
    · rw [if_pos c]
      simp only [Option.bind_some]
      rw [if_pos c, if_pos trivial]
    · rw [if_neg c, if_pos (by omega), if_pos (by rw [ByteArray.size_append]; omega)]
      simp only [Option.bind_some]
      rw [if_neg c, if_pos (by omega), if_pos (by rw [ByteArray.size_append]; omega)]
      simp
  have hloop : ∀ (d k i : Nat), i ≤ r.length → r.length - i = d → d < k → laws_FnPathNames.l0 k s p r r (r.length : Int) (i : Int) = some true := by
    intro d
    induction d with
    | zero =>
      intro k i h5 h6 h7
      obtain ⟨k, rfl⟩ : ∃ m, k = m + 1 := ⟨k - 1, by omega⟩
      rw [show i = r.length by omega]
      exact hend k
    | succ d ih =>
      intro k i h5 h6 h7
      obtain ⟨k, rfl⟩ : ∃ m, k = m + 1 := ⟨k - 1, by omega⟩
      have hw : wrap64 ((i : Int) + 1) = ((i + 1 : Nat) : Int) := w64_eq (by omega) (by omega) (by omega)
      conv => lhs; unfold laws_FnPathNames.l0
      rw [if_pos (by omega), if_pos (by omega), if_pos (by omega), if_pos (by omega), if_pos rfl, hw]
      exact ih k (i + 1) (by omega) (by omega) (by omega)
  refine ⟨2002, ?_⟩
  unfold laws_FnPathNames.f
  rw [if_neg c1, decide_eq_false c2, j0, if_neg c3, decide_eq_false c4, j1, hp1, Option.bind_some, hn1, Option.bind_some, if_pos rfl]
  exact hloop r.length 2000 0 (by omega) (by omega) (by omega)

end Go.Proofs.Ytcficphbjicneaa.Pure

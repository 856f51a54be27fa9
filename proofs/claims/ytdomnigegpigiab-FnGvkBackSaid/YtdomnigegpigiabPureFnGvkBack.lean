/- FnGvkBack: for every id of plain texts the text of its group, version and kind is read back as these, and for every text of at most 40 bytes the package reads what the reference reads; no condition. -/
import Derived.Test.YtdomnigegpigiabPFnGvkBackx6
import Derived.Test.YtdomnigegpigiabGvkK
namespace Go.Proofs.Ytdomnigegpigiab.Pure
open Go.RowKit Go.Proofs.Ytdomnigegpigiab.PFnGvkBack Go.Proofs.YtdomnigegpigiabW.PrintWords Go.Proofs.YtdomnigegpigiabW.PrintLast Go.Proofs.YtdomnigegpigiabW.PrintMore Go.Proofs.Ytdomnigegpigiab.BL Go.Proofs.Ytdomnigegpigiab.PFnGvkBackK

abbrev noKind : ByteArray := ⟨#[91, 110, 111, 75, 105, 110, 100, 93]⟩
abbrev noVer : ByteArray := ⟨#[91, 110, 111, 86, 101, 114, 93]⟩
abbrev noGrp : ByteArray := ⟨#[91, 110, 111, 71, 114, 112, 93]⟩
def gbU (s w : ByteArray) : ByteArray := if s.toList = w.toList then ⟨#[]⟩ else s
def gbO (s w : ByteArray) : ByteArray := if s.toList = ([] : List UInt8) then w else s
def gbOf (ps : List ByteArray) : ByteArray × ByteArray × ByteArray :=
  if ps.length < 3 then (noGrp, noVer, noKind) else (gbU ⟨(Lib.join ((ps.drop 2).map L) [46]).toArray⟩ noGrp, gbU (rdOf ByteArray.empty ps 1) noVer, gbU (rdOf ByteArray.empty ps 0) noKind)
theorem gb_kind : noKind.toList = ([91, 110, 111, 75, 105, 110, 100, 93] : List UInt8) := toList_L _
theorem gb_ver : noVer.toList = ([91, 110, 111, 86, 101, 114, 93] : List UInt8) := toList_L _
theorem gb_grp : noGrp.toList = ([91, 110, 111, 71, 114, 112, 93] : List UInt8) := toList_L _

theorem gb_parts (s : ByteArray) (hs : s.size ≤ 1000) : ∃ ps : List ByteArray, ps.map L = splitL 46 (L s) ∧ ps.length ≤ 1001 ∧ (∀ p ∈ ps, p.size ≤ 1000) ∧
    (∀ k, 3000 ≤ k → resid_zzSplit.f k s (⟨#[46]⟩ : ByteArray) = some ps) ∧ (∀ k, 3000 ≤ k → spec_kySplit.f k s (⟨#[46]⟩ : ByteArray) = some ps) := by
  obtain ⟨ps, h1, h2⟩ := split_one (ix := resid_zzIndex.l0) (fun k s p i => by rw [resid_zzIndex.l0]) (g := resid_zzSplit.l0) (fun k a b c => by rw [resid_zzSplit.l0]; rfl) (⟨#[46]⟩ : ByteArray) 46 rfl s.size 3000 s [] (by omega) (by omega) (by simp; omega) (by omega)
  obtain ⟨qs, h3, h4⟩ := split_one (ix := spec_kyIndex.l0) (fun k s p i => by rw [spec_kyIndex.l0]) (g := spec_kySplit.l0) (fun k a b c => by rw [spec_kySplit.l0]; rfl) (⟨#[46]⟩ : ByteArray) 46 rfl s.size 3000 s [] (by omega) (by omega) (by simp; omega) (by omega)
  rw [List.map_nil, List.nil_append] at h2 h4
  obtain rfl : ps = qs := map_L_inj (h2.trans h4.symm)
  have hlen := splitL_length 46 (L s)
  rw [← h2, List.length_map, L_length] at hlen
  refine ⟨ps, h2, by omega, fun p hp => ?_, fun k hk => at_rounds (g := fun k => resid_zzSplit.f k s (⟨#[46]⟩ : ByteArray)) (fun k => resid_zzSplit.mono _ _ k) hk h1, fun k hk => at_rounds (g := fun k => spec_kySplit.f k s (⟨#[46]⟩ : ByteArray)) (fun k => spec_kySplit.mono _ _ k) hk h3⟩
  have := splitL_mem_length 46 (L s) (L p) (by rw [← h2]; exact List.mem_map_of_mem hp)
  rw [L_length, L_length] at this
  omega

theorem gb_join_len (ps : List ByteArray) (hl : ps.length ≤ 1001) (hp : ∀ p ∈ ps, p.size ≤ 1000) : (Lib.join (ps.map L) [46]).length ≤ 2000000 := by
  have tail : ∀ (t : List ByteArray), (∀ p ∈ t, p.size ≤ 1000) → (Lib.joinTail [46] (t.map L)).length ≤ 1001 * t.length := by
    intro t
    induction t with
    | nil => intro _; simp [Lib.joinTail]
    | cons a b ih =>
      intro ht
      have h1 := ih (fun p hp => ht p (List.mem_cons_of_mem _ hp))
      have h2 := ht a List.mem_cons_self
      unfold Lib.joinTail at h1 ⊢
      rw [List.map_cons, List.map_cons, List.flatten_cons, List.length_append, List.length_append, L_length]
      simp only [List.length_cons, List.length_nil]
      omega
  cases ps with
  | nil => simp [Lib.join_nil]
  | cons a t =>
    have h1 := tail t (fun p h => hp p (List.mem_cons_of_mem _ h))
    have h2 := hp a List.mem_cons_self
    rw [List.map_cons, Lib.join_cons, List.length_append, L_length]
    simp only [List.length_cons] at hl
    omega

theorem gb_impl (s : ByteArray) (ps : List ByteArray) (hl : ps.length ≤ 1001) (hp : ∀ p ∈ ps, p.size ≤ 1000) (k : Nat) (h : resid_zzSplit.f (k + 2) s (⟨#[46]⟩ : ByteArray) = some ps) :
    impl_GvkOf.f (k + 2) s = some ((gbOf ps).1, (gbOf ps).2.1, (gbOf ps).2.2, (⟨#[]⟩ : ByteArray), (⟨#[]⟩ : ByteArray)) := by
  unfold impl_GvkOf.f resid_GvkFromString.f gbOf
  rw [h, Option.bind_some]
  by_cases c : ps.length < 3
  · rw [if_pos (by omega), if_pos c]
    rfl
  · rw [if_neg (by omega), if_pos (by omega), if_neg c]
    have hj : strings_Join.f (ps.drop 2) (⟨#[46]⟩ : ByteArray) = some ⟨(Lib.join ((ps.drop 2).map L) [46]).toArray⟩ := by
      unfold strings_Join.f
      have hb := gb_join_len (ps.drop 2) (by rw [List.length_drop]; omega) (fun p h => hp p (List.mem_of_mem_drop h))
      have e : (Lib.join ((ps.drop 2).map (·.data.toList)) (⟨#[46]⟩ : ByteArray).data.toList) = Lib.join ((ps.drop 2).map L) [46] := rfl
      rw [if_pos (by rw [List.length_drop]; omega), e, if_pos (by omega)]
    have hj1 : ∀ (kd v : ByteArray), resid_GvkFromString.j1 (k + 1) ps kd v = some (gbU ⟨(Lib.join ((ps.drop 2).map L) [46]).toArray⟩ noGrp, v, kd, false) := by
      intro kd v
      simp only [resid_GvkFromString.j1]
      rw [if_pos (by omega), hj, Option.bind_some]
      unfold gbU
      rw [gb_grp]
      split
      · rfl
      · rfl
    have hj0 : ∀ (kd : ByteArray), resid_GvkFromString.j0 (k + 2) ps kd = some (gbU ⟨(Lib.join ((ps.drop 2).map L) [46]).toArray⟩ noGrp, gbU (rdOf ByteArray.empty ps 1) noVer, kd, false) := by
      intro kd
      have e : resid_GvkFromString.j0 (k + 1 + 1) ps kd = if 1 < (ps.length : Int) then (if (rdOf ByteArray.empty ps 1).toList = ([91, 110, 111, 86, 101, 114, 93] : List UInt8) then (resid_GvkFromString.j1 (k + 1) ps kd (⟨#[]⟩ : ByteArray)) else (resid_GvkFromString.j1 (k + 1) ps kd (rdOf ByteArray.empty ps 1))) else (none) := rfl
      rw [e, if_pos (by omega), hj1, hj1]
      unfold gbU
      rw [gb_ver]
      split <;> rfl
    rw [hj0, hj0]
    unfold gbU
    rw [gb_kind]
    split <;> rfl
theorem gb_spec (s : ByteArray) (ps : List ByteArray) (hl : ps.length ≤ 1001) (hp : ∀ p ∈ ps, p.size ≤ 1000) (k : Nat) (hk : 1100 ≤ k) (h : spec_kySplit.f k s (⟨#[46]⟩ : ByteArray) = some ps) :
    spec_KyGvkOf.f k s = some ((gbOf ps).1, (gbOf ps).2.1, (gbOf ps).2.2, (⟨#[]⟩ : ByteArray), (⟨#[]⟩ : ByteArray)) := by
  unfold spec_KyGvkOf.f gbOf
  rw [h, Option.bind_some]
  by_cases c : ps.length < 3
  · rw [if_pos (by omega), if_pos c]
  · have hu : ∀ a w, spec_kyUnless.f a w = some (gbU a w) := by
      intro a w
      unfold spec_kyUnless.f gbU
      split <;> rfl
    obtain ⟨r, hr, hr2⟩ := join_any (g := spec_kyJoin.l0) (fun k a b c d e => by rw [spec_kyJoin.l0]) (⟨#[46]⟩ : ByteArray) (by decide) (ps.drop 2) (by rw [List.length_drop]; omega) (fun p h => by have := hp p (List.mem_of_mem_drop h); omega) k (by rw [List.length_drop]; omega)
    have e46 : L (⟨#[46]⟩ : ByteArray) = [46] := rfl
    have hre : r = ⟨(Lib.join ((ps.drop 2).map L) [46]).toArray⟩ := L_inj (by rw [hr2, e46]; rfl)
    have hj : spec_kyJoin.f k (ps.drop 2) (⟨#[46]⟩ : ByteArray) = some r := hr
    rw [if_neg (by omega), if_pos (by omega), if_neg c, hu, Option.bind_some, if_pos (by omega), hu, Option.bind_some, if_pos (by omega), hj, Option.bind_some, hu, Option.bind_some, hre]

/-! ### The text of an id -/
theorem gb_text (g v kd : ByteArray) (hg : g.size ≤ 100) (hv : v.size ≤ 100) (hk : kd.size ≤ 100) : ∃ t, spec_KyGvkText.f g v kd (⟨#[]⟩ : ByteArray) (⟨#[]⟩ : ByteArray) = some t ∧ L t = L (gbO kd noKind) ++ 46 :: (L (gbO v noVer) ++ 46 :: L (gbO g noGrp)) := by
  have ho : ∀ a w, spec_kyOr.f a w = some (gbO a w) := by
    intro a w
    unfold spec_kyOr.f gbO
    split <;> rfl
  have hsz : ∀ a w : ByteArray, a.size ≤ 100 → w.size ≤ 100 → (gbO a w).size ≤ 100 := by
    intro a w h1 h2
    unfold gbO
    split <;> assumption
  have h1 := hsz kd noKind hk (by decide)
  have h2 := hsz v noVer hv (by decide)
  have h3 := hsz g noGrp hg (by decide)
  have e1 : (⟨#[46]⟩ : ByteArray).size = 1 := rfl
  unfold spec_KyGvkText.f
  rw [ho kd noKind, Option.bind_some, if_pos (by omega), ho v noVer, Option.bind_some, if_pos (by rw [ByteArray.size_append]; omega), if_pos (by rw [ByteArray.size_append, ByteArray.size_append]; omega), ho g noGrp, Option.bind_some, if_pos (by rw [ByteArray.size_append, ByteArray.size_append, ByteArray.size_append]; omega)]
  refine ⟨_, rfl, ?_⟩
  have e46 : L (⟨#[46]⟩ : ByteArray) = [46] := rfl
  rw [L_append, L_append, L_append, L_append, e46]
  simp

theorem gb_ne (s w : ByteArray) (c : UInt8) (hs : c ∉ L s) (hw : c ∈ L w) : ¬ s.toList = w.toList := by
  rw [toList_L, toList_L]
  intro e
  rw [e] at hs
  exact hs hw
/-- What was a word for an empty text is empty again. -/
theorem gb_back (s w : ByteArray) (hs : (91 : UInt8) ∉ L s) (hw : (91 : UInt8) ∈ L w) : gbU (gbO s w) w = s := by
  unfold gbO
  by_cases c : s.toList = ([] : List UInt8)
  · rw [if_pos c]
    unfold gbU
    rw [if_pos rfl]
    rw [toList_L] at c
    exact (L_inj (by rw [c]; rfl))
  · rw [if_neg c]
    unfold gbU
    rw [if_neg (gb_ne s w 91 hs hw)]

theorem gb_known (g v kd n ns t : ByteArray) (ps : List ByteArray) (h : IsId g v kd n ns) (ht : L t = L (gbO kd noKind) ++ 46 :: (L (gbO v noVer) ++ 46 :: L (gbO g noGrp))) (hps : ps.map L = splitL 46 (L t)) : gbOf ps = (g, v, kd) := by
  have n46 : ∀ b, PB b → b ≠ 46 := fun b hb => (PB_ne hb).1
  have n91 : ∀ b, PB b → b ≠ 91 := fun b hb => (PB_ne hb).2.1
  have hg91 : (91 : UInt8) ∉ L g := h.g.not_mem 91 n91 (by decide)
  have hv91 : (91 : UInt8) ∉ L v := fun hm => n91 _ (h.v.2 _ hm) rfl
  have hv46 : (46 : UInt8) ∉ L v := fun hm => n46 _ (h.v.2 _ hm) rfl
  have hk : (91 : UInt8) ∉ L kd ∧ (46 : UInt8) ∉ L kd := by
    rcases h.kd with e | ⟨p, hp, e⟩
    · rw [e]; exact ⟨by decide, by decide⟩
    · rw [e]
      refine ⟨fun hm => ?_, fun hm => ?_⟩ <;> simp only [List.mem_cons] at hm <;> rcases hm with hm | hm | hm
      · exact absurd hm (by decide)
      · exact absurd hm (by decide)
      · exact n91 _ (hp.2 _ hm) rfl
      · exact absurd hm (by decide)
      · exact absurd hm (by decide)
      · exact n46 _ (hp.2 _ hm) rfl
  have o46 : ∀ s w : ByteArray, (46 : UInt8) ∉ L s → (46 : UInt8) ∉ L w → (46 : UInt8) ∉ L (gbO s w) := by
    intro s w h1 h2
    unfold gbO
    split <;> assumption
  rw [ht, splitL_at 46 _ _ (o46 kd noKind hk.2 (by decide)), splitL_at 46 _ _ (o46 v noVer hv46 (by decide))] at hps
  obtain ⟨p0, p1, pr, rfl⟩ : ∃ p0 p1 pr, ps = p0 :: p1 :: pr := by
    match ps, hps with
    | a :: b :: c, _ => exact ⟨a, b, c, rfl⟩
    | [a], h =>
      obtain ⟨x, y, e⟩ := splitL_ne 46 (L (gbO g noGrp))
      rw [e] at h
      simp at h
    | [], h => simp at h
  simp only [List.map_cons, List.cons.injEq] at hps
  obtain ⟨e0, e1, e2⟩ := hps
  obtain rfl := L_inj e0
  obtain rfl := L_inj e1
  have hlen : ¬ (gbO kd noKind :: gbO v noVer :: pr).length < 3 := by
    obtain ⟨a, b, e⟩ := splitL_ne 46 (L (gbO g noGrp))
    rw [e] at e2
    have := congrArg List.length e2
    simp only [List.length_map, List.length_cons] at this ⊢
    omega
  unfold gbOf
  rw [if_neg hlen]
  have ej : (⟨(Lib.join (((gbO kd noKind :: gbO v noVer :: pr).drop 2).map L) [46]).toArray⟩ : ByteArray) = gbO g noGrp := L_inj (by
    show Lib.join (pr.map L) [46] = L (gbO g noGrp)
    rw [e2, join_split])
  have r0 : rdOf ByteArray.empty (gbO kd noKind :: gbO v noVer :: pr) 0 = gbO kd noKind := rfl
  have r1 : rdOf ByteArray.empty (gbO kd noKind :: gbO v noVer :: pr) 1 = gbO v noVer := rfl
  rw [ej, r0, r1, gb_back g noGrp hg91 (by decide), gb_back v noVer hv91 (by decide), gb_back kd noKind hk.1 (by decide)]

theorem FnGvkBack (a0 a1 a2 a3 a4 s : ByteArray) : ∃ k, laws_FnGvkBack.f k a0 a1 a2 a3 a4 s = some true := by
  have hz : ∃ b, laws_zzFits12.f a0 a1 a2 a3 a4 = some b ∧ (b = true → a0.size ≤ 2147483647 ∧ a1.size ≤ 2147483647 ∧ a2.size ≤ 2147483647 ∧ a3.size ≤ 2147483647 ∧ a4.size ≤ 2147483647) := by
    unfold laws_zzFits12.f
    repeat' split
    all_goals first
      | exact ⟨false, rfl, fun h => by cases h⟩
      | exact ⟨true, rfl, fun _ => by omega⟩
  obtain ⟨b, hb, hfit⟩ := hz
  cases b with
  | false =>
    refine ⟨1, ?_⟩
    unfold laws_FnGvkBack.f
    rw [hb]
    rfl
  | true =>
    by_cases hs : (s.size : Int) > 2147483647
    · refine ⟨1, ?_⟩
      unfold laws_FnGvkBack.f
      rw [hb, decide_eq_true hs]
      rfl
    · obtain ⟨h0, h1, h2, h3, h4⟩ := hfit rfl
      obtain ⟨k0, hk0⟩ := kyId_any a0 a1 a2 a3 a4 h0 h1 h2 h3 h4
      obtain ⟨m, hm, m0, m1, m2⟩ : ∃ m : Int, mn (s.size : Int) 40 = m ∧ 0 ≤ m ∧ m ≤ s.size ∧ m ≤ 40 := ⟨_, rfl, by unfold mn; omega, by unfold mn; omega, by unfold mn; omega⟩
      obtain ⟨g, v, kd, n, ns, hid, hI⟩ := hk0 (k0 + 3000 + 2) (by omega)
      have hgs := hI.g.size
      have hks : kd.size ≤ 100 := by
        rcases hI.kd with e | ⟨p, hp, e⟩
        · rw [e]; decide
        · have := hp.1
          rw [← L_length, e]
          simp only [List.length_cons, L_length]
          omega
      have hvs := hI.v.1
      simp only [List.length_cons, List.length_nil] at hgs
      obtain ⟨t, ht, htL⟩ := gb_text g v kd (by omega) (by omega) hks
      have htsz : t.size ≤ 1000 := by
        have ho : ∀ a w : ByteArray, a.size ≤ 100 → w.size ≤ 100 → (gbO a w).size ≤ 100 := by
          intro a w h1 h2
          unfold gbO
          split <;> assumption
        have q1 := ho kd noKind hks (by decide)
        have q2 := ho v noVer (by omega) (by decide)
        have q3 := ho g noGrp (by omega) (by decide)
        rw [← L_length, htL]
        simp only [List.length_append, List.length_cons, L_length]
        omega
      obtain ⟨ps, p1, p2, p3, p4, p5⟩ := gb_parts t htsz
      have hms : (s.extract 0 m.toNat).size ≤ 1000 := by rw [ByteArray.size_extract]; omega
      obtain ⟨qs, q1, q2, q3, q4, q5⟩ := gb_parts (s.extract 0 m.toNat) hms
      have i1 := gb_impl t ps p2 p3 (k0 + 3000) (p4 _ (by omega))
      have i2 := gb_impl _ qs q2 q3 (k0 + 3000) (q4 _ (by omega))
      have i3 := gb_spec _ qs q2 q3 (k0 + 3000 + 2) (by omega) (q5 _ (by omega))
      rw [gb_known g v kd n ns t ps hI htL p1] at i1
      refine ⟨k0 + 3000 + 2 + 1, ?_⟩
      unfold laws_FnGvkBack.f
      rw [hb, decide_eq_false hs]
      simp only [Option.bind_some, laws_FnGvkBack.j0]
      rw [if_pos trivial, if_neg (by simp), hid, Option.bind_some, hm, if_pos m0, if_pos m1, ht, Option.bind_some, i1, Option.bind_some, i2, i3]
      have e0 : (⟨#[]⟩ : ByteArray).toList = ([] : List UInt8) := toList_L _
      simp [e0]

theorem gvkBack_walk (W : World) (a0 a1 a2 a3 a4 s : ByteArray) (_ : s.size ≤ 140737488351232) : Calls Try.prog 6 #[.agg #[.string a0, .string a1, .string a2, .string a3, .string a4], .string s] W fun e W' => e = .returned (.bool true) ∧ Below W.heap.size W W' := by
  obtain ⟨k, h⟩ := FnGvkBack a0 a1 a2 a3 a4 s
  exact laws_FnGvkBack.calls k a0 a1 a2 a3 a4 s true W h

end Go.Proofs.Ytdomnigegpigiab.Pure

/- FnIdBack: for every id of plain texts the text of the id is read back as the id; no condition. -/
import Derived.Test.YtcficphbjicneaaPFnIdBackx4
import Derived.Test.YtcficphbjicneaaIdK
namespace Go.Proofs.Ytcficphbjicneaa.Pure
open Go.RowKit Go.Proofs.Ytcficphbjicneaa.PFnIdBack Go.Proofs.YtcficphbjicneaaW.PrintWords Go.Proofs.YtcficphbjicneaaW.PrintLast Go.Proofs.YtcficphbjicneaaW.PrintMore Go.Proofs.Ytcficphbjicneaa.BL Go.Proofs.Ytcficphbjicneaa.PFnIdBackK

abbrev noKind : ByteArray := ⟨#[91, 110, 111, 75, 105, 110, 100, 93]⟩
abbrev noVer : ByteArray := ⟨#[91, 110, 111, 86, 101, 114, 93]⟩
abbrev noGrp : ByteArray := ⟨#[91, 110, 111, 71, 114, 112, 93]⟩
def gbU (s w : ByteArray) : ByteArray := if s.toList = w.toList then ⟨#[]⟩ else s
def gbO (s w : ByteArray) : ByteArray := if s.toList = ([] : List UInt8) then w else s
def gbOf (ps : List ByteArray) : ByteArray × ByteArray × ByteArray :=
  if ps.length < 3 then (noGrp, noVer, noKind) else (gbU ⟨(Lib.join ((ps.drop 2).map L) [46]).toArray⟩ noGrp, gbU (rdOf ByteArray.empty ps 1) noVer, gbU (rdOf ByteArray.empty ps 0) noKind)
theorem gb_kind : noKind.toList = ([91, 110, 111, 75, 105, 110, 100, 93] : List UInt8) := toList_L _
theorem gb_ver : noVer.toList = ([91, 110, 111, 86, 101, 114, 93] : List UInt8) := toList_L _
theorem gb_grp : noGrp.toList = ([91, 110, 111, 71, 114, 112, 93] : List UInt8) := toList_L _

theorem ib_parts (c : UInt8) (p : ByteArray) (hp : L p = [c]) (s : ByteArray) (hs : s.size ≤ 1000) : ∃ ps : List ByteArray, ps.map L = splitL c (L s) ∧ ps.length ≤ 1001 ∧ (∀ p ∈ ps, p.size ≤ 1000) ∧ (∀ k, 3000 ≤ k → PFromString.resid_zzSplit.f k s p = some ps) := by
  obtain ⟨ps, h1, h2⟩ := split_one (ix := PFromString.resid_zzIndex.l0) (fun k s p i => by rw [PFromString.resid_zzIndex.l0]) (g := PFromString.resid_zzSplit.l0) (fun k a b c => by rw [PFromString.resid_zzSplit.l0]; rfl) p c hp s.size 3000 s [] (by omega) (by omega) (by simp; omega) (by omega)
  rw [List.map_nil, List.nil_append] at h2
  have hlen := splitL_length c (L s)
  rw [← h2, List.length_map, L_length] at hlen
  refine ⟨ps, h2, by omega, fun q hq => ?_, fun k hk => at_rounds (g := fun k => PFromString.resid_zzSplit.f k s p) (fun k => PFromString.resid_zzSplit.mono _ _ k) hk h1⟩
  have := splitL_mem_length c (L s) (L q) (by rw [← h2]; exact List.mem_map_of_mem hq)
  rw [L_length, L_length] at this
  omega

theorem gb_join_len (ps : List ByteArray) (hl : ps.length ≤ 1001) (hp : ∀ p ∈ ps, p.size ≤ 1000) : (Lib.join (ps.map L) [46]).length ≤ 2000000 := by
  have tail : ∀ (t : List ByteArray), (∀ p ∈ t, p.size ≤ 1000) → (Lib.joinTail [46] (t.map L)).length ≤ 1001 * t.length := by
    intro t
    induction t with
    | nil => intro _; simp [Lib.joinTail]
    | cons a b ih =>
      intro ht
      have h1 := ih (fun p hp => ht p (List.mem_cons_of_mem _ hp))
      have h2 := ht a List.mem_cons_self
      unfold Lib.joinTail at h1 ⊢
      rw [List.map_cons, List.map_cons, List.flatten_cons, List.length_append, List.length_append, L_length]
      simp only [List.length_cons, List.length_nil]
      omega
  cases ps with
  | nil => simp [Lib.join_nil]
  | cons a t =>
    have h1 := tail t (fun p h => hp p (List.mem_cons_of_mem _ h))
    have h2 := hp a List.mem_cons_self
    rw [List.map_cons, Lib.join_cons, List.length_append, L_length]
    simp only [List.length_cons] at hl
    omega

theorem ib_join (ps : List ByteArray) (hl : ps.length ≤ 1001) (hp : ∀ p ∈ ps, p.size ≤ 1000) : PFromString.strings_Join.f ps (⟨#[46]⟩ : ByteArray) = some ⟨(Lib.join (ps.map L) [46]).toArray⟩ := by
  unfold PFromString.strings_Join.f
  have hb := gb_join_len ps hl hp
  have e : (Lib.join (ps.map (·.data.toList)) (⟨#[46]⟩ : ByteArray).data.toList) = Lib.join (ps.map L) [46] := rfl
  rw [if_pos (by omega), e, if_pos (by omega)]
theorem gb_impl (s : ByteArray) (ps : List ByteArray) (hl : ps.length ≤ 1001) (hp : ∀ p ∈ ps, p.size ≤ 1000) (k : Nat) (h : PFromString.resid_zzSplit.f (k + 2) s (⟨#[46]⟩ : ByteArray) = some ps) :
    PFromString.resid_GvkFromString.f (k + 2) s = some ((gbOf ps).1, (gbOf ps).2.1, (gbOf ps).2.2, false) := by
  unfold PFromString.resid_GvkFromString.f gbOf
  rw [h, Option.bind_some]
  by_cases c : ps.length < 3
  · rw [if_pos (by omega), if_pos c]
  · rw [if_neg (by omega), if_pos (by omega), if_neg c]
    have hj := ib_join (ps.drop 2) (by rw [List.length_drop]; omega) (fun p h => hp p (List.mem_of_mem_drop h))
    have hj1 : ∀ (kd v : ByteArray), PFromString.resid_GvkFromString.j1 (k + 1) ps kd v = some (gbU ⟨(Lib.join ((ps.drop 2).map L) [46]).toArray⟩ noGrp, v, kd, false) := by
      intro kd v
      simp only [PFromString.resid_GvkFromString.j1]
      rw [if_pos (by omega), hj, Option.bind_some]
      unfold gbU
      rw [gb_grp]
      split
      · rfl
      · rfl
    have hj0 : ∀ (kd : ByteArray), PFromString.resid_GvkFromString.j0 (k + 2) ps kd = some (gbU ⟨(Lib.join ((ps.drop 2).map L) [46]).toArray⟩ noGrp, gbU (rdOf ByteArray.empty ps 1) noVer, kd, false) := by
      intro kd
      have e : PFromString.resid_GvkFromString.j0 (k + 1 + 1) ps kd = if 1 < (ps.length : Int) then (if (rdOf ByteArray.empty ps 1).toList = ([91, 110, 111, 86, 101, 114, 93] : List UInt8) then (PFromString.resid_GvkFromString.j1 (k + 1) ps kd (⟨#[]⟩ : ByteArray)) else (PFromString.resid_GvkFromString.j1 (k + 1) ps kd (rdOf ByteArray.empty ps 1))) else (none) := rfl
      rw [e, if_pos (by omega), hj1, hj1]
      unfold gbU
      rw [gb_ver]
      split <;> rfl
    rw [hj0, hj0]
    unfold gbU
    rw [gb_kind]
    split <;> rfl
/-! ### The text of an id -/
theorem gb_text (g v kd n ns : ByteArray) (hg : g.size ≤ 100) (hv : v.size ≤ 100) (hk : kd.size ≤ 100) : ∃ t, spec_KyGvkText.f g v kd n ns = some t ∧ L t = L (gbO kd noKind) ++ 46 :: (L (gbO v noVer) ++ 46 :: L (gbO g noGrp)) := by
  have ho : ∀ a w, spec_kyOr.f a w = some (gbO a w) := by
    intro a w
    unfold spec_kyOr.f gbO
    split <;> rfl
  have hsz : ∀ a w : ByteArray, a.size ≤ 100 → w.size ≤ 100 → (gbO a w).size ≤ 100 := by
    intro a w h1 h2
    unfold gbO
    split <;> assumption
  have h1 := hsz kd noKind hk (by decide)
  have h2 := hsz v noVer hv (by decide)
  have h3 := hsz g noGrp hg (by decide)
  have e1 : (⟨#[46]⟩ : ByteArray).size = 1 := rfl
  unfold spec_KyGvkText.f
  rw [ho kd noKind, Option.bind_some, if_pos (by omega), ho v noVer, Option.bind_some, if_pos (by rw [ByteArray.size_append]; omega), if_pos (by rw [ByteArray.size_append, ByteArray.size_append]; omega), ho g noGrp, Option.bind_some, if_pos (by rw [ByteArray.size_append, ByteArray.size_append, ByteArray.size_append]; omega)]
  refine ⟨_, rfl, ?_⟩
  have e46 : L (⟨#[46]⟩ : ByteArray) = [46] := rfl
  rw [L_append, L_append, L_append, L_append, e46]
  simp

theorem gb_ne (s w : ByteArray) (c : UInt8) (hs : c ∉ L s) (hw : c ∈ L w) : ¬ s.toList = w.toList := by
  rw [toList_L, toList_L]
  intro e
  rw [e] at hs
  exact hs hw
/-- What was a word for an empty text is empty again. -/
theorem gb_back (s w : ByteArray) (hs : (91 : UInt8) ∉ L s) (hw : (91 : UInt8) ∈ L w) : gbU (gbO s w) w = s := by
  unfold gbO
  by_cases c : s.toList = ([] : List UInt8)
  · rw [if_pos c]
    unfold gbU
    rw [if_pos rfl]
    rw [toList_L] at c
    exact (L_inj (by rw [c]; rfl))
  · rw [if_neg c]
    unfold gbU
    rw [if_neg (gb_ne s w 91 hs hw)]

theorem gb_known (g v kd n ns t : ByteArray) (ps : List ByteArray) (h : IsId g v kd n ns) (ht : L t = L (gbO kd noKind) ++ 46 :: (L (gbO v noVer) ++ 46 :: L (gbO g noGrp))) (hps : ps.map L = splitL 46 (L t)) : gbOf ps = (g, v, kd) := by
  have n46 : ∀ b, PB b → b ≠ 46 := fun b hb => (PB_ne hb).1
  have n91 : ∀ b, PB b → b ≠ 91 := fun b hb => (PB_ne hb).2.1
  have hg91 : (91 : UInt8) ∉ L g := h.g.not_mem 91 n91 (by decide)
  have hv91 : (91 : UInt8) ∉ L v := fun hm => n91 _ (h.v.2 _ hm) rfl
  have hv46 : (46 : UInt8) ∉ L v := fun hm => n46 _ (h.v.2 _ hm) rfl
  have hk : (91 : UInt8) ∉ L kd ∧ (46 : UInt8) ∉ L kd := by
    rcases h.kd with e | ⟨p, hp, e⟩
    · rw [e]; exact ⟨by decide, by decide⟩
    · rw [e]
      refine ⟨fun hm => ?_, fun hm => ?_⟩ <;> simp only [List.mem_cons] at hm <;> rcases hm with hm | hm | hm
      · exact absurd hm (by decide)
      · exact absurd hm (by decide)
      · exact n91 _ (hp.2 _ hm) rfl
      · exact absurd hm (by decide)
      · exact absurd hm (by decide)
      · exact n46 _ (hp.2 _ hm) rfl
  have o46 : ∀ s w : ByteArray, (46 : UInt8) ∉ L s → (46 : UInt8) ∉ L w → (46 : UInt8) ∉ L (gbO s w) := by
    intro s w h1 h2
    unfold gbO
    split <;> assumption
  rw [ht, splitL_at 46 _ _ (o46 kd noKind hk.2 (by decide)), splitL_at 46 _ _ (o46 v noVer hv46 (by decide))] at hps
  obtain ⟨p0, p1, pr, rfl⟩ : ∃ p0 p1 pr, ps = p0 :: p1 :: pr := by
    match ps, hps with
    | a :: b :: c, _ => exact ⟨a, b, c, rfl⟩
    | [a], h =>
      obtain ⟨x, y, e⟩ := splitL_ne 46 (L (gbO g noGrp))
      rw [e] at h
      simp at h
    | [], h => simp at h
  simp only [List.map_cons, List.cons.injEq] at hps
  obtain ⟨e0, e1, e2⟩ := hps
  obtain rfl := L_inj e0
  obtain rfl := L_inj e1
  have hlen : ¬ (gbO kd noKind :: gbO v noVer :: pr).length < 3 := by
    obtain ⟨a, b, e⟩ := splitL_ne 46 (L (gbO g noGrp))
    rw [e] at e2
    have := congrArg List.length e2
    simp only [List.length_map, List.length_cons] at this ⊢
    omega
  unfold gbOf
  rw [if_neg hlen]
  have ej : (⟨(Lib.join (((gbO kd noKind :: gbO v noVer :: pr).drop 2).map L) [46]).toArray⟩ : ByteArray) = gbO g noGrp := L_inj (by
    show Lib.join (pr.map L) [46] = L (gbO g noGrp)
    rw [e2, join_split])
  have r0 : rdOf ByteArray.empty (gbO kd noKind :: gbO v noVer :: pr) 0 = gbO kd noKind := rfl
  have r1 : rdOf ByteArray.empty (gbO kd noKind :: gbO v noVer :: pr) 1 = gbO v noVer := rfl
  rw [ej, r0, r1, gb_back g noGrp hg91 (by decide), gb_back v noVer hv91 (by decide), gb_back kd noKind hk.1 (by decide)]


abbrev noName : ByteArray := ⟨#[91, 110, 111, 78, 97, 109, 101, 93]⟩
abbrev noNs : ByteArray := ⟨#[91, 110, 111, 78, 115, 93]⟩
theorem ib_name : noName.toList = ([91, 110, 111, 78, 97, 109, 101, 93] : List UInt8) := toList_L _
theorem ib_ns : noNs.toList = ([91, 110, 111, 78, 115, 93] : List UInt8) := toList_L _
theorem gbO_size (a w : ByteArray) (h1 : a.size ≤ 100) (h2 : w.size ≤ 100) : (gbO a w).size ≤ 100 := by
  unfold gbO
  split <;> assumption
theorem ib_text (g v kd n ns : ByteArray) (hg : g.size ≤ 100) (hv : v.size ≤ 100) (hk : kd.size ≤ 100) (hn : n.size ≤ 100) (hs : ns.size ≤ 100) : ∃ t, spec_KyIdText.f g v kd n ns = some t ∧
    L t = (L (gbO kd noKind) ++ 46 :: (L (gbO v noVer) ++ 46 :: L (gbO g noGrp))) ++ 47 :: (L (gbO n noName) ++ 46 :: L (gbO ns noNs)) := by
  have ho : ∀ a w, spec_kyOr.f a w = some (gbO a w) := by
    intro a w
    unfold spec_kyOr.f gbO
    split <;> rfl
  obtain ⟨t, ht, htL⟩ := gb_text g v kd n ns hg hv hk
  have q1 := gbO_size kd noKind hk (by decide)
  have q2 := gbO_size v noVer hv (by decide)
  have q3 := gbO_size g noGrp hg (by decide)
  have q4 := gbO_size n noName hn (by decide)
  have q5 := gbO_size ns noNs hs (by decide)
  have htsz : t.size ≤ 400 := by
    rw [← L_length, htL]
    simp only [List.length_append, List.length_cons, L_length]
    omega
  have e1 : (⟨#[46]⟩ : ByteArray).size = 1 := rfl
  have e2 : (⟨#[47]⟩ : ByteArray).size = 1 := rfl
  unfold spec_KyIdText.f
  rw [ht, Option.bind_some, if_pos (by omega), ho n noName, Option.bind_some, if_pos (by rw [ByteArray.size_append]; omega), if_pos (by rw [ByteArray.size_append, ByteArray.size_append]; omega), ho ns noNs, Option.bind_some, if_pos (by rw [ByteArray.size_append, ByteArray.size_append, ByteArray.size_append]; omega)]
  refine ⟨_, rfl, ?_⟩
  have e46 : L (⟨#[46]⟩ : ByteArray) = [46] := rfl
  have e47 : L (⟨#[47]⟩ : ByteArray) = [47] := rfl
  rw [L_append, L_append, L_append, L_append, e46, e47, htL]
  simp

theorem splitL_both (c : UInt8) (a b : List UInt8) : splitL c (a ++ c :: b) = splitL c a ++ splitL c b := by
  induction a with
  | nil => simp [splitL]
  | cons x t ih =>
    obtain ⟨h, r, e⟩ := splitL_ne c t
    rw [List.cons_append]
    by_cases hx : x = c
    · conv => lhs; unfold splitL
      conv => rhs; rw [splitL]
      rw [if_pos hx, if_pos hx, ih, List.cons_append]
    · conv => lhs; unfold splitL
      conv => rhs; rw [splitL]
      rw [if_neg hx, if_neg hx, ih, e]
      rfl

theorem FnIdBack (a0 a1 a2 a3 a4 : ByteArray) : ∃ k, laws_FnIdBack.f k a0 a1 a2 a3 a4 = some true := by
  have hz : ∃ b, laws_zzFits12.f a0 a1 a2 a3 a4 = some b ∧ (b = true → a0.size ≤ 2147483647 ∧ a1.size ≤ 2147483647 ∧ a2.size ≤ 2147483647 ∧ a3.size ≤ 2147483647 ∧ a4.size ≤ 2147483647) := by
    unfold laws_zzFits12.f
    repeat' split
    all_goals first
      | exact ⟨false, rfl, fun h => by cases h⟩
      | exact ⟨true, rfl, fun _ => by omega⟩
  obtain ⟨b, hb, hfit⟩ := hz
  cases b with
  | false =>
    refine ⟨1, ?_⟩
    unfold laws_FnIdBack.f
    rw [hb]
    rfl
  | true =>
    obtain ⟨h0, h1, h2, h3, h4⟩ := hfit rfl
    obtain ⟨k0, hk0⟩ := kyId_any a0 a1 a2 a3 a4 h0 h1 h2 h3 h4
    obtain ⟨g, v, kd, n, ns, hid, hI⟩ := hk0 (k0 + 3000 + 2) (by omega)
    have hgs := hI.g.size
    have hnsz := hI.n.size
    have hks : kd.size ≤ 100 := by
      rcases hI.kd with e | ⟨p, hp, e⟩
      · rw [e]; decide
      · have := hp.1
        rw [← L_length, e]
        simp only [List.length_cons, L_length]
        omega
    have hvs := hI.v.1
    have hss := hI.ns.1
    simp only [List.length_cons, List.length_nil] at hgs hnsz
    obtain ⟨t, ht, htL⟩ := ib_text g v kd n ns (by omega) (by omega) hks (by omega) (by omega)
    have q1 := gbO_size kd noKind hks (by decide)
    have q2 := gbO_size v noVer (by omega) (by decide)
    have q3 := gbO_size g noGrp (by omega) (by decide)
    have q4 := gbO_size n noName (by omega) (by decide)
    have q5 := gbO_size ns noNs (by omega) (by decide)
    have htsz : t.size ≤ 1000 := by
      rw [← L_length, htL]
      simp only [List.length_append, List.length_cons, L_length]
      omega
    -- no slash in the parts
    have n47 : ∀ b, PB b → b ≠ 47 := fun b hb => (PB_ne hb).2.2.1
    have n46 : ∀ b, PB b → b ≠ 46 := fun b hb => (PB_ne hb).1
    have n91 : ∀ b, PB b → b ≠ 91 := fun b hb => (PB_ne hb).2.1
    have oM : ∀ (c : UInt8) (s w : ByteArray), c ∉ L s → c ∉ L w → c ∉ L (gbO s w) := by
      intro c s w h1 h2
      unfold gbO
      split <;> assumption
    have k47 : (47 : UInt8) ∉ L kd := by
      rcases hI.kd with e | ⟨p, hp, e⟩
      · rw [e]; decide
      · rw [e]
        intro hm
        simp only [List.mem_cons] at hm
        rcases hm with hm | hm | hm
        · exact absurd hm (by decide)
        · exact absurd hm (by decide)
        · exact n47 _ (hp.2 _ hm) rfl
    have g47 := oM 47 g noGrp (hI.g.not_mem 47 n47 (by decide)) (by decide)
    have v47 := oM 47 v noVer (fun hm => n47 _ (hI.v.2 _ hm) rfl) (by decide)
    have kk47 := oM 47 kd noKind k47 (by decide)
    have nm47 := oM 47 n noName (hI.n.not_mem 47 n47 (by decide)) (by decide)
    have ns47 := oM 47 ns noNs (fun hm => n47 _ (hI.ns.2 _ hm) rfl) (by decide)
    have ns46 := oM 46 ns noNs (fun hm => n46 _ (hI.ns.2 _ hm) rfl) (by decide)
    have t47 : (47 : UInt8) ∉ L (gbO kd noKind) ++ 46 :: (L (gbO v noVer) ++ 46 :: L (gbO g noGrp)) := by simp [g47, v47, kk47]
    have r47 : (47 : UInt8) ∉ L (gbO n noName) ++ 46 :: L (gbO ns noNs) := by simp [nm47, ns47]
    obtain ⟨ps, p1, p2, p3, p4⟩ := ib_parts 47 (⟨#[47]⟩ : ByteArray) rfl t htsz
    rw [htL, splitL_at 47 _ _ t47, splitL_none 47 _ r47] at p1
    obtain ⟨x, y, rfl⟩ : ∃ x y, ps = [x, y] := by
      have := congrArg List.length p1
      match ps, this with
      | [x, y], _ => exact ⟨x, y, rfl⟩
    simp only [List.map_cons, List.map_nil, List.cons.injEq, and_true] at p1
    obtain ⟨ex, ey⟩ := p1
    obtain ⟨qs, u1, u2, u3, u4⟩ := ib_parts 46 (⟨#[46]⟩ : ByteArray) rfl x (p3 x List.mem_cons_self)
    obtain ⟨rs, w1, w2, w3, w4⟩ := ib_parts 46 (⟨#[46]⟩ : ByteArray) rfl y (p3 y (List.mem_cons_of_mem _ List.mem_cons_self))
    have i1 := gb_impl x qs u2 u3 (k0 + 3000) (u4 _ (by omega))
    rw [gb_known g v kd n ns x qs hI ex u1] at i1
    rw [ey, splitL_both, splitL_none 46 _ ns46] at w1
    obtain ⟨nms, lastp, rfl⟩ : ∃ a b, rs = a ++ [b] := by
      rcases List.eq_nil_or_concat rs with e | ⟨a, b, e⟩
      · rw [e] at w1; simp at w1
      · exact ⟨a, b, by rw [e, List.concat_eq_append]⟩
    rw [List.map_append, List.map_singleton] at w1
    obtain ⟨wa, wb⟩ := List.append_inj' w1 rfl
    have elast : lastp = gbO ns noNs := L_inj (by simpa using wb)
    subst elast
    have hlen : (nms ++ [gbO ns noNs]).length = nms.length + 1 := by simp
    have hw : wrap64 (((nms ++ [gbO ns noNs]).length : Int) - 1) = (nms.length : Int) := by rw [hlen]; exact w64_eq (by omega) (by omega) (by omega)
    have hr : rdOf ByteArray.empty (nms ++ [gbO ns noNs]) (nms.length : Int) = gbO ns noNs := by
      rw [rdOf_get _ _ _ (by simp)]
      simp
    have htake : (nms ++ [gbO ns noNs]).take ((nms.length : Int)).toNat = nms := by
      rw [show ((nms.length : Int)).toNat = nms.length by omega, List.take_left]
    have hj := ib_join nms (by omega) (fun p h => w3 p (List.mem_append_left _ h))
    have ej : (⟨(Lib.join (nms.map L) [46]).toArray⟩ : ByteArray) = gbO n noName := L_inj (by
      show Lib.join (nms.map L) [46] = L (gbO n noName)
      rw [wa, join_split])
    rw [ej] at hj
    have bn := gb_back n noName (hI.n.not_mem 91 n91 (by decide)) (by decide)
    have bs := gb_back ns noNs (fun hm => n91 _ (hI.ns.2 _ hm) rfl) (by decide)
    unfold gbU at bn bs
    rw [ib_name] at bn
    rw [ib_ns] at bs
    have hof : impl_IdOf.f (k0 + 3000 + 2) t = some (g, v, kd, n, ns, 0) := by
      unfold impl_IdOf.f PFromString.resid_FromString.f
      have rx : rdOf ByteArray.empty [x, y] 0 = x := rfl
      have ry : rdOf ByteArray.empty [x, y] 1 = y := rfl
      rw [p4 _ (by omega), Option.bind_some, if_pos (by simp), rx, i1, Option.bind_some, if_pos (by simp), ry, w4 _ (by omega), Option.bind_some, hw, if_pos (by omega), if_pos (by omega), hr, htake, hj]
      by_cases c1 : (gbO ns noNs).toList = ([91, 110, 111, 78, 115, 93] : List UInt8)
      · rw [if_pos c1] at bs
        rw [if_pos c1, if_pos (by omega)]
        simp only [Option.bind_some]
        by_cases c2 : (gbO n noName).toList = ([91, 110, 111, 78, 97, 109, 101, 93] : List UInt8)
        · rw [if_pos c2] at bn
          rw [if_pos c2]
          exact congrArg some (by rw [← bn, ← bs])
        · rw [if_neg c2] at bn
          rw [if_neg c2]
          exact congrArg some (by rw [bn, ← bs])
      · rw [if_neg c1] at bs
        rw [if_neg c1, if_pos (by omega)]
        simp only [Option.bind_some]
        by_cases c2 : (gbO n noName).toList = ([91, 110, 111, 78, 97, 109, 101, 93] : List UInt8)
        · rw [if_pos c2] at bn
          rw [if_pos c2]
          exact congrArg some (by rw [← bn, bs])
        · rw [if_neg c2] at bn
          rw [if_neg c2]
          exact congrArg some (by rw [bn, bs])
    refine ⟨k0 + 3000 + 2, ?_⟩
    unfold laws_FnIdBack.f
    rw [hb, Option.bind_some, if_pos rfl, hid, Option.bind_some, ht, Option.bind_some, hof, Option.bind_some]
    simp

theorem idBack_walk (W : World) (a0 a1 a2 a3 a4 : ByteArray) : Calls Try.prog 4 #[.agg #[.string a0, .string a1, .string a2, .string a3, .string a4]] W fun e W' => e = .returned (.bool true) ∧ Below W.heap.size W W' := by
  obtain ⟨k, h⟩ := FnIdBack a0 a1 a2 a3 a4
  exact laws_FnIdBack.calls k a0 a1 a2 a3 a4 true W h

end Go.Proofs.Ytcficphbjicneaa.Pure

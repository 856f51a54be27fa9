/- FnReleaseName: a release's name is one just if all between its points are labels and it has 1 to 53 bytes: both ways of telling it are the same machine. -/
import Derived.Test.YtdomnigegpigiabDoorPFnReleaseNamex1
import Derived.Test.YtdomnigegpigiabDoorBL
namespace Go.Proofs.YtdomnigegpigiabDoor.Pure
open Go.RowKit Go.Proofs.YtdomnigegpigiabDoor.PFnReleaseName Go.Proofs.YtdomnigegpigiabDoorW.PrintWords Go.Proofs.YtdomnigegpigiabDoorW.PrintLast Go.Proofs.YtdomnigegpigiabDoorW.PrintMore Go.Proofs.YtdomnigegpigiabDoor.BL
open PvalidName (chartutil_validName.f chartutil_validName.l0 chartutil_validName.j1 chartutil_validName.j2)

def okc (c : UInt8) : Bool := (decide (97 ≤ (c.toNat : Int)) && decide ((c.toNat : Int) ≤ 122)) || (decide (48 ≤ (c.toNat : Int)) && decide ((c.toNat : Int) ≤ 57))
def tailok : UInt8 → List UInt8 → Bool
  | p, [] => p != 45
  | _, c :: t => (okc c || c == 45) && tailok c t
def lab : List UInt8 → Bool
  | [] => false
  | c :: t => okc c && tailok c t
def V : Bool → UInt8 → List UInt8 → Bool
  | st, p, [] => !st && p != 45
  | st, p, c :: t => if okc c then V false c t else if c = 45 ∧ st = false then V st c t else if c = 46 ∧ st = false ∧ p ≠ 45 then V true c t else false
theorem ok45 : okc 45 = false := by decide
theorem ok46 : okc 46 = false := by decide
theorem V_split : ∀ l : List UInt8, (∀ p, V true p l = (splitL 46 l).all lab) ∧ (∀ p, V false p l = (tailok p ((splitL 46 l).headD []) && ((splitL 46 l).drop 1).all lab))
  | [] => by
    constructor <;> intro p <;> simp [V, splitL, lab, tailok]
  | c :: t => by
    obtain ⟨ih1, ih2⟩ := V_split t
    obtain ⟨h, r, hs⟩ := splitL_ne 46 t
    rw [hs] at ih1 ih2
    simp only [List.headD_cons, List.drop_succ_cons, List.drop_zero] at ih2
    by_cases c1 : okc c = true
    · have hc : ¬ c = 46 := fun e => by rw [e, ok46] at c1; cases c1
      constructor <;> intro p <;> simp [V, splitL, c1, hc, hs, ih2, lab, tailok]
    · by_cases c2 : c = 45
      · subst c2
        constructor <;> intro p <;> simp [V, splitL, ok45, hs, ih2, lab, tailok]
      · by_cases c3 : c = 46
        · subst c3
          constructor
          · intro p; simp [V, splitL, ok46, lab]
          · intro p
            by_cases c4 : p = 45 <;> simp [V, splitL, ok46, hs, ih1, tailok, c4]
        · constructor <;> intro p <;> simp [V, splitL, c1, c2, c3, hs, lab, tailok]

theorem okc_iff (c : UInt8) : okc c = true ↔ ((c.toNat : Int) ≥ 97 ∧ (c.toNat : Int) ≤ 122) ∨ ((c.toNat : Int) ≥ 48 ∧ (c.toNat : Int) ≤ 57) := by
  unfold okc; simp
theorem u45 (c : UInt8) : (c.toNat : Int) = 45 ↔ c = 45 := ⟨fun h => u8_toNat_inj (b := 45) h, fun h => by rw [h]; rfl⟩
theorem u46 (c : UInt8) : (c.toNat : Int) = 46 ↔ c = 46 := ⟨fun h => u8_toNat_inj (b := 46) h, fun h => by rw [h]; rfl⟩

theorem valid_any (s : ByteArray) (hs : s.size ≤ 4294967296) (d : Nat) : ∀ (k i : Nat) (st : Bool) (p : UInt8), i ≤ s.size → s.size - i = d → 3 * d < k → (st = false → 0 < i ∧ (L s)[i - 1]? = some p) →
    chartutil_validName.l0 k s st (i : Int) = some (V st p ((L s).drop i)) := by
  induction d with
  | zero =>
    intro k i st p h1 h2 hk hp
    obtain ⟨k, rfl⟩ : ∃ m, k = m + 1 := ⟨k - 1, by omega⟩
    conv => lhs; unfold chartutil_validName.l0
    rw [if_neg (by omega), List.drop_eq_nil_of_le (by rw [L_length]; omega)]
    cases st
    · obtain ⟨h3, h4⟩ := hp rfl
      have hi : i = s.size := by omega
      rw [w64_eq (n := (s.size : Int) - 1) (m := ((i - 1 : Nat) : Int)) (by omega) (by omega) (by omega), if_neg (by decide), if_pos (by omega), if_pos (by omega), bt_get? s (i - 1) p h4]
      congr 1
      unfold V
      rw [Bool.eq_iff_iff]
      simp only [bne_iff_ne, ne_eq, Bool.not_false, Bool.true_and]
      exact not_congr (u45 p)
    · rfl
  | succ d ih =>
    intro k i st p h1 h2 hk hp
    obtain ⟨k, rfl⟩ : ∃ m, k = m + 3 := ⟨k - 3, by omega⟩
    obtain ⟨c, hc1, hc2', hc3⟩ := drop_at s i (by omega)
    have hc2 := fun _ : Unit => hc2'
    clear hc2'
    have hw := fun _ : Unit => w64_eq (n := (i : Int) + 1) (m := ((i + 1 : Nat) : Int)) (by omega) (by omega) (by omega)
    have hprev : ∀ st', st' = false → 0 < i + 1 ∧ (L s)[i + 1 - 1]? = some c := fun _ _ => ⟨by omega, hc1⟩
    have e1 : chartutil_validName.l0 (k + 3) s st (i : Int) = chartutil_validName.j1 (k + 2) s st (i : Int) (c.toNat : Int) (okc c) := by
      conv => lhs; unfold chartutil_validName.l0
      rw [hc2 (), if_pos (by omega), if_pos (by omega)]
      have hok := okc_iff c
      by_cases a1 : (c.toNat : Int) ≥ 97
      · rw [if_pos a1]
        by_cases a2 : (c.toNat : Int) ≤ 122
        · rw [if_pos a2, hok.2 (.inl ⟨a1, a2⟩)]
        · rw [if_neg a2, if_pos (by omega), show decide ((c.toNat : Int) ≤ 57) = okc c by rw [Bool.eq_iff_iff, decide_eq_true_iff, hok]; omega]
      · rw [if_neg a1]
        by_cases a3 : (c.toNat : Int) ≥ 48
        · rw [if_pos a3, show decide ((c.toNat : Int) ≤ 57) = okc c by rw [Bool.eq_iff_iff, decide_eq_true_iff, hok]; omega]
        · rw [if_neg a3, show false = okc c by rw [Bool.eq_iff_iff, hok]; simp; omega]
    rw [e1, hc3]
    unfold V
    conv => lhs; unfold chartutil_validName.j1
    by_cases c1 : okc c = true
    · rw [c1, if_pos rfl, if_pos rfl, hw ()]
      exact ih _ (i + 1) false c (by omega) (by omega) (by omega) (hprev false)
    · have c1' : okc c = false := by simpa using c1
      rw [c1', if_neg (show ¬ false = true by decide), if_neg (show ¬ false = true by decide)]
      by_cases c2 : c = 45
      · rw [if_pos ((u45 c).2 c2)]
        conv => lhs; unfold chartutil_validName.j2
        cases st
        · rw [if_pos (show (!false) = true from rfl), if_pos ⟨c2, rfl⟩, hw ()]
          exact ih _ (i + 1) false c (by omega) (by omega) (by omega) (hprev false)
        · have c3 : ¬ (c.toNat : Int) = 46 := by rw [c2]; decide
          rw [if_neg (by decide), if_neg c3, if_neg (fun h => by cases h.2), if_neg (fun h => by cases h.2.1)]
      · rw [if_neg (fun h => c2 ((u45 c).1 h))]
        conv => lhs; unfold chartutil_validName.j2
        rw [if_neg (show ¬ false = true by decide), if_neg (show ¬ (c = 45 ∧ st = false) from fun h => c2 h.1)]
        by_cases c3 : c = 46
        · rw [if_pos ((u46 c).2 c3)]
          cases st
          · obtain ⟨h3, h4⟩ := hp rfl
            rw [if_neg (by decide), w64_eq (n := (i : Int) - 1) (m := ((i - 1 : Nat) : Int)) (by omega) (by omega) (by omega), if_pos (by omega), if_pos (by omega), bt_get? s (i - 1) p h4]
            by_cases c4 : p = 45
            · rw [if_pos ((u45 p).2 c4), if_neg (fun h => h.2.2 c4)]
            · rw [if_neg (fun h => c4 ((u45 p).1 h)), if_pos ⟨c3, rfl, c4⟩, hw ()]
              exact ih _ (i + 1) true c (by omega) (by omega) (by omega) (hprev true)
          · rw [if_pos rfl, if_neg (fun h => by cases h.2.1)]
        · rw [if_neg (fun h => c3 ((u46 c).1 h)), if_neg (fun h => c3 h.1)]

theorem label_step (s : ByteArray) (hs : s.size ≤ 4294967296) (k i : Nat) (c : UInt8) (hi : i < s.size) (hc : (L s)[i]? = some c) :
    spec_Label.l0 (k + 1) s (s.size : Int) (i : Int) = if okc c = true then spec_Label.l0 k s (s.size : Int) ((i + 1 : Nat) : Int) else if c = 45 ∧ 0 < i ∧ i + 1 < s.size then spec_Label.l0 k s (s.size : Int) ((i + 1 : Nat) : Int) else some false := by
  have hb := bt_get? s i c hc
  have hw := w64_eq (n := (i : Int) + 1) (m := ((i + 1 : Nat) : Int)) (by omega) (by omega) (by omega)
  have hok := okc_iff c
  conv => lhs; unfold spec_Label.l0
  rw [hb, hw, if_pos (by omega), if_pos (by omega), if_pos (by omega)]
  have hdash : (if (c.toNat : Int) = 45 then (if (i : Int) > 0 then (if (((i + 1 : Nat) : Int) < (s.size : Int)) then (spec_Label.l0 k s (s.size : Int) ((i + 1 : Nat) : Int)) else (some false)) else (some false)) else (some false)) = if c = 45 ∧ 0 < i ∧ i + 1 < s.size then spec_Label.l0 k s (s.size : Int) ((i + 1 : Nat) : Int) else some false := by
    by_cases a1 : c = 45
    · rw [if_pos ((u45 c).2 a1)]
      by_cases a2 : 0 < i
      · rw [if_pos (by omega)]
        by_cases a3 : i + 1 < s.size
        · rw [if_pos (by omega), if_pos ⟨a1, a2, a3⟩]
        · rw [if_neg (by omega), if_neg (fun h => a3 h.2.2)]
      · rw [if_neg (by omega), if_neg (fun h => a2 h.2.1)]
    · rw [if_neg (fun h => a1 ((u45 c).1 h)), if_neg (fun h => a1 h.1)]
  by_cases a1 : (c.toNat : Int) ≥ 97
  · rw [if_pos a1]
    by_cases a2 : (c.toNat : Int) ≤ 122
    · rw [if_pos a2, if_pos (hok.2 (.inl ⟨a1, a2⟩))]
    · rw [if_neg a2, if_pos (by omega), if_neg (by omega), hdash, if_neg (show ¬ okc c = true from fun h => by have := hok.1 h; omega)]
  · rw [if_neg a1]
    by_cases a3 : (c.toNat : Int) ≥ 48
    · rw [if_pos a3]
      by_cases a4 : (c.toNat : Int) ≤ 57
      · rw [if_pos a4, if_pos (hok.2 (.inr ⟨a3, a4⟩))]
      · rw [if_neg a4, hdash, if_neg (show ¬ okc c = true from fun h => by have := hok.1 h; omega)]
    · rw [if_neg a3, hdash, if_neg (show ¬ okc c = true from fun h => by have := hok.1 h; omega)]
theorem label_tail (s : ByteArray) (hs : s.size ≤ 4294967296) (d : Nat) : ∀ (k i : Nat) (p : UInt8), 0 < i → i ≤ s.size → s.size - i = d → d < k → (L s)[i - 1]? = some p → (i = s.size → p ≠ 45) →
    spec_Label.l0 k s (s.size : Int) (i : Int) = some (tailok p ((L s).drop i)) := by
  induction d with
  | zero =>
    intro k i p h0 h1 h2 hk h3 h4
    obtain ⟨k, rfl⟩ : ∃ m, k = m + 1 := ⟨k - 1, by omega⟩
    have hne : s.toList ≠ [] := fun h => by rw [toList_L, L_nil] at h; omega
    conv => lhs; unfold spec_Label.l0
    rw [if_neg (by omega), List.drop_eq_nil_of_le (by rw [L_length]; omega)]
    have h5 := h4 (by omega)
    rw [show (s.toList != ([] : List UInt8)) = true from bne_iff_ne.2 hne]
    show some true = some (p != 45)
    rw [bne_iff_ne.2 h5]
  | succ d ih =>
    intro k i p h0 h1 h2 hk h3 h4
    obtain ⟨k, rfl⟩ : ∃ m, k = m + 1 := ⟨k - 1, by omega⟩
    obtain ⟨c, hc1, _, hc3⟩ := drop_at s i (by omega)
    rw [label_step s hs k i c (by omega) hc1, hc3]
    by_cases a1 : okc c = true
    · rw [if_pos a1, ih k (i + 1) c (by omega) (by omega) (by omega) (by omega) hc1 (fun _ e => by rw [e, ok45] at a1; cases a1)]
      simp [tailok, a1]
    · rw [if_neg a1]
      by_cases a2 : c = 45
      · by_cases a3 : i + 1 < s.size
        · rw [if_pos ⟨a2, h0, a3⟩, ih k (i + 1) c (by omega) (by omega) (by omega) (by omega) hc1 (fun e => by omega)]
          simp [tailok, a2]
        · rw [if_neg (fun h => a3 h.2.2), List.drop_eq_nil_of_le (by rw [L_length]; omega)]
          simp [tailok, a2]
      · rw [if_neg (fun h => a2 h.1)]
        simp [tailok, a1, a2]
theorem label_any (s : ByteArray) (hs : s.size ≤ 4294967296) (k : Nat) (hk : s.size + 1 < k) : spec_Label.f k s = some (lab (L s)) := by
  unfold spec_Label.f
  obtain ⟨k, rfl⟩ : ∃ m, k = m + 1 := ⟨k - 1, by omega⟩
  by_cases c : s.size = 0
  · conv => lhs; unfold spec_Label.l0
    rw [if_neg (by omega), toList_L, (L_nil s).2 c]
    rfl
  · obtain ⟨b, hb1, _, hb3⟩ := drop_at s 0 (by omega)
    rw [List.drop_zero] at hb3
    have h := label_step s hs k 0 b (by omega) hb1
    have e : spec_Label.l0 (k + 1) s (s.size : Int) 0 = spec_Label.l0 (k + 1) s (s.size : Int) ((0 : Nat) : Int) := rfl
    rw [e, h, hb3]
    by_cases a1 : okc b = true
    · rw [if_pos a1, label_tail s hs (s.size - 1) k 1 b (by omega) (by omega) (by omega) (by omega) hb1 (fun _ e => by rw [e, ok45] at a1; cases a1)]
      simp [lab, a1]
    · rw [if_neg a1, if_neg (fun h => by omega)]
      simp [lab, a1]

theorem meta_any (s : ByteArray) (hs : s.size ≤ 2147483647) (d : Nat) : ∀ (k f i : Nat), f ≤ i → i ≤ s.size → s.size - i = d → 2 * d + s.size + 6 < k → (46 : UInt8) ∉ ((L s).drop f).take (i - f) →
    spec_Metadata.l0 k s (f : Int) (i : Int) = some ((splitL 46 ((L s).drop f)).all lab) := by
  induction d with
  | zero =>
    intro k f i h0 h1 h2 hk hp
    obtain ⟨k, rfl⟩ : ∃ m, k = m + 3 := ⟨k - 3, by omega⟩
    obtain rfl : i = s.size := by omega
    have hall : ((L s).drop f).take (s.size - f) = (L s).drop f := List.take_of_length_le (by rw [List.length_drop, L_length]; omega)
    rw [hall] at hp
    have hw := w64_eq (n := (s.size : Int) + 1) (m := ((s.size + 1 : Nat) : Int)) (by omega) (by omega) (by omega)
    have hz : (s.extract f s.size).size = s.size - f := by simp [ByteArray.size_extract]
    conv => lhs; unfold spec_Metadata.l0
    rw [if_pos (by omega), if_pos rfl]
    conv => lhs; unfold spec_Metadata.j1
    rw [if_pos rfl, if_pos (by omega), if_pos (by omega), if_pos (by omega), show ((f : Int)).toNat = f by omega, show ((s.size : Int)).toNat = s.size by omega, label_any _ (by omega) _ (by omega), Option.bind_some, L_extract, hall, splitL_none 46 _ hp, hw]
    by_cases c : lab ((L s).drop f) = true
    · rw [if_pos c]
      conv => lhs; unfold spec_Metadata.l0
      rw [if_neg (by omega)]
      simp [c]
    · rw [if_neg c]
      simp [c]
  | succ d ih =>
    intro k f i h0 h1 h2 hk hp
    obtain ⟨k, rfl⟩ : ∃ m, k = m + 2 := ⟨k - 2, by omega⟩
    have hw := fun _ : Unit => w64_eq (n := (i : Int) + 1) (m := ((i + 1 : Nat) : Int)) (by omega) (by omega) (by omega)
    obtain ⟨b, hb1, hb2, hb3⟩ := drop_at s i (by omega)
    have hb2' := fun _ : Unit => hb2
    clear hb2
    have hsplit : (L s).drop f = ((L s).drop f).take (i - f) ++ b :: (L s).drop (i + 1) := by
      have h5 := List.take_append_drop (i - f) ((L s).drop f)
      rw [List.drop_drop, show f + (i - f) = i by omega, hb3] at h5
      exact h5.symm
    conv => lhs; unfold spec_Metadata.l0
    rw [if_pos (by omega), if_neg (by omega), if_pos (by omega), if_pos (by omega), hb2' ()]
    conv => lhs; unfold spec_Metadata.j1
    by_cases c : b = 46
    · have hz : (s.extract f i).size = i - f := by simp [ByteArray.size_extract]; omega
      rw [if_pos (by rw [c]; rfl), if_pos (by omega), if_pos (by omega), if_pos (by omega), show ((f : Int)).toNat = f by omega, show ((i : Int)).toNat = i by omega, label_any _ (by omega) _ (by omega), Option.bind_some, L_extract, hw ()]
      have h3 := ih k (i + 1) (i + 1) (by omega) (by omega) (by omega) (by omega) (by simp)
      have e : splitL 46 ((L s).drop f) = ((L s).drop f).take (i - f) :: splitL 46 ((L s).drop (i + 1)) := by
        conv => lhs; rw [hsplit, c]
        exact splitL_at 46 _ _ hp
      rw [e, List.all_cons]
      by_cases c2 : lab (((L s).drop f).take (i - f)) = true
      · rw [if_pos c2, h3, c2]; simp
      · rw [if_neg c2]; simp [c2]
    · have hne : ¬ ((b.toNat : Int) == 46) = true := by
        intro h
        exact c ((u46 b).1 (by simpa using h))
      rw [if_neg hne, hw ()]
      refine ih k f (i + 1) (by omega) (by omega) (by omega) (by omega) ?_
      have hil : i - f < ((L s).drop f).length := by rw [List.length_drop, L_length]; omega
      rw [show i + 1 - f = i - f + 1 by omega, List.take_succ_eq_append_getElem hil, List.mem_append]
      have hg : ((L s).drop f)[i - f] = b := by
        rw [List.getElem_drop]
        have := (List.getElem?_eq_some_iff.1 hb1).2
        rw [← this]
        congr 1
        omega
      rw [hg]
      simp [hp, Ne.symm c]

def told (s : ByteArray) : Bool := if s.size = 0 then false else if s.size > 53 then false else (splitL 46 (L s)).all lab
theorem impl_any (s : ByteArray) (hs : s.size ≤ 4294967296) (k : Nat) (hk : 200 < k) : impl_ReleaseName.f k s = some (told s) := by
  unfold impl_ReleaseName.f told
  by_cases c1 : s.size = 0
  · rw [if_pos (by rw [toList_L, L_nil]; exact c1), if_pos c1]
  rw [if_neg (fun h => c1 (by rwa [toList_L, L_nil] at h)), if_neg c1]
  by_cases c2 : s.size > 53
  · rw [if_pos (by omega), if_pos c2]
  rw [if_neg (by omega), if_neg c2]
  have h := valid_any s hs s.size k 0 true 0 (by omega) (by omega) (by omega) (fun h => by cases h)
  rw [List.drop_zero, (V_split (L s)).1] at h
  exact h

theorem FnReleaseName : laws_FnReleaseName.Pure := by
  intro s hs
  by_cases c0 : (s.size : Int) > 2147483647
  · exact ⟨1, by unfold laws_FnReleaseName.f; rw [if_pos c0]⟩
  have hm := meta_any s (by omega) s.size (3 * s.size + 300) 0 0 (by omega) (by omega) (by omega) (by omega) (by simp)
  rw [List.drop_zero] at hm
  have hM : spec_Metadata.f (3 * s.size + 300) s = some ((splitL 46 (L s)).all lab) := hm
  have ha : impl_ReleaseName.f (3 * s.size + 300) (⟨#[97]⟩ : ByteArray) = some true := by
    rw [impl_any _ (by decide) _ (by omega)]
    decide
  refine ⟨3 * s.size + 300, ?_⟩
  unfold laws_FnReleaseName.f
  rw [if_neg c0, impl_any s (by omega) _ (by omega), Option.bind_some, hM, Option.bind_some, ha]
  unfold told
  by_cases c1 : s.size = 0
  · rw [if_pos c1, (L_nil s).2 c1]
    rfl
  rw [if_neg c1]
  by_cases c2 : s.size > 53
  · rw [if_pos c2, show decide ((s.size : Int) ≤ 53) = false by rw [decide_eq_false_iff_not]; omega]
    cases (splitL 46 (L s)).all lab <;> rfl
  · rw [if_neg c2, show decide ((s.size : Int) ≤ 53) = true by rw [decide_eq_true_iff]; omega]
    cases (splitL 46 (L s)).all lab <;> rfl
end Go.Proofs.YtdomnigegpigiabDoor.Pure

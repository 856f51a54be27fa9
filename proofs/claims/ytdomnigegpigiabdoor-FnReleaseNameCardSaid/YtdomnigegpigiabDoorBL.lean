/- Plain laws on texts as lists of bytes, on indexes, splits and comparisons of the printed form; no Go in it. -/
import Derived.Test.YtdomnigegpigiabDoorWWords
import Derived.Test.YtdomnigegpigiabDoorWMore
import Derived.Lib.IndexBytes
import Derived.Lib.Join
namespace Go.Proofs.YtdomnigegpigiabDoor.BL
open Go.RowKit Go.Proofs.YtdomnigegpigiabDoorW.PrintWords Go.Proofs.YtdomnigegpigiabDoorW.PrintLast Go.Proofs.YtdomnigegpigiabDoorW.PrintMore

/-- A text's bytes. -/
def L (s : ByteArray) : List UInt8 := s.data.toList
theorem toList_L (s : ByteArray) : s.toList = L s := Lib.toList_data s
theorem L_length (s : ByteArray) : (L s).length = s.size := by unfold L; rw [Array.length_toList]; rfl
theorem L_mk (l : List UInt8) : L (⟨l.toArray⟩ : ByteArray) = l := rfl
theorem L_inj {a b : ByteArray} (h : L a = L b) : a = b := by
  obtain ⟨⟨x⟩⟩ := a
  obtain ⟨⟨y⟩⟩ := b
  have h' : x = y := h
  rw [h']
theorem L_append (a b : ByteArray) : L (a ++ b) = L a ++ L b := by simp [L, ByteArray.data_append]
theorem L_extract (s : ByteArray) (i j : Nat) : L (s.extract i j) = ((L s).drop i).take (j - i) := Lib.extract_data s i j
theorem L_nil (s : ByteArray) : L s = [] ↔ s.size = 0 := by rw [← L_length, List.length_eq_zero_iff]
theorem bt_L (s : ByteArray) (i : Nat) (h : i < s.size) : bt s (i : Int) = (((L s)[i]'(by rw [L_length]; exact h)).toNat : Int) := by
  unfold bt
  rw [dif_pos (by simpa using h)]
  rfl
theorem bt_get? (s : ByteArray) (i : Nat) (c : UInt8) (h : (L s)[i]? = some c) : bt s (i : Int) = (c.toNat : Int) := by
  obtain ⟨h1, h2⟩ := List.getElem?_eq_some_iff.1 h
  rw [bt_L s i (by rw [← L_length]; exact h1), h2]

theorem w64 {n : Int} (h0 : -4611686018427387904 ≤ n) (h1 : n ≤ 4611686018427387904) : wrap64 n = n := by unfold wrap64; omega
theorem w64_eq {n m : Int} (e : n = m) (h0 : -4611686018427387904 ≤ n) (h1 : n ≤ 4611686018427387904) : wrap64 n = m := by rw [w64 h0 h1, e]
theorem u8_wf {n : Int} (h : (Lit.int .u8 n).wf = true) : 0 ≤ n ∧ n ≤ 255 := by
  simp [Lit.wf, IntKind.min, IntKind.max, IntKind.signed, IntKind.bits] at h
  omega
theorem u8_ofNat (n : Nat) (h : n < 256) : (UInt8.ofNat n).toNat = n := by simp; omega
theorem u8_toNat_inj {a b : UInt8} (h : (a.toNat : Int) = (b.toNat : Int)) : a = b := UInt8.toNat_inj.1 (by omega)

/-! ### Splitting at a byte -/
def splitL (c : UInt8) : List UInt8 → List (List UInt8)
  | [] => [[]]
  | b :: t => if b = c then [] :: splitL c t else match splitL c t with
    | h :: r => (b :: h) :: r
    | [] => [[b]]
theorem splitL_ne (c : UInt8) (l : List UInt8) : ∃ h t, splitL c l = h :: t := by
  cases l with
  | nil => exact ⟨_, _, rfl⟩
  | cons b t =>
    unfold splitL
    split
    · exact ⟨_, _, rfl⟩
    · split <;> exact ⟨_, _, rfl⟩
theorem splitL_at (c : UInt8) (pre post : List UInt8) (h : c ∉ pre) : splitL c (pre ++ c :: post) = pre :: splitL c post := by
  induction pre with
  | nil => simp [splitL]
  | cons b t ih =>
    have hb : ¬ b = c := fun e => h (by rw [e]; exact List.mem_cons_self)
    have ht : c ∉ t := fun e => h (List.mem_cons_of_mem _ e)
    rw [List.cons_append, splitL, if_neg hb, ih ht]
theorem splitL_none (c : UInt8) (l : List UInt8) (h : c ∉ l) : splitL c l = [l] := by
  induction l with
  | nil => rfl
  | cons b t ih =>
    have hb : ¬ b = c := fun e => h (by rw [e]; exact List.mem_cons_self)
    have ht : c ∉ t := fun e => h (List.mem_cons_of_mem _ e)
    rw [splitL, if_neg hb, ih ht]
theorem splitL_length (c : UInt8) (l : List UInt8) : (splitL c l).length ≤ l.length + 1 := by
  induction l with
  | nil => simp [splitL]
  | cons b t ih =>
    unfold splitL
    split
    · simp only [List.length_cons]; omega
    · split
      · rename_i h r e
        rw [e] at ih
        simp only [List.length_cons] at ih ⊢
        omega
      · simp

theorem splitL_mem_length (c : UInt8) (l : List UInt8) : ∀ p, p ∈ splitL c l → p.length ≤ l.length := by
  induction l with
  | nil => intro p hp; simp [splitL] at hp; simp [hp]
  | cons b t ih =>
    intro p hp
    obtain ⟨h, r, e⟩ := splitL_ne c t
    unfold splitL at hp
    split at hp
    · rcases List.mem_cons.1 hp with rfl | hp
      · simp
      · have := ih p hp
        simp only [List.length_cons]; omega
    · rw [e] at hp ih
      rcases List.mem_cons.1 hp with rfl | hp
      · have := ih h List.mem_cons_self
        simp only [List.length_cons]; omega
      · have := ih p (List.mem_cons_of_mem _ hp)
        simp only [List.length_cons]; omega

/-! ### The printed index -/
def IdxEq (g : Nat → ByteArray → ByteArray → Int → Option Int) : Prop := ∀ k s p i, g (k + 1) s p i =
  (if (wrap64 (i + (p.size : Int))) ≤ (s.size : Int) then (if 0 ≤ i then (if i ≤ (wrap64 (i + (p.size : Int))) then (if (s.extract (i : Int).toNat ((wrap64 (i + (p.size : Int))) : Int).toNat).toList = p.toList then (some i) else (g k s p (wrap64 (i + 1)))) else (none)) else (none)) else (some (-1)))

theorem idx_any {g : Nat → ByteArray → ByteArray → Int → Option Int} (hg : IdxEq g) (s p : ByteArray) (hs : s.size ≤ 4294967296) (hp : p.size ≤ 4294967296) (d : Nat) : ∀ (k i : Nat), i ≤ s.size + 1 → s.size + 1 - i = d → d < k →
    ∃ r, g k s p (i : Int) = some r ∧ (r = -1 ∧ (∀ j, i ≤ j → j + p.size ≤ s.size → ((L s).drop j).take p.size ≠ L p) ∨
      ∃ j : Nat, r = j ∧ i ≤ j ∧ j + p.size ≤ s.size ∧ ((L s).drop j).take p.size = L p ∧ ∀ q, i ≤ q → q < j → ((L s).drop q).take p.size ≠ L p) := by
  induction d with
  | zero =>
    intro k i h1 hd hk
    obtain ⟨k, rfl⟩ : ∃ m, k = m + 1 := ⟨k - 1, by omega⟩
    have hw : wrap64 ((i : Int) + (p.size : Int)) = i + p.size := by unfold wrap64; omega
    exact ⟨-1, by rw [hg, hw, if_neg (by omega)], .inl ⟨rfl, fun j h1 h2 => by omega⟩⟩
  | succ d ih =>
    intro k i h1 hd hk
    obtain ⟨k, rfl⟩ : ∃ m, k = m + 1 := ⟨k - 1, by omega⟩
    have hw : wrap64 ((i : Int) + (p.size : Int)) = i + p.size := by unfold wrap64; omega
    have hw1 : wrap64 ((i : Int) + 1) = ((i + 1 : Nat) : Int) := by unfold wrap64; omega
    rw [hg, hw, hw1]
    by_cases c : (i : Int) + (p.size : Int) ≤ s.size
    · rw [if_pos c, if_pos (by omega), if_pos (by omega)]
      have he : (s.extract (i : Int).toNat ((i : Int) + (p.size : Int)).toNat).toList = ((L s).drop i).take p.size := by
        rw [toList_L, L_extract]
        have e1 : (i : Int).toNat = i := by omega
        have e2 : ((i : Int) + (p.size : Int)).toNat - i = p.size := by omega
        rw [e1, e2]
      rw [he, toList_L p]
      by_cases e : ((L s).drop i).take p.size = L p
      · rw [if_pos e]
        exact ⟨i, rfl, .inr ⟨i, rfl, Nat.le_refl _, by omega, e, fun q h1 h2 => by omega⟩⟩
      · rw [if_neg e]
        obtain ⟨r, hr, h⟩ := ih k (i + 1) (by omega) (by omega) (by omega)
        refine ⟨r, hr, ?_⟩
        rcases h with ⟨h1, h2⟩ | ⟨j, h1, h2, h3, h4, h5⟩
        · refine .inl ⟨h1, fun j hj hj2 => ?_⟩
          by_cases hji : j = i
          · rw [hji]; exact e
          · exact h2 j (by omega) hj2
        · refine .inr ⟨j, h1, by omega, h3, h4, fun q hq hq2 => ?_⟩
          by_cases hqi : q = i
          · rw [hqi]; exact e
          · exact h5 q (by omega) hq2
    · rw [if_neg c]
      exact ⟨-1, rfl, .inl ⟨rfl, fun j h1 h2 => by omega⟩⟩

theorem idx_one {g : Nat → ByteArray → ByteArray → Int → Option Int} (hg : IdxEq g) (s p : ByteArray) (hs : s.size ≤ 4294967296) (c : UInt8) (hp : L p = [c]) (k : Nat) (hk : s.size + 1 < k) :
    ∃ r, g k s p 0 = some r ∧ (r = -1 ∧ c ∉ L s ∨ ∃ pre post, L s = pre ++ c :: post ∧ c ∉ pre ∧ r = pre.length) := by
  have hp1 : p.size = 1 := by rw [← L_length, hp]; rfl
  obtain ⟨r, hr, h⟩ := idx_any hg s p hs (by omega) (s.size + 1) k 0 (by omega) (by omega) (by omega)
  have hat : ∀ j, j < s.size → ((L s).drop j).take p.size = L p → (L s)[j]? = some c := by
    intro j hj h
    rw [hp1, hp] at h
    have hj' : j < (L s).length := by rw [L_length]; exact hj
    rw [List.drop_eq_getElem_cons hj', List.take_succ_cons, List.take_zero] at h
    rw [List.getElem?_eq_getElem hj']
    exact congrArg some (List.cons.inj h).1
  have hto : ∀ j, (L s)[j]? = some c → ((L s).drop j).take p.size = L p := by
    intro j h
    obtain ⟨hj, e⟩ := List.getElem?_eq_some_iff.1 h
    rw [hp1, hp, List.drop_eq_getElem_cons hj, List.take_succ_cons, List.take_zero, e]
  refine ⟨r, hr, ?_⟩
  rcases h with ⟨h1, h2⟩ | ⟨j, h1, h2, h3, h4, h5⟩
  · refine .inl ⟨h1, fun hm => ?_⟩
    obtain ⟨j, hj⟩ := List.mem_iff_getElem?.1 hm
    have hjl : j < (L s).length := (List.getElem?_eq_some_iff.1 hj).1
    rw [L_length] at hjl
    exact h2 j (by omega) (by omega) (hto j hj)
  · have hj := hat j (by omega) h4
    obtain ⟨hjl, e⟩ := List.getElem?_eq_some_iff.1 hj
    refine .inr ⟨(L s).take j, (L s).drop (j + 1), ?_, fun hm => ?_, ?_⟩
    · have h6 := List.take_append_drop j (L s)
      rw [List.drop_eq_getElem_cons hjl, e] at h6
      exact h6.symm
    · obtain ⟨q, hq⟩ := List.mem_iff_getElem?.1 hm
      have hql : q < ((L s).take j).length := (List.getElem?_eq_some_iff.1 hq).1
      rw [List.length_take] at hql
      rw [List.getElem?_take, if_pos (by omega)] at hq
      exact h5 q (by omega) (by omega) (hto q hq)
    · rw [h1, List.length_take, Nat.min_eq_left (by omega)]

/-! ### The printed split -/
def SplitEq (ix : Nat → ByteArray → ByteArray → Int → Option Int) (g : Nat → ByteArray → ByteArray → List ByteArray → Option (List ByteArray)) : Prop := ∀ k x0 x1 x5, g (k + 1) x0 x1 x5 =
  (ix k x0 x1 0).bind fun t105 => (if t105 < 0 then (if x5.length < 8796093022208 then (some (x5 ++ [x0])) else (none)) else (if 0 ≤ t105 then (if t105 ≤ (x0.size : Int) then (if x5.length < 8796093022208 then (if 0 ≤ (wrap64 (t105 + (x1.size : Int))) then (if (wrap64 (t105 + (x1.size : Int))) ≤ (x0.size : Int) then (g k (x0.extract ((wrap64 (t105 + (x1.size : Int))) : Int).toNat x0.size) x1 (x5 ++ [x0.extract 0 (t105 : Int).toNat])) else (none)) else (none)) else (none)) else (none)) else (none)))

theorem split_one {ix : Nat → ByteArray → ByteArray → Int → Option Int} (hix : IdxEq ix) {g : Nat → ByteArray → ByteArray → List ByteArray → Option (List ByteArray)} (hg : SplitEq ix g) (p : ByteArray) (c : UInt8) (hp : L p = [c]) (d : Nat) :
    ∀ (k : Nat) (s : ByteArray) (acc : List ByteArray), s.size ≤ 4294967296 → s.size ≤ d → acc.length + d ≤ 4294967297 → 2 * d + 3 < k →
    ∃ r, g k s p acc = some r ∧ r.map L = acc.map L ++ splitL c (L s) := by
  have hp1 : p.size = 1 := by rw [← L_length, hp]; rfl
  induction d with
  | zero =>
    intro k s acc hs hd ha hk
    obtain ⟨k, rfl⟩ : ∃ m, k = m + 1 := ⟨k - 1, by omega⟩
    obtain ⟨r, hr, h⟩ := idx_one hix s p hs c hp k (by omega)
    have hL : L s = [] := (L_nil s).2 (by omega)
    rcases h with ⟨h1, h2⟩ | ⟨pre, post, h1, _, _⟩
    · subst h1
      refine ⟨acc ++ [s], ?_, ?_⟩
      · rw [hg, hr, Option.bind_some, if_pos (by omega), if_pos (by omega)]
      · rw [List.map_append, splitL_none c _ h2]
        rfl
    · rw [hL] at h1
      exact absurd h1 (by simp)
  | succ d ih =>
    intro k s acc hs hd ha hk
    obtain ⟨k, rfl⟩ : ∃ m, k = m + 1 := ⟨k - 1, by omega⟩
    obtain ⟨r, hr, h⟩ := idx_one hix s p hs c hp k (by omega)
    rcases h with ⟨h1, h2⟩ | ⟨pre, post, h1, h2, h3⟩
    · subst h1
      refine ⟨acc ++ [s], ?_, ?_⟩
      · rw [hg, hr, Option.bind_some, if_pos (by omega), if_pos (by omega)]
      · rw [List.map_append, splitL_none c _ h2]
        rfl
    · subst h3
      have hlen : pre.length + 1 + post.length = s.size := by rw [← L_length, h1, List.length_append, List.length_cons]; omega
      have hw : wrap64 ((pre.length : Int) + (p.size : Int)) = ((pre.length + 1 : Nat) : Int) := by rw [hp1]; unfold wrap64; omega
      have e1 : L (s.extract 0 ((pre.length : Int)).toNat) = pre := by
        rw [L_extract, h1, show ((pre.length : Int)).toNat - 0 = pre.length by omega, List.drop_zero, List.take_left]
      have e2 : L (s.extract (((pre.length + 1 : Nat) : Int)).toNat s.size) = post := by
        rw [L_extract, h1, show (((pre.length + 1 : Nat) : Int)).toNat = pre.length + 1 by omega, show pre ++ c :: post = (pre ++ [c]) ++ post by simp, List.drop_left' (by simp)]
        exact List.take_of_length_le (by omega)
      obtain ⟨r, hr2, h4⟩ := ih k (s.extract (((pre.length + 1 : Nat) : Int)).toNat s.size) (acc ++ [s.extract 0 ((pre.length : Int)).toNat]) (by rw [ByteArray.size_extract]; omega) (by rw [ByteArray.size_extract]; omega) (by rw [List.length_append, List.length_singleton]; omega) (by omega)
      refine ⟨r, ?_, ?_⟩
      · rw [hg, hr, Option.bind_some, if_neg (by omega), if_pos (by omega), if_pos (by omega), if_pos (by omega), hw, if_pos (by omega), if_pos (by omega)]
        exact hr2
      · rw [h4, h1, splitL_at c pre post h2, List.map_append, List.map_singleton, e1, e2, List.append_assoc]
        rfl

/-! ### The printed comparison of two lists of texts -/
def SameEq (g : Nat → List ByteArray → List ByteArray → Int → Int → Option Bool) : Prop := ∀ k x0 x1 x12 x13, g (k + 1) x0 x1 x12 x13 =
  if x13 < x12 then (if 0 ≤ x13 then (if x13 < (x0.length : Int) then (if x13 < (x1.length : Int) then (if (rdOf ByteArray.empty x0 x13).toList = (rdOf ByteArray.empty x1 x13).toList then (g k x0 x1 x12 (wrap64 (x13 + 1))) else (some false)) else (none)) else (none)) else (none)) else (some true)

theorem same_any {g : Nat → List ByteArray → List ByteArray → Int → Int → Option Bool} (hg : SameEq g) (x y : List ByteArray) (hl : x.length = y.length) (hm : x.length ≤ 4294967296) (d : Nat) : ∀ (k i : Nat), i ≤ x.length → x.length - i = d → d < k →
    g k x y (x.length : Int) (i : Int) = some (decide ((x.drop i).map L = (y.drop i).map L)) := by
  induction d with
  | zero =>
    intro k i h1 hd hk
    obtain ⟨k, rfl⟩ : ∃ m, k = m + 1 := ⟨k - 1, by omega⟩
    rw [hg, if_neg (by omega)]
    have e1 : x.drop i = [] := List.drop_eq_nil_of_le (by omega)
    have e2 : y.drop i = [] := List.drop_eq_nil_of_le (by omega)
    rw [e1, e2]
    simp
  | succ d ih =>
    intro k i h1 hd hk
    obtain ⟨k, rfl⟩ : ∃ m, k = m + 1 := ⟨k - 1, by omega⟩
    have hw1 : wrap64 ((i : Int) + 1) = ((i + 1 : Nat) : Int) := by unfold wrap64; omega
    rw [hg, if_pos (by omega), if_pos (by omega), if_pos (by omega), if_pos (by omega), hw1]
    have hi : i < x.length := by omega
    have hi2 : i < y.length := by omega
    have r1 : rdOf ByteArray.empty x (i : Int) = x[i] := by unfold rdOf; rw [show ((i : Int)).toNat = i by omega, List.getD_eq_getElem?_getD, List.getElem?_eq_getElem hi]; rfl
    have r2 : rdOf ByteArray.empty y (i : Int) = y[i] := by unfold rdOf; rw [show ((i : Int)).toNat = i by omega, List.getD_eq_getElem?_getD, List.getElem?_eq_getElem hi2]; rfl
    rw [r1, r2, toList_L, toList_L, List.drop_eq_getElem_cons hi, List.drop_eq_getElem_cons hi2, List.map_cons, List.map_cons]
    by_cases e : L x[i] = L y[i]
    · rw [if_pos e, ih k (i + 1) (by omega) (by omega) (by omega)]
      simp [e]
    · rw [if_neg e]
      simp [e]

theorem map_L_inj {x y : List ByteArray} (h : x.map L = y.map L) : x = y := by
  induction x generalizing y with
  | nil => cases y with
    | nil => rfl
    | cons b t => simp at h
  | cons a s ih => cases y with
    | nil => simp at h
    | cons b t =>
      simp only [List.map_cons, List.cons.injEq] at h
      rw [L_inj h.1, ih h.2]
theorem rdOf_get {α : Type} (d : α) (x : List α) (i : Nat) (h : i < x.length) : rdOf d x (i : Int) = x[i] := by
  unfold rdOf
  rw [show ((i : Int)).toNat = i by omega, List.getD_eq_getElem?_getD, List.getElem?_eq_getElem h]
  rfl

/-! ### Texts out of numbers -/
def ints (part : List UInt8) : List Int := part.map fun b => (b.toNat : Int)
theorem ints_length (part : List UInt8) : (ints part).length = part.length := by simp [ints]
theorem ints_str (part : List UInt8) : L (strOfNums (ints part)) = part := by
  show (ints part).map (fun n => UInt8.ofNat n.toNat) = part
  unfold ints
  rw [List.map_map]
  conv => rhs; rw [← List.map_id part]
  refine List.map_congr_left fun b _ => ?_
  show UInt8.ofNat ((b.toNat : Int)).toNat = b
  rw [show ((b.toNat : Int)).toNat = b.toNat by omega]
  simp
theorem ints_snoc (part : List UInt8) (b : UInt8) : ints part ++ [(b.toNat : Int)] = ints (part ++ [b]) := by simp [ints]
theorem drop_at (s : ByteArray) (i : Nat) (h : i < s.size) : ∃ b, (L s)[i]? = some b ∧ bt s (i : Int) = (b.toNat : Int) ∧ (L s).drop i = b :: (L s).drop (i + 1) := by
  have hl : i < (L s).length := by rw [L_length]; exact h
  exact ⟨(L s)[i], List.getElem?_eq_getElem hl, bt_L s i h, List.drop_eq_getElem_cons hl⟩

/-! ### Joining -/
theorem join_split (c : UInt8) (l : List UInt8) : Lib.join (splitL c l) [c] = l := by
  induction l with
  | nil => rfl
  | cons b t ih =>
    obtain ⟨h, r, e⟩ := splitL_ne c t
    unfold splitL
    split
    · rename_i hb
      rw [e] at ih ⊢
      rw [hb]
      cases r with
      | nil => rw [Lib.join_one] at ih; rw [ih, Lib.join_cons]; simp [Lib.joinTail]
      | cons x y =>
        rw [Lib.join_cons] at ih ⊢
        rw [Lib.joinTail, List.map_cons, List.flatten_cons, List.nil_append]
        rw [← ih]
        simp [Lib.joinTail]
    · rw [e] at ih ⊢
      show Lib.join ((b :: h) :: r) [c] = b :: t
      rw [Lib.join_cons] at ih ⊢
      rw [← ih]
      rfl
def JoinEq (g : Nat → ByteArray → ByteArray → List ByteArray → Int → Int → Option ByteArray) : Prop := ∀ k x1 x5 x8 x9 x10, g (k + 1) x1 x5 x8 x9 x10 =
  if x10 < x9 then (if 0 ≤ x10 then (if x10 < (x8.length : Int) then (if x10 > 0 then (if x5.size + x1.size ≤ 9223372036854775807 then (if (x5 ++ x1).size + (rdOf ByteArray.empty x8 x10).size ≤ 9223372036854775807 then (g k x1 ((x5 ++ x1) ++ (rdOf ByteArray.empty x8 x10)) x8 x9 (wrap64 (x10 + 1))) else (none)) else (none)) else (if x5.size + (rdOf ByteArray.empty x8 x10).size ≤ 9223372036854775807 then (g k x1 (x5 ++ (rdOf ByteArray.empty x8 x10)) x8 x9 (wrap64 (x10 + 1))) else (none))) else (none)) else (none)) else (some x5)
theorem join_tail {g : Nat → ByteArray → ByteArray → List ByteArray → Int → Int → Option ByteArray} (hg : JoinEq g) (p : ByteArray) (hp : p.size ≤ 1000) (l : List ByteArray) (hl : l.length ≤ 100000) (hx : ∀ x ∈ l, x.size ≤ 100000) (d : Nat) :
    ∀ (k i : Nat) (a : ByteArray), 0 < i → i ≤ l.length → l.length - i = d → d < k → a.size ≤ 101000 * i → ∃ r, g k p a l (l.length : Int) (i : Int) = some r ∧ L r = L a ++ Lib.joinTail (L p) ((l.drop i).map L) := by
  induction d with
  | zero =>
    intro k i a h0 h1 hd hk ha
    obtain ⟨k, rfl⟩ : ∃ m, k = m + 1 := ⟨k - 1, by omega⟩
    refine ⟨a, by rw [hg, if_neg (by omega)], ?_⟩
    rw [List.drop_eq_nil_of_le (by omega)]
    simp [Lib.joinTail]
  | succ d ih =>
    intro k i a h0 h1 hd hk ha
    obtain ⟨k, rfl⟩ : ∃ m, k = m + 1 := ⟨k - 1, by omega⟩
    have hi : i < l.length := by omega
    have hw : ∀ _ : Unit, wrap64 ((i : Int) + 1) = ((i + 1 : Nat) : Int) := fun _ => w64_eq (by omega) (by omega) (by omega)
    have hxi := hx l[i] (List.getElem_mem hi)
    obtain ⟨r, h2, h3⟩ := ih k (i + 1) ((a ++ p) ++ l[i]) (by omega) (by omega) (by omega) (by omega) (by rw [ByteArray.size_append, ByteArray.size_append]; omega)
    refine ⟨r, ?_, ?_⟩
    · rw [hg, if_pos (by omega), if_pos (by omega), if_pos (by omega), if_pos (by omega), rdOf_get _ _ _ hi, if_pos (by omega), if_pos (by rw [ByteArray.size_append]; omega), hw ()]
      exact h2
    · rw [h3, List.drop_eq_getElem_cons hi, L_append, L_append, Lib.joinTail, Lib.joinTail, List.map_cons, List.map_cons, List.flatten_cons]
      simp only [List.append_assoc]
theorem join_any {g : Nat → ByteArray → ByteArray → List ByteArray → Int → Int → Option ByteArray} (hg : JoinEq g) (p : ByteArray) (hp : p.size ≤ 1000) (l : List ByteArray) (hl : l.length ≤ 100000) (hx : ∀ x ∈ l, x.size ≤ 100000) (k : Nat) (hk : l.length + 1 < k) :
    ∃ r, g k p (⟨#[]⟩ : ByteArray) l (l.length : Int) 0 = some r ∧ L r = Lib.join (l.map L) (L p) := by
  obtain ⟨k, rfl⟩ : ∃ m, k = m + 1 := ⟨k - 1, by omega⟩
  cases l with
  | nil => exact ⟨⟨#[]⟩, by rw [hg, if_neg (by simp)], rfl⟩
  | cons x t =>
    have hx0 := hx x List.mem_cons_self
    have e0 : (⟨#[]⟩ : ByteArray).size = 0 := rfl
    obtain ⟨r, h2, h3⟩ := join_tail hg p hp (x :: t) hl hx t.length k 1 ((⟨#[]⟩ : ByteArray) ++ x) (by omega) (by simp) (by simp) (by simp at hk; omega) (by rw [ByteArray.size_append, e0]; omega)
    have hw : wrap64 ((0 : Int) + 1) = ((1 : Nat) : Int) := w64_eq (by omega) (by omega) (by omega)
    refine ⟨r, ?_, ?_⟩
    · rw [hg, if_pos (by simp), if_pos (by omega), if_pos (by simp), if_neg (by omega), hw]
      have hr : rdOf ByteArray.empty (x :: t) 0 = x := rfl
      rw [hr, if_pos (by rw [e0]; omega)]
      exact h2
    · rw [h3, List.map_cons, Lib.join_cons, L_append]
      simp [L]
end Go.Proofs.YtdomnigegpigiabDoor.BL

/- FnPathSplit: for every path of at most 200 bytes and every sign of ASCII that is no backslash the package's parts are the reference's; no condition beside the statement's own. -/
import Derived.Test.YtdomnigegpigiabPFnPathSplitx3
import Derived.Test.YtdomnigegpigiabBL
namespace Go.Proofs.Ytdomnigegpigiab.Pure
open Go.RowKit Go.Proofs.Ytdomnigegpigiab.PFnPathSplit Go.Proofs.YtdomnigegpigiabW.PrintWords Go.Proofs.YtdomnigegpigiabW.PrintLast Go.Proofs.Ytdomnigegpigiab.BL

/-! ### On lists -/
def psF (c : UInt8) (out : List (List UInt8)) (last : List UInt8) : List (List UInt8) → List (List UInt8)
  | [] => out ++ [last]
  | p :: ps => if last.getLast? = some 92 then psF c out (last.dropLast ++ [c] ++ p) ps else psF c (out ++ [last]) p ps
def psA (c : UInt8) (out : List (List UInt8)) (part : List UInt8) : List UInt8 → List (List UInt8)
  | [] => out ++ [part]
  | [b] => if b = c then (out ++ [part]) ++ [[]] else out ++ [part ++ [b]]
  | b :: b2 :: rest => if b = 92 ∧ b2 = c then psA c out (part ++ [c]) rest else if b = c then psA c (out ++ [part]) [] (b2 :: rest) else psA c out (part ++ [b]) (b2 :: rest)

theorem psF_end (c : UInt8) (out : List (List UInt8)) (last : List UInt8) : psF c out last [] = out ++ [last] := rfl
theorem ps_AF (c : UInt8) (hc : c ≠ 92) (n : Nat) : ∀ (l : List UInt8), l.length ≤ n → ∀ out part, (part.getLast? = some 92 → l.head? ≠ some c) →
    ∀ h t, splitL c l = h :: t → psA c out part l = psF c out (part ++ h) t := by
  induction n with
  | zero =>
    intro l hl out part hp h t e
    have : l = [] := List.eq_nil_of_length_eq_zero (by omega)
    subst this
    simp only [splitL, List.cons.injEq] at e
    obtain ⟨rfl, rfl⟩ := e
    simp [psA, psF]
  | succ n ih =>
    intro l hl out part hp h t e
    match l, hl, hp, e with
    | [], _, _, e =>
      simp only [splitL, List.cons.injEq] at e
      obtain ⟨rfl, rfl⟩ := e
      simp [psA, psF]
    | [b], _, hp, e =>
      by_cases hb : b = c
      · subst hb
        simp only [splitL, if_true, List.cons.injEq] at e
        obtain ⟨rfl, rfl⟩ := e
        have : ¬ part.getLast? = some 92 := fun h => hp h rfl
        simp [psA, psF, this]
      · simp only [splitL, if_neg hb, List.cons.injEq] at e
        obtain ⟨rfl, rfl⟩ := e
        simp [psA, psF, hb]
    | b :: b2 :: rest, hl, hp, e =>
      simp only [List.length_cons] at hl
      unfold psA
      by_cases h1 : b = 92 ∧ b2 = c
      · obtain ⟨rfl, rfl⟩ := h1
        rw [if_pos ⟨rfl, rfl⟩]
        obtain ⟨h2, t2, e2⟩ := splitL_ne b2 rest
        have e3 : splitL b2 (92 :: b2 :: rest) = [92] :: h2 :: t2 := by
          rw [show (92 : UInt8) :: b2 :: rest = [92] ++ b2 :: rest from rfl, splitL_at b2 [92] rest (by simp [hc]), e2]
        rw [e3, List.cons.injEq] at e
        obtain ⟨rfl, rfl⟩ := e
        rw [psF, if_pos (by simp), ih rest (by omega) out (part ++ [b2]) (by simp [hc]) h2 t2 e2]
        simp
      · rw [if_neg h1]
        by_cases hb : b = c
        · subst hb
          rw [if_pos rfl]
          obtain ⟨h2, t2, e2⟩ := splitL_ne b (b2 :: rest)
          have e3 : splitL b (b :: b2 :: rest) = [] :: h2 :: t2 := by
            rw [← e2]
            conv => lhs; unfold splitL
            rw [if_pos rfl]
          rw [e3, List.cons.injEq] at e
          obtain ⟨rfl, rfl⟩ := e
          have : ¬ part.getLast? = some 92 := fun h => hp h rfl
          rw [psF, List.append_nil, if_neg this, ih (b2 :: rest) (by simp only [List.length_cons]; omega) (out ++ [part]) [] (by simp) h2 t2 e2]
          simp
        · rw [if_neg hb]
          obtain ⟨h2, t2, e2⟩ := splitL_ne c (b2 :: rest)
          have e3 : splitL c (b :: b2 :: rest) = (b :: h2) :: t2 := by
            conv => lhs; unfold splitL
            rw [if_neg hb, e2]
          rw [e3, List.cons.injEq] at e
          obtain ⟨rfl, rfl⟩ := e
          rw [ih (b2 :: rest) (by simp only [List.length_cons]; omega) out (part ++ [b]) ?_ h2 t2 e2]
          · simp
          · intro hg hh
            simp only [List.getLast?_append, List.getLast?_singleton, Option.some_or, Option.some.injEq] at hg
            simp only [List.head?_cons, Option.some.injEq] at hh
            exact h1 ⟨hg, hh⟩

/-- What is told in the end: without what is ahead of a sign at the beginning. -/
def psFin (c : UInt8) (l : List UInt8) (R : List (List UInt8)) : List (List UInt8) := if R.length > 1 ∧ l.head? = some c then R.drop 1 else R
theorem psF_length (c : UInt8) (ps : List (List UInt8)) : ∀ out last, out.length < (psF c out last ps).length := by
  induction ps with
  | nil => intro out last; simp [psF]
  | cons p ps ih =>
    intro out last
    unfold psF
    split
    · exact ih _ _
    · have := ih (out ++ [last]) p
      simp at this
      omega
theorem psF_pre (c : UInt8) (ps : List (List UInt8)) : ∀ out last pre, psF c (pre ++ out) last ps = pre ++ psF c out last ps := by
  induction ps with
  | nil => intro out last pre; simp [psF]
  | cons p ps ih =>
    intro out last pre
    unfold psF
    split
    · exact ih _ _ _
    · rw [List.append_assoc, ih]
/-- The package's way and the reference's. -/
theorem ps_both (c : UInt8) (hc : c ≠ 92) (l : List UInt8) (h : List UInt8) (t : List (List UInt8)) (e : splitL c l = h :: t) :
    psFin c l (psA c [] [] l) = (if 1 < (h :: t).length ∧ h = [] then psF c [] (t.headD []) (t.drop 1) else psF c [] h t) := by
  have e1 := ps_AF c hc l.length l (Nat.le_refl _) [] [] (by simp) h t e
  rw [List.nil_append] at e1
  rw [e1]
  unfold psFin
  cases l with
  | nil =>
    simp only [splitL, List.cons.injEq] at e
    obtain ⟨rfl, rfl⟩ := e
    simp [psF]
  | cons b r =>
    by_cases hb : b = c
    · subst hb
      obtain ⟨h2, t2, e2⟩ := splitL_ne b r
      have e3 : splitL b (b :: r) = [] :: h2 :: t2 := by
        conv => lhs; unfold splitL
        rw [if_pos rfl, e2]
      rw [e3, List.cons.injEq] at e
      obtain ⟨rfl, rfl⟩ := e
      have hs : psF b [] [] (h2 :: t2) = [[]] ++ psF b [] h2 t2 := by
        rw [psF, if_neg (by simp)]
        exact psF_pre b t2 [] h2 [[]]
      have hl := psF_length b t2 [] h2
      simp only [List.length_nil] at hl
      rw [hs, if_pos ⟨by simp; omega, rfl⟩, if_pos ⟨by simp, rfl⟩]
      simp
    · obtain ⟨h2, t2, e2⟩ := splitL_ne c r
      have e3 : splitL c (b :: r) = (b :: h2) :: t2 := by
        conv => lhs; unfold splitL
        rw [if_neg hb, e2]
      rw [e3, List.cons.injEq] at e
      obtain ⟨rfl, rfl⟩ := e
      rw [if_neg (by simp [hb]), if_neg (by simp)]

/-! ### The package -/
theorem ps_suffix (a : ByteArray) (ha : a.size ≤ 4294967296) : strings_HasSuffix.f a (⟨#[92]⟩ : ByteArray) = some (decide ((L a).getLast? = some 92)) := by
  unfold strings_HasSuffix.f stringslite_HasSuffix.f
  have h1 : ((⟨#[92]⟩ : ByteArray).size : Int) = 1 := rfl
  rw [h1]
  by_cases h : (a.size : Int) ≥ 1
  · have hw : wrap64 ((a.size : Int) - 1) = ((a.size - 1 : Nat) : Int) := by unfold wrap64; omega
    rw [if_pos h, hw, if_pos (by omega), if_pos (by omega), Option.bind_some, toList_L, toList_L, L_extract]
    congr 1
    rw [show (((a.size - 1 : Nat) : Int)).toNat = a.size - 1 by omega, List.take_of_length_le (by rw [List.length_drop, L_length]; omega)]
    have hl : (L a).length = a.size := L_length a
    rcases List.eq_nil_or_concat (L a) with e | ⟨ini, b, e⟩
    · rw [e] at hl; simp at hl; omega
    · rw [List.concat_eq_append] at e
      rw [e] at hl ⊢
      rw [List.length_append, List.length_singleton] at hl
      rw [show a.size - 1 = ini.length by omega, List.drop_left]
      have h92 : L (⟨#[92]⟩ : ByteArray) = [92] := rfl
      rw [h92]
      simp only [List.getLast?_append, List.getLast?_singleton, Option.some_or, Option.some.injEq]
      by_cases hb : b = 92
      · simp [hb]
      · simp [hb]
  · rw [if_neg h, Option.bind_some]
    have h0 : L a = [] := (L_nil a).2 (by omega)
    simp [h0]
theorem ps_trim (a : ByteArray) (ha : a.size ≤ 4294967296) (hs : (L a).getLast? = some 92) : ∃ b, strings_TrimSuffix.f a (⟨#[92]⟩ : ByteArray) = some b ∧ L b = (L a).dropLast ∧ b.size ≤ a.size := by
  have h2 := ps_suffix a ha
  unfold strings_HasSuffix.f at h2
  have h1 : ((⟨#[92]⟩ : ByteArray).size : Int) = 1 := rfl
  have h3 : 1 ≤ a.size := by
    rw [← L_length]
    cases e : L a with
    | nil => rw [e] at hs; simp at hs
    | cons x y => simp
  have hw : wrap64 ((a.size : Int) - 1) = ((a.size - 1 : Nat) : Int) := by unfold wrap64; omega
  unfold strings_TrimSuffix.f stringslite_TrimSuffix.f
  obtain ⟨q, hq, hq2⟩ := Option.bind_eq_some_iff.1 h2
  rw [hq, Option.bind_some]
  have hq3 : q = true := by have := Option.some.inj hq2; rw [this]; simp [hs]
  rw [hq3, if_pos rfl, h1, hw, if_pos (by omega), if_pos (by omega)]
  refine ⟨_, rfl, ?_, by rw [ByteArray.size_extract]; omega⟩
  rw [L_extract, List.drop_zero, show (((a.size - 1 : Nat) : Int)).toNat - 0 = a.size - 1 by omega, List.dropLast_eq_take, L_length]

theorem ps_loop (x1 : ByteArray) (c : UInt8) (hx : L x1 = [c]) (ps : List ByteArray) (hn : ps.length ≤ 300) (hp : ∀ p ∈ ps, p.size ≤ 300) (d : Nat) : ∀ (k i : Nat) (out : List ByteArray) (last : ByteArray), i ≤ ps.length → ps.length - i = d → d < k → out.length ≤ i → last.size ≤ 301 * i + 300 →
    ∃ r, utils_PathSplitter.l0 k x1 ps (out ++ [last]) (i : Int) = some r ∧ r.map L = psF c (out.map L) (L last) ((ps.drop i).map L) := by
  have hx1 : x1.size = 1 := by rw [← L_length, hx]; rfl
  induction d with
  | zero =>
    intro k i out last h1 hd hk ho hl
    obtain ⟨k, rfl⟩ : ∃ m, k = m + 1 := ⟨k - 1, by omega⟩
    refine ⟨out ++ [last], ?_, ?_⟩
    · simp only [utils_PathSplitter.l0]
      rw [if_neg (by omega)]
    · have e1 : ps.drop i = [] := List.drop_eq_nil_of_le (by omega)
      rw [e1]
      simp [psF]
  | succ d ih =>
    intro k i out last h1 hd hk ho hl
    obtain ⟨k, rfl⟩ : ∃ m, k = m + 1 := ⟨k - 1, by omega⟩
    have hi : i < ps.length := by omega
    have hw : wrap64 (((out ++ [last]).length : Int) - 1) = (out.length : Int) := by rw [List.length_append, List.length_singleton]; unfold wrap64; omega
    have hw1 : wrap64 ((i : Int) + 1) = ((i + 1 : Nat) : Int) := by unfold wrap64; omega
    have hr : rdOf ByteArray.empty (out ++ [last]) (out.length : Int) = last := by
      rw [rdOf_get _ _ _ (by simp)]
      simp
    have hpi : rdOf ByteArray.empty ps (i : Int) = ps[i] := rdOf_get _ _ _ hi
    have hps : (ps[i]).size ≤ 300 := hp _ (List.getElem_mem hi)
    have hlen : (out ++ [last]).length = out.length + 1 := by simp
    simp only [utils_PathSplitter.l0]
    rw [if_pos (by omega), hw, if_pos (by omega), if_pos (by rw [hlen]; omega), hr, ps_suffix last (by omega), Option.bind_some, List.drop_eq_getElem_cons hi, List.map_cons, psF]
    by_cases hs : (L last).getLast? = some 92
    · obtain ⟨b, hb, hb2, hb3⟩ := ps_trim last (by omega) hs
      rw [if_pos (by simp [hs]), hb, Option.bind_some, if_pos (by omega), if_pos (by omega), hpi, if_pos (by rw [ByteArray.size_append]; omega), if_pos hs, hw1]
      have hset : (out ++ [last]).set ((out.length : Int)).toNat ((b ++ x1) ++ ps[i]) = out ++ [(b ++ x1) ++ ps[i]] := by
        rw [show ((out.length : Int)).toNat = out.length by omega, List.set_append_right _ _ (Nat.le_refl _)]
        simp
      rw [hset]
      obtain ⟨r, h2, h3⟩ := ih k (i + 1) out ((b ++ x1) ++ ps[i]) (by omega) (by omega) (by omega) (by omega) (by rw [ByteArray.size_append, ByteArray.size_append]; omega)
      refine ⟨r, h2, ?_⟩
      rw [h3, L_append, L_append, hb2, hx]
    · rw [if_neg (by simp [hs]), if_pos (by omega), if_pos (by rw [hlen]; omega), hpi, hw1, if_neg hs]
      obtain ⟨r, h2, h3⟩ := ih k (i + 1) (out ++ [last]) ps[i] (by omega) (by omega) (by omega) (by rw [hlen]; omega) (by omega)
      refine ⟨r, h2, ?_⟩
      rw [h3, List.map_append, List.map_singleton]

theorem ps_impl (s x1 : ByteArray) (c : UInt8) (hx : L x1 = [c]) (hs : s.size ≤ 200) (k : Nat) (hk : 1000 ≤ k) : ∀ h t, splitL c (L s) = h :: t →
    ∃ r, utils_PathSplitter.f k s x1 = some r ∧ r.map L = (if 1 < (h :: t).length ∧ h = [] then psF c [] (t.headD []) (t.drop 1) else psF c [] h t) := by
  intro h t e
  obtain ⟨k, rfl⟩ : ∃ m, k = m + 2 := ⟨k - 2, by omega⟩
  obtain ⟨ps, hps, hps2⟩ := split_one (ix := utils_zzIndex.l0) (fun k s p i => by rw [utils_zzIndex.l0]) (g := utils_zzSplit.l0) (fun k a b c => by rw [utils_zzSplit.l0]; rfl) x1 c hx s.size (k + 2) s [] (by omega) (by omega) (by simp; omega) (by omega)
  rw [List.map_nil, List.nil_append, e] at hps2
  have hlen : ps.length = t.length + 1 := by have := congrArg List.length hps2; simpa using this
  have hspl := splitL_length c (L s)
  rw [e, L_length, List.length_cons] at hspl
  have hmem : ∀ p ∈ ps, p.size ≤ 300 := by
    intro p hp
    have hm : L p ∈ splitL c (L s) := by rw [e, ← hps2]; exact List.mem_map_of_mem hp
    have := splitL_mem_length c (L s) (L p) hm
    rw [L_length, L_length] at this
    omega
  unfold utils_PathSplitter.f
  have hz : utils_zzSplit.f (k + 2) s x1 = some ps := hps
  rw [hz, Option.bind_some]
  obtain ⟨p0, pr, hpc⟩ : ∃ p0 pr, ps = p0 :: pr := by
    cases ps with
    | nil => simp at hlen
    | cons a b => exact ⟨a, b, rfl⟩
  subst hpc
  simp only [List.map_cons, List.cons.injEq] at hps2
  obtain ⟨g1, g2⟩ := hps2
  have hj1 : ∀ q, (q : List ByteArray) ≠ [] → (∀ p ∈ q, p.size ≤ 300) → q.length ≤ 300 → ∃ r, utils_PathSplitter.j1 (k + 1) x1 q [] = some r ∧ r.map L = psF c [] (L (q.headD ByteArray.empty)) ((q.drop 1).map L) := by
    intro q hq hq2 hq3
    cases q with
    | nil => exact absurd rfl hq
    | cons a b =>
      obtain ⟨r, h2, h3⟩ := ps_loop x1 c hx (a :: b) hq3 hq2 b.length k 1 [] a (by simp) (by simp) (by simp at hq3; omega) (by simp) (by have := hq2 a List.mem_cons_self; omega)
      refine ⟨r, ?_, h3⟩
      simp only [utils_PathSplitter.j1]
      rw [if_pos (by simp), if_pos (by simp)]
      exact h2
  by_cases h1 : (((p0 :: pr).length : Nat) : Int) > 1
  · rw [if_pos h1, if_pos (by omega)]
    have hr0 : rdOf ByteArray.empty (p0 :: pr) 0 = p0 := rfl
    rw [hr0, toList_L, g1]
    simp only [utils_PathSplitter.j0]
    by_cases hh : h = []
    · rw [hh, if_pos (by simp), if_pos (by omega), if_pos ⟨by simp at hlen h1 ⊢; omega, rfl⟩]
      obtain ⟨r, h2, h3⟩ := hj1 pr (by intro hn; rw [hn] at h1; simp at h1) (fun p hp => hmem p (List.mem_cons_of_mem _ hp)) (by simp at hlen; omega)
      refine ⟨r, h2, ?_⟩
      rw [h3]
      cases pr with
      | nil => simp at h1
      | cons a b =>
        simp only [List.map_cons] at g2
        rw [← g2]
        rfl
    · rw [if_neg (by simpa using hh), if_neg (fun hc => hh hc.2)]
      obtain ⟨r, h2, h3⟩ := hj1 (p0 :: pr) (by simp) hmem (by simp at hlen ⊢; omega)
      refine ⟨r, h2, ?_⟩
      rw [h3, ← g1, ← g2]
      rfl
  · rw [if_neg h1]
    simp only [utils_PathSplitter.j0]
    rw [if_neg (by simp), if_neg (fun hc => by have := hc.1; simp at this h1 hlen; omega)]
    obtain ⟨r, h2, h3⟩ := hj1 (p0 :: pr) (by simp) hmem (by simp at hlen ⊢; omega)
    refine ⟨r, h2, ?_⟩
    rw [h3, ← g1, ← g2]
    rfl

/-! ### The reference -/
def psInts (part : List UInt8) : List Int := part.map fun b => (b.toNat : Int)
theorem ps_str (part : List UInt8) : L (strOfNums (psInts part)) = part := by
  show (psInts part).map (fun n => UInt8.ofNat n.toNat) = part
  unfold psInts
  rw [List.map_map]
  conv => rhs; rw [← List.map_id part]
  refine List.map_congr_left fun b _ => ?_
  show UInt8.ofNat ((b.toNat : Int)).toNat = b
  rw [show ((b.toNat : Int)).toNat = b.toNat by omega]
  simp
theorem ps_ints_snoc (part : List UInt8) (b : UInt8) : psInts part ++ [(b.toNat : Int)] = psInts (part ++ [b]) := by simp [psInts]

theorem ps_apart_end (s : ByteArray) (c : UInt8) (k : Nat) (i : Int) (out : List ByteArray) (part : List UInt8) (hi : (s.size : Int) ≤ i) (ho : out.length ≤ 400) (hpos : 1 ≤ out.length → 0 < s.size) :
    ∃ r, spec_Apart.l0 (k + 1) s (c.toNat : Int) out (psInts part) i = some r ∧ r.map L = psFin c (L s) (out.map L ++ [part]) := by
  simp only [spec_Apart.l0]
  rw [if_neg (by omega), if_pos (by omega), Option.bind_some]
  have hlen : (out ++ [strOfNums (psInts part)]).length = out.length + 1 := by simp
  have hmap : (out ++ [strOfNums (psInts part)]).map L = out.map L ++ [part] := by rw [List.map_append, List.map_singleton, ps_str]
  by_cases h1 : ((out ++ [strOfNums (psInts part)]).length : Int) > 1
  · have h2 : 0 < s.size := hpos (by omega)
    obtain ⟨b, r, e⟩ : ∃ b r, L s = b :: r := by
      cases e : L s with
      | nil => have := (L_nil s).1 e; omega
      | cons b r => exact ⟨b, r, rfl⟩
    have hb : bt s 0 = (b.toNat : Int) := bt_get? s 0 b (by rw [e]; rfl)
    rw [if_pos h1, if_pos (by omega), hb]
    by_cases h3 : b = c
    · subst h3
      rw [if_pos rfl, if_pos (by omega)]
      refine ⟨_, rfl, ?_⟩
      unfold psFin
      rw [if_pos ⟨by rw [← hmap, List.length_map]; omega, by rw [e]; rfl⟩, ← hmap, List.map_drop]
      rfl
    · rw [if_neg (fun h => h3 (u8_toNat_inj h))]
      refine ⟨_, rfl, ?_⟩
      unfold psFin
      rw [if_neg (fun h => h3 (by have := h.2; rw [e] at this; simpa using this)), hmap]
  · rw [if_neg h1]
    refine ⟨_, rfl, ?_⟩
    unfold psFin
    rw [if_neg (fun h => h1 (by have := h.1; rw [← hmap, List.length_map] at this; omega)), hmap]

theorem ps_apart (s : ByteArray) (hs : s.size ≤ 200) (c : UInt8) (d : Nat) : ∀ (k i : Nat) (out : List ByteArray) (part : List UInt8), i ≤ s.size → s.size - i ≤ d → 2 * d < k → out.length ≤ i → part.length ≤ i →
    ∃ r, spec_Apart.l0 (k + 1) s (c.toNat : Int) out (psInts part) (i : Int) = some r ∧ r.map L = psFin c (L s) (psA c (out.map L) part ((L s).drop i)) := by
  induction d with
  | zero =>
    intro k i out part h1 hd hk ho hp
    obtain ⟨r, h2, h3⟩ := ps_apart_end s c k (i : Int) out part (by omega) (by omega) (by omega)
    refine ⟨r, h2, ?_⟩
    rw [h3, List.drop_eq_nil_of_le (by rw [L_length]; omega)]
    rfl
  | succ d ih =>
    intro k i out part h1 hd hk ho hp
    by_cases hi : i < s.size
    · obtain ⟨k, rfl⟩ : ∃ m, k = m + 2 := ⟨k - 2, by omega⟩
      have hil : i < (L s).length := by rw [L_length]; exact hi
      obtain ⟨b, hb⟩ : ∃ b, (L s)[i]? = some b := ⟨_, List.getElem?_eq_getElem hil⟩
      have hbt := fun _ : Unit => bt_get? s i b hb
      have hdrop : (L s).drop i = b :: (L s).drop (i + 1) := by
        rw [List.drop_eq_getElem_cons hil]
        congr 1
        rw [List.getElem?_eq_getElem hil] at hb
        exact Option.some.inj hb
      have hw1 : ∀ _ : Unit, wrap64 ((i : Int) + 1) = ((i + 1 : Nat) : Int) := fun _ => w64_eq (by omega) (by omega) (by omega)
      have hw2 : ∀ _ : Unit, wrap64 (((i + 1 : Nat) : Int) + 1) = ((i + 2 : Nat) : Int) := fun _ => w64_eq (by omega) (by omega) (by omega)
      -- the plain way on
      have plain : ∀ (rest : List UInt8), (L s).drop (i + 1) = rest → psA c (out.map L) part (b :: rest) = (if b = c then psA c (out.map L ++ [part]) [] rest else psA c (out.map L) (part ++ [b]) rest) →
          ∃ r, spec_Apart.j1 (k + 2) s (c.toNat : Int) out (psInts part) (i : Int) false = some r ∧ r.map L = psFin c (L s) (psA c (out.map L) part (b :: rest)) := by
        intro rest hrest hA
        rw [hA]
        simp only [spec_Apart.j1]
        rw [if_neg (by simp), if_pos (by omega), if_pos (by omega), hbt (), hw1 ()]
        by_cases hc : b = c
        · subst hc
          rw [if_pos rfl, if_pos (by omega), if_pos rfl]
          obtain ⟨r, h2, h3⟩ := ih k (i + 1) (out ++ [strOfNums (psInts part)]) [] (by omega) (by omega) (by omega) (by simp; omega) (by simp)
          refine ⟨r, h2, ?_⟩
          rw [h3, hrest, List.map_append, List.map_singleton, ps_str]
        · rw [if_neg (fun h => hc (u8_toNat_inj h)), if_pos (by simp [psInts]; omega), if_neg hc, ps_ints_snoc]
          obtain ⟨r, h2, h3⟩ := ih k (i + 1) out (part ++ [b]) (by omega) (by omega) (by omega) (by omega) (by simp; omega)
          refine ⟨r, h2, ?_⟩
          rw [h3, hrest]
      rw [hdrop]
      have start : spec_Apart.l0 (k + 2 + 1) s (c.toNat : Int) out (psInts part) (i : Int) = (if (bt s (i : Int)) = 92 then (if (wrap64 ((i : Int) + 1)) < (s.size : Int) then (if 0 ≤ (wrap64 ((i : Int) + 1)) then (spec_Apart.j1 (k + 2) s (c.toNat : Int) out (psInts part) (i : Int) ((bt s (wrap64 ((i : Int) + 1))) == (c.toNat : Int))) else (none)) else (spec_Apart.j1 (k + 2) s (c.toNat : Int) out (psInts part) (i : Int) false)) else (spec_Apart.j1 (k + 2) s (c.toNat : Int) out (psInts part) (i : Int) false)) := by
        conv => lhs; unfold spec_Apart.l0
        rw [if_pos (by omega), if_pos (by omega)]
      rw [start, hw1 (), hbt ()]
      by_cases h92 : b = 92
      · rw [if_pos (by rw [h92]; rfl)]
        by_cases hi2 : i + 1 < s.size
        · rw [if_pos (by omega), if_pos (by omega)]
          have hil2 : i + 1 < (L s).length := by rw [L_length]; exact hi2
          obtain ⟨b2, hb2⟩ : ∃ b, (L s)[i + 1]? = some b := ⟨_, List.getElem?_eq_getElem hil2⟩
          have hbt2 := fun _ : Unit => bt_get? s (i + 1) b2 hb2
          have hdrop2 : (L s).drop (i + 1) = b2 :: (L s).drop (i + 2) := by
            rw [List.drop_eq_getElem_cons hil2]
            congr 1
            rw [List.getElem?_eq_getElem hil2] at hb2
            exact Option.some.inj hb2
          rw [hbt2 ()]
          by_cases hc2 : b2 = c
          · have e : ((b2.toNat : Int) == (c.toNat : Int)) = true := by rw [hc2]; simp
            rw [e, hdrop2]
            have hA : psA c (out.map L) part (b :: b2 :: (L s).drop (i + 2)) = psA c (out.map L) (part ++ [c]) ((L s).drop (i + 2)) := by
              conv => lhs; unfold psA
              rw [if_pos ⟨h92, hc2⟩]
            rw [hA]
            have hj : spec_Apart.j1 (k + 1 + 1) s (c.toNat : Int) out (psInts part) (i : Int) true = spec_Apart.l0 (k + 1) s (c.toNat : Int) out (psInts (part ++ [c])) ((i + 2 : Nat) : Int) := by
              conv => lhs; unfold spec_Apart.j1
              rw [if_pos rfl, if_pos (by simp [psInts]; omega), ps_ints_snoc, hw1 (), hw2 ()]
            rw [hj]
            exact ih k (i + 2) out (part ++ [c]) (by omega) (by omega) (by omega) (by omega) (by simp; omega)
          · have e : ((b2.toNat : Int) == (c.toNat : Int)) = false := by
              rw [beq_eq_false_iff_ne]
              exact fun h => hc2 (u8_toNat_inj h)
            rw [e]
            refine plain _ rfl ?_
            rw [hdrop2]
            conv => lhs; unfold psA
            rw [if_neg (fun h => hc2 h.2)]
        · rw [if_neg (by omega)]
          refine plain _ rfl ?_
          rw [List.drop_eq_nil_of_le (by rw [L_length]; omega)]
          conv => lhs; unfold psA
          by_cases hc : b = c
          · rw [if_pos hc, if_pos hc]; rfl
          · rw [if_neg hc, if_neg hc]; rfl
      · have h92' : ¬ (b.toNat : Int) = 92 := fun h => h92 (u8_toNat_inj (b := 92) h)
        rw [if_neg h92']
        refine plain _ rfl ?_
        cases hd3 : (L s).drop (i + 1) with
        | nil =>
          conv => lhs; unfold psA
          by_cases hc : b = c
          · rw [if_pos hc, if_pos hc]; rfl
          · rw [if_neg hc, if_neg hc]; rfl
        | cons b2 rest =>
          conv => lhs; unfold psA
          rw [if_neg (fun h => h92 h.1)]
    · obtain ⟨r, h2, h3⟩ := ps_apart_end s c k (i : Int) out part (by omega) (by omega) (by omega)
      refine ⟨r, h2, ?_⟩
      rw [h3, List.drop_eq_nil_of_le (by rw [L_length]; omega)]
      rfl

theorem ps_encode (n : Int) (h0 : 0 ≤ n) (h1 : n ≤ 127) : L (Utf8.encode n) = [UInt8.ofNat n.toNat] := by
  obtain ⟨m, rfl⟩ := Int.eq_ofNat_of_zero_le h0
  have all : ∀ m : Fin 128, L (Utf8.encode ((m.val : Nat) : Int)) = [UInt8.ofNat ((m.val : Nat) : Int).toNat] := by decide +kernel
  exact all ⟨m, by omega⟩

/-- YOURS: ∀ (a0 : ByteArray) (a1 : Int), a0.size ≤ 140737488351232 → (Lit.int .u8 a1).wf = true → ∃ k, laws_FnPathSplit.f k a0 a1 = some true -/
theorem FnPathSplit : laws_FnPathSplit.Pure := by
  intro s a hn hwf
  have hb : 0 ≤ a ∧ a ≤ 255 := u8_wf hwf
  by_cases h1 : (s.size : Int) > 2147483647
  · exact ⟨1, by unfold laws_FnPathSplit.f; rw [if_pos h1]⟩
  by_cases h2 : (s.size : Int) > 200
  · exact ⟨1, by unfold laws_FnPathSplit.f; rw [if_neg h1, if_pos h2]; rfl⟩
  by_cases h3 : a = 92
  · exact ⟨1, by unfold laws_FnPathSplit.f; rw [if_neg h1, if_neg h2, if_pos h3]; rfl⟩
  by_cases h4 : a = 0
  · exact ⟨1, by unfold laws_FnPathSplit.f; rw [if_neg h1, if_neg h2, if_neg h3, if_pos h4]; rfl⟩
  by_cases h5 : a > 127
  · exact ⟨1, by unfold laws_FnPathSplit.f; rw [if_neg h1, if_neg h2, if_neg h3, if_neg h4, decide_eq_true h5]; rfl⟩
  obtain ⟨c, hc⟩ : ∃ c : UInt8, c = UInt8.ofNat a.toNat := ⟨_, rfl⟩
  have hca : (c.toNat : Int) = a := by
    rw [hc, u8_ofNat _ (by omega)]
    omega
  have hc92 : c ≠ 92 := by
    intro e
    rw [e] at hca
    exact h3 hca.symm
  have hw : wrap32 a = a := by unfold wrap32; omega
  have hx : L (Utf8.encode a) = [c] := by rw [ps_encode a (by omega) (by omega), hc]
  refine ⟨1999 + 1, ?_⟩
  obtain ⟨h, t, e⟩ := splitL_ne c (L s)
  obtain ⟨r, hr, hr2⟩ := ps_impl s (Utf8.encode a) c hx (by omega) 1999 (by omega) h t e
  obtain ⟨q, hq, hq2⟩ := ps_apart s (by omega) c s.size 1998 0 [] [] (by omega) (by omega) (by omega) (by simp) (by simp)
  have hsame : r = q := map_L_inj (by rw [hr2, hq2, List.map_nil, List.drop_zero, ps_both c hc92 (L s) h t e])
  subst hsame
  have hi : impl_SplitPath.f 1999 s (Utf8.encode a) = some r := by
    unfold impl_SplitPath.f
    rw [if_neg (by rw [toList_L, hx]; simp), hr]
    rfl
  have ha : spec_Apart.f 1999 s a = some r := by
    unfold spec_Apart.f
    rw [← hca]
    exact hq
  have hlen : r.length ≤ 201 := by
    have g1 := congrArg List.length hr2
    have g2 := splitL_length c (L s)
    rw [L_length, e] at g2
    rw [List.length_map] at g1
    have g3 : ∀ out last ps, (psF c out last ps).length ≤ out.length + 1 + ps.length := by
      intro out last ps
      induction ps generalizing out last with
      | nil => simp [psF]
      | cons p ps ih =>
        unfold psF
        split
        · have := ih out (last.dropLast ++ [c] ++ p); simp only [List.length_cons]; omega
        · have := ih (out ++ [last]) p; simp only [List.length_append, List.length_cons, List.length_nil] at this ⊢; omega
    have g4 := g3 [] (t.headD []) (t.drop 1)
    have g5 := g3 [] h t
    simp only [List.length_drop, List.length_nil, List.length_cons] at g4 g5 g2
    split at g1 <;> omega
  have hsm : laws_heSame.f 1999 r r = some true := by
    unfold laws_heSame.f
    rw [if_pos rfl]
    have := same_any (g := laws_heSame.l0) (fun k a b c d => by rw [laws_heSame.l0]) r r rfl (by omega) r.length 1999 0 (by omega) (by omega) (by omega)
    rw [show ((0 : Nat) : Int) = 0 from rfl] at this
    rw [this]
    simp
  unfold laws_FnPathSplit.f
  rw [if_neg h1, if_neg h2, if_neg h3, if_neg h4, decide_eq_false h5]
  simp only [laws_FnPathSplit.j0]
  rw [if_neg (by simp), hw, hi, Option.bind_some, ha, Option.bind_some, hsm]
  rfl

end Go.Proofs.Ytdomnigegpigiab.Pure

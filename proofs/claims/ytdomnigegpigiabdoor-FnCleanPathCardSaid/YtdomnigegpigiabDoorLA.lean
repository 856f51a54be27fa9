/- Plain words on texts of bytes that are no control characters: blanks at their ends; the small functions that look at one character. -/
import Derived.Test.YtdomnigegpigiabDoorV9
import Derived.Test.YtdomnigegpigiabDoorVT
namespace Go.Proofs.YtdomnigegpigiabDoorV
open Go.RowKit
abbrev bs (l : List UInt8) : ByteArray := ⟨l.toArray⟩
theorem bs_size (l : List UInt8) : (bs l).size = l.length := by simp [ByteArray.size]
def plainB (b : UInt8) : Prop := 32 ≤ b.toNat ∧ b.toNat ≤ 126
def fl (l : List UInt8) : List UInt8 := l.dropWhile (· == 32)
def rt (l : List UInt8) : List UInt8 := (l.reverse.dropWhile (· == 32)).reverse
def trm (l : List UInt8) : List UInt8 := rt (fl l)
theorem fl_cons (l : List UInt8) : fl (32 :: l) = fl l := by simp [fl]
theorem fl_ne {a : UInt8} (h : a ≠ 32) (l : List UInt8) : fl (a :: l) = a :: l := by simp [fl, h]
theorem rt_snoc (l : List UInt8) : rt (l ++ [32]) = rt l := by simp [rt]
theorem rt_ne {a : UInt8} (h : a ≠ 32) (l : List UInt8) : rt (l ++ [a]) = l ++ [a] := by simp [rt, h]
theorem rt_nil : rt [] = [] := rfl
theorem fl_nil : fl [] = [] := rfl
theorem bs_extract (l : List UInt8) (i j : Nat) (h : j ≤ l.length) : (bs l).extract i j = bs ((l.take j).drop i) := by
  apply ByteArray.ext
  rw [ByteArray.data_extract]
  apply Array.ext'
  rw [Array.toList_extract]
  simp only [List.extract_eq_take_drop, List.drop_take]
theorem bs_get (l : List UInt8) (i : Nat) : (bs l)[i]? = l[i]? := by
  by_cases h : i < l.length
  · rw [List.getElem?_eq_getElem h, getElem?_pos (bs l) i (by rw [bs_size]; exact h)]
    rfl
  · rw [List.getElem?_eq_none (by omega), getElem?_neg (bs l) i (by rw [bs_size]; exact h)]
theorem byte_eq32 (b : UInt8) : ((b.toNat : Int) == 32) = (b == 32) := by
  by_cases h : b = 32
  · subst h; rfl
  · have : b.toNat ≠ 32 := fun hx => h (UInt8.toNat_inj.1 hx)
    have h1 : ((b.toNat : Int) == 32) = false := by simp; omega
    have h2 : (b == 32) = false := by simp [h]
    rw [h1, h2]
set_option maxHeartbeats 1000000 in
theorem space18 (A : View) (b : UInt8) (h : plainB b) : VCalls Tryd.prog 18 #[.int .i32 b.toNat] A fun r A' => r = .bool (b == 32) ∧ A' = A := by
  refine xcalls Tryd.func18 rfl (by simp [Tryd.ntmps18]) ?_
  obtain ⟨h1, h2⟩ := h
  have f : ∀ c : Int, (c < 32 ∨ 126 < c) → ((b.toNat : Int) == c) = false := by intro c hc; simp; omega
  have f9 := f 9 (by omega)
  have f10 := f 10 (by omega)
  have f11 := f 11 (by omega)
  have f12 := f 12 (by omega)
  have f13 := f 13 (by omega)
  have f133 := f 133 (by omega)
  have f160 := f 160 (by omega)
  have f1 := f 5760 (by omega)
  have f2 := f 8232 (by omega)
  have f3 := f 8233 (by omega)
  have f4 := f 8239 (by omega)
  have f5 := f 8287 (by omega)
  have f6 := f 12288 (by omega)
  have f7 : ¬ (8192 : Int) ≤ b.toNat := by omega
  cases hb : (b == 32) with
  | true =>
    have f32 : ((b.toNat : Int) == 32) = true := by rw [byte_eq32, hb]
    clear f
    simp [go_sem, Tryd.f18, xbin, eqPlain, f9, f10, f11, f12, f13, f32]
  | false =>
    have f32 : ((b.toNat : Int) == 32) = false := by rw [byte_eq32, hb]
    clear f
    simp [go_sem, Tryd.f18, xbin, eqPlain, f9, f10, f11, f12, f13, f32, f133, f160, f1, f2, f3, f4, f5, f6, f7, gval]
set_option maxHeartbeats 1000000 in
theorem first17 (A : View) (b : UInt8) (l : List UInt8) (h : plainB b) : VCalls Tryd.prog 17 #[.string (bs (b :: l))] A fun r A' => r = .tuple #[.int .i32 b.toNat, .int .i64 1] ∧ A' = A := by
  refine xcalls Tryd.func17 rfl (by simp [Tryd.ntmps17]) ?_
  have hne : (((bs (b :: l)).toList == ByteArray.toList { data := #[] }) = false) := by
    cases hc : ((bs (b :: l)).toList == ByteArray.toList { data := #[] }) with
    | false => rfl
    | true =>
      have := congrArg ByteArray.size ((Lib.bytes_beq_iff _ _).1 hc)
      rw [bs_size] at this
      cases this
  have hg : (bs (b :: l))[0]? = some b := by rw [bs_get]; rfl
  have hlt : (b.toNat : Int) < 128 := by have := h.2; omega
  have hw : IntKind.i32.wrap (b.toNat : Int) = b.toNat := IntWalk.i32_in _ (by have := h.2; omega)
  simp [go_sem, Tryd.f17, xbin, eqPlain, hne, gval, xindex, hg, hlt, xconv, hw]
set_option maxHeartbeats 1000000 in
theorem last19 (A : View) (b : UInt8) (l : List UInt8) (h : plainB b) (hl : l.length < 9223372036854775807) : VCalls Tryd.prog 19 #[.string (bs (l ++ [b]))] A fun r A' => r = .tuple #[.int .i32 b.toNat, .int .i64 1] ∧ A' = A := by
  refine xcalls Tryd.func19 rfl (by simp [Tryd.ntmps19]) ?_
  have hs : (bs (l ++ [b])).size = l.length + 1 := by rw [bs_size]; simp
  have hg : (bs (l ++ [b]))[l.length]? = some b := by rw [bs_get]; simp
  have hlt : (b.toNat : Int) < 128 := by have := h.2; omega
  have hw : IntKind.i32.wrap (b.toNat : Int) = b.toNat := IntWalk.i32_in _ (by have := h.2; omega)
  have hw2 : IntKind.i64.wrap (l.length : Int) = (l.length : Int) := wrap_in (by omega) (by omega)
  have h0 : ((l.length : Int) + 1 == 0) = false := by simp; omega
  have h1 : (l.length : Int) + 1 - 1 = l.length := by omega
  simp only [Tryd.f19]
  refine xc_step fun C hC => ?_
  simp [go_sem]
  subst hC
  refine xc_step fun C hC => ?_
  simp [go_sem, xlen, hs]
  subst hC
  refine xc_step fun C hC => ?_
  simp [go_sem, xbin, eqPlain, h0]
  subst hC
  refine xc_step fun C hC => ?_
  simp [go_sem, xbin, eqPlain, h1, hw2]
  subst hC
  refine xc_step fun C hC => ?_
  simp [go_sem, xindex, hg, xconv, hw]
  subst hC
  refine xc_step fun C hC => ?_
  simp [go_sem, xbin, eqPlain, hlt]
/-- A text without the blanks at its ends. -/
theorem trim16 (A : View) (l : List UInt8) (h : ∀ b ∈ l, plainB b) (hl : l.length ≤ 1000) : VCalls Tryd.prog 16 #[.string (bs l)] A fun r A' => r = .string (bs (trm l)) ∧ A' = A := by
  refine xcalls Tryd.func16 rfl (by simp [Tryd.ntmps16]) ?_
  have hne : ∀ (a : UInt8) (m : List UInt8), (((bs (a :: m)).toList == ByteArray.toList { data := #[] }) = false) := by
    intro a m
    cases hc : ((bs (a :: m)).toList == ByteArray.toList { data := #[] }) with
    | false => rfl
    | true =>
      have := congrArg ByteArray.size ((Lib.bytes_beq_iff _ _).1 hc)
      rw [bs_size] at this
      cases this
  have hnil : ((bs []).toList == ByteArray.toList { data := #[] }) = true := (Lib.bytes_beq_iff _ _).2 rfl
  simp [go_sem, Tryd.f16]
  refine vloopK (fun k e ds A' => ∃ m : List UInt8, k = m.length ∧ A' = A ∧ ds = [] ∧ e 0 = .string (bs m) ∧ fl m = fl l ∧ (∀ b ∈ m, plainB b) ∧ m.length ≤ 1000) l.length
    ⟨l, rfl, rfl, rfl, by simp [go_sem], rfl, h, hl⟩ ?_
  rintro k e ds A' ⟨m, rfl, rfl, rfl, h0, hm, hp, hml⟩ J X hJ hX
  refine xc_sound _ ?_
  have tail : ∀ e' : Env, e' 0 = .string (bs m) → fl m = m → X (.exit 0) e' [] A' := by
    intro e' g0 hfl
    refine hX _ _ _ _ ?_
    simp [go_sem]
    refine vloopK (fun k e ds A'' => ∃ m' : List UInt8, k = m'.length ∧ A'' = A' ∧ ds = [] ∧ e 0 = .string (bs m') ∧ rt m' = rt m ∧ (∀ b ∈ m', plainB b) ∧ m'.length ≤ 1000) m.length
      ⟨m, rfl, rfl, rfl, g0, rfl, hp, hml⟩ ?_
    rintro k e ds A' ⟨m', rfl, rfl, rfl, h0, hm', hp', hml'⟩ J X hJ hX
    refine xc_sound _ ?_
    have tail2 : ∀ e' : Env, e' 0 = .string (bs m') → rt m' = m' → X (.exit 2) e' [] A' := by
      intro e' g0 hrt
      refine hX _ _ _ _ ?_
      simp [go_sem, g0, trm, ← hm, hfl, ← hm', hrt]
    rcases List.eq_nil_or_concat m' with hnl | ⟨q, a, hqa⟩
    · subst hnl
      simp [go_sem, h0, xbin, eqPlain, hnil]
      exact tail2 _ (by simp [go_sem, h0]) rt_nil
    · rw [List.concat_eq_append] at hqa
      subst hqa
      have hpa : plainB a := hp' a (by simp)
      have hq1 : q.length + 1 ≤ 1000 := by simpa using hml'
      have hne2 : (((bs (q ++ [a])).toList == ByteArray.toList { data := #[] }) = false) := by
        cases hc : ((bs (q ++ [a])).toList == ByteArray.toList { data := #[] }) with
        | false => rfl
        | true =>
          have := congrArg ByteArray.size ((Lib.bytes_beq_iff _ _).1 hc)
          rw [bs_size] at this
          simp [ByteArray.size] at this
      have hem : (q ++ [a]).isEmpty = false := by cases q <;> rfl
      simp [go_sem, h0, xbin, eqPlain, hne2, hem]
      refine (last19 _ a q hpa (by omega)).mono ?_
      rintro _ _ ⟨rfl, rfl⟩
      simp [go_sem]
      refine (space18 _ a hpa).mono ?_
      rintro _ _ ⟨rfl, rfl⟩
      cases ha : (a == 32) with
      | false =>
        have ha' : a ≠ 32 := by simpa using ha
        simp [go_sem, xunop]
        exact tail2 _ (by simp [go_sem, h0]) (rt_ne ha' q)
      | true =>
        have ha' : a = 32 := by simpa using ha
        subst ha'
        have hs : (bs (q ++ [32])).size = q.length + 1 := by rw [bs_size]; simp
        have hw : IntKind.i64.wrap (q.length : Int) = q.length := wrap_in (by omega) (by omega)
        have hx : (bs (q ++ [32])).extract 0 q.length = bs q := by rw [bs_extract _ _ _ (by simp)]; simp
        have hi : (q.length : Int) + 1 - 1 = q.length := by omega
        have hle : (q.length : Int) ≤ q.length + 1 := by omega
        simp [go_sem, xunop, h0, xlen, hs, xbin, eqPlain, hi, hw, xslice, hle, hx]
        refine hJ q.length _ _ _ (by simp) ⟨q, rfl, rfl, rfl, by simp [go_sem], by rw [← hm', rt_snoc], fun b hb => hp' b (by simp [hb]), by omega⟩
  cases m with
  | nil =>
    simp [go_sem, h0, xbin, eqPlain, hnil]
    exact tail _ (by simp [go_sem, h0]) fl_nil
  | cons a q =>
    have hpa : plainB a := hp a (by simp)
    have hq1 : q.length + 1 ≤ 1000 := by simpa using hml
    simp [go_sem, h0, xbin, eqPlain, hne a q]
    refine (first17 _ a q hpa).mono ?_
    rintro _ _ ⟨rfl, rfl⟩
    simp [go_sem]
    refine (space18 _ a hpa).mono ?_
    rintro _ _ ⟨rfl, rfl⟩
    cases ha : (a == 32) with
    | false =>
      have ha' : a ≠ 32 := by simpa using ha
      simp [go_sem, xunop]
      exact tail _ (by simp [go_sem, h0]) (fl_ne ha' q)
    | true =>
      have ha' : a = 32 := by simpa using ha
      subst ha'
      have hs : (bs (32 :: q)).size = q.length + 1 := by rw [bs_size]; simp
      have hx : (bs (32 :: q)).extract 1 (q.length + 1) = bs q := by rw [bs_extract _ _ _ (by simp)]; simp
      have hle : (1 : Int) ≤ q.length + 1 := by omega
      simp [go_sem, xunop, h0, hs, xslice, hle, hx]
      refine hJ q.length _ _ _ (by simp) ⟨q, rfl, rfl, rfl, by simp [go_sem], by rw [← hm, fl_cons], fun b hb => hp b (by simp [hb]), by omega⟩
end Go.Proofs.YtdomnigegpigiabDoorV

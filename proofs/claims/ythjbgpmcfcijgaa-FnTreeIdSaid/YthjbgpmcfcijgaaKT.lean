/- Trees: resid.zzIndex, ParseGroupVersion, FromRNode, impl.IdOfNode. -/
import Derived.Test.YthjbgpmcfcijgaaKS
namespace Go.Proofs.YthjbgpmcfcijgaaV
open Go.RowKit
set_option linter.unusedSimpArgs false
set_option linter.unusedVariables false
theorem extract_one {s : ByteArray} {i : Nat} (h : i < s.size) : s.extract i (i + 1) = ⟨#[s[i]]⟩ := by
  have h1 : i < s.data.toList.length := by rw [Array.length_toList]; exact h
  apply ByteArray.ext
  apply Array.toList_inj.1
  rw [Lib.extract_data s i (i + 1), Nat.add_sub_cancel_left, List.drop_eq_getElem_cons h1]
  rfl
/-- No slash. -/
def NoSl (s : ByteArray) : Prop := ∀ j (h : j < s.size), s[j] ≠ 47
/-- The first slash's place, or -1. -/
def Ix (s : ByteArray) (r : Value) : Prop := (∃ i, ∃ h : i < s.size, s[i] = 47 ∧ (∀ j (hj : j < i), s[j] ≠ 47) ∧ r = .int .i64 i) ∨ (NoSl s ∧ r = .int .i64 (-1))
set_option maxRecDepth 20000 in
theorem index54 (A : View) (s : ByteArray) (hs : s.size ≤ 1125899906842624) : VCalls Try.prog 54 #[.string s, .string ⟨#[47]⟩] A fun r A' => Ix s r ∧ A' = A := by
  refine xcalls Try.func54 rfl (by simp [Try.ntmps54]) ?_
  simp only [Try.f54]
  have hP : Priv A (addrs []) := Priv.nil A
  show xc _ _ _ _ _ _ (ov A [])
  refine xc_two fun N1 hN1 => ?_
  refine xc_reg1 1 rfl fun K hK => ?_
  simp only [show (List.range 1).map (·, true) = [(0, true)] from rfl, rslv_cons, rslv_nil, List.getElem?_toArray, List.getElem?_cons_zero, List.getElem?_cons_succ, gres]
  (refine seqX_hide2 fun R hR => ?_; simp [go_sem]; refine hR _ _ _ ?_; clear hR R)
  rw [seqX_nil]
  refine hK _ _ _ ?_; clear hK K
  refine hN1 _ _ _ ?_
  refine xc_two fun N2 hN2 => ?_
  refine xc_two fun N3 hN3 => ?_
  refine xc_reg1 1 rfl fun K hK => ?_
  simp only [show (List.range 1).map (·, true) = [(0, true)] from rfl, rslv_cons, rslv_nil, List.getElem?_toArray, List.getElem?_cons_zero, List.getElem?_cons_succ, gres]
  (refine seqX_hide2 fun R hR => ?_; simp [go_sem]; refine hR _ _ _ ?_; clear hR R)
  rw [seqX_nil]
  refine hK _ _ _ ?_; clear hK K
  refine hN3 _ _ _ ?_
  rw [xc_block]
  rw [xc_loop]
  refine vloopK (fun k' e ds A' => ∃ (i : Nat), k' = s.size - i ∧ ds = [] ∧ A' = ov A [] ∧ Priv A [] ∧ e 0 = .string s ∧ e 1 = .string ⟨#[47]⟩ ∧ e 5 = .int .i64 i ∧ (i ≤ s.size) ∧ (∀ j (h : j < s.size), j < i → s[j] ≠ 47)) _ ⟨0, rfl, rfl, rfl, hP, by simp [go_sem], by simp [go_sem], by simp [go_sem], by omega, fun j h hj => by omega⟩ ?_
  clear hP
  rintro k' e ds A' ⟨i, rfl, rfl, hV, hP, g0, g1, g5, hil, hA⟩ J1 X1 hJ1 hX1
  refine xc_sound _ ?_
  replace hV := Eq.symm hV; subst hV; replace hP : Priv A (addrs []) := hP
  have hw1 := wrap_nat (i := i) (by omega)
  have hsz : (⟨#[47]⟩ : ByteArray).size = 1 := rfl
  by_cases hi : i < s.size
  · have hii : (i : Int) < s.size := by omega
    have hi1 : i + 1 ≤ s.size := by omega
    have hi1i : (i : Int) + 1 ≤ s.size := by omega
    have hil' : (i : Int) ≤ s.size := by omega
    have h0i : (0 : Int) ≤ (i : Int) + 1 := by omega
    have hiil : (i : Int) ≤ (i : Int) + 1 := by omega
    by_cases hd : s[i] = 47
    · have hb : ((s.extract i (i + 1)).toList == [47]) = true := by
        have := (Lib.bytes_beq_iff (s.extract i (i + 1)) ⟨#[47]⟩).2 (by rw [extract_one hi, hd])
        rwa [show (⟨#[47]⟩ : ByteArray).toList = [47] by kernel_rfl] at this
      refine xc_two fun N4 hN4 => ?_
      refine xc_two fun N5 hN5 => ?_
      refine xc_reg1 7 rfl fun K hK => ?_
      simp only [show (List.range 7).map (·, true) = [(0, true), (1, true), (2, true), (3, true), (4, true), (5, true), (6, true)] from rfl, rslv_cons, rslv_nil, List.getElem?_toArray, List.getElem?_cons_zero, List.getElem?_cons_succ, gres]
      iterate 7 (refine seqX_hide2 fun R hR => ?_; simp [go_sem, g0, g1, g5, hi, hii, hw1, hsz, hi1, hi1i, xslice, hil, hil', hiil, h0i, hb]; refine hR _ _ _ ?_; clear hR R)
      rw [seqX_nil]
      refine hK _ _ _ ?_; clear hK K
      refine hN5 _ _ _ ?_
      refine xc_iftrue (by simp [go_sem, g0, g1, g5, hi, hii, hw1, hsz, hi1, hi1i, xslice, hil, hil', hiil, h0i, hb]) ?_
      refine hN4 _ _ _ ?_
      refine xc_two fun N6 hN6 => ?_
      rw [xc_block]
      refine xc_two fun N7 hN7 => ?_
      refine xc_reg1 9 rfl fun K hK => ?_
      simp only [show (List.range 9).map (·, true) = [(0, true), (1, true), (2, true), (3, true), (4, true), (5, true), (6, true), (7, true), (8, true)] from rfl, rslv_cons, rslv_nil, List.getElem?_toArray, List.getElem?_cons_zero, List.getElem?_cons_succ, gres]
      iterate 9 (refine seqX_hide2 fun R hR => ?_; simp [go_sem, g0, g1, g5, hi, hii, hw1, hsz, hi1, hi1i, xslice, hil, hil', hiil, h0i, hb]; refine hR _ _ _ ?_; clear hR R)
      rw [seqX_nil]
      refine hK _ _ _ ?_; clear hK K
      refine hN7 _ _ _ ?_
      refine xc_iftrue (by simp [go_sem, g0, g1, g5, hi, hii, hw1, hsz, hi1, hi1i, xslice, hil, hil', hiil, h0i, hb]) ?_
      refine xc_two fun N8 hN8 => ?_
      refine xc_reg1 2 rfl fun K hK => ?_
      simp only [show (List.range 2).map (·, true) = [(0, true), (1, true)] from rfl, rslv_cons, rslv_nil, List.getElem?_toArray, List.getElem?_cons_zero, List.getElem?_cons_succ, gres]
      iterate 2 (refine seqX_hide2 fun R hR => ?_; simp [go_sem, g0, g1, g5, hi, hii, hw1, hsz, hi1, hi1i, xslice, hil, hil', hiil, h0i, hb]; refine hR _ _ _ ?_; clear hR R)
      rw [seqX_nil]
      refine hK _ _ _ ?_; clear hK K
      refine hN8 _ _ _ ?_
      refine hX1 _ _ _ _ ?_
      simp [go_sem, g0, g1, g5, hi, hii, hw1, hsz, hi1, hi1i, xslice, hil, hil', hiil, h0i, hb]
      exact ⟨.inl ⟨i, hi, hd, fun j hj => hA j (by omega) hj, rfl⟩, rfl⟩
    · have hb : ((s.extract i (i + 1)).toList == [47]) = false := by
        cases hx : ((s.extract i (i + 1)).toList == [47]) with
        | false => rfl
        | true =>
          exfalso
          have := (Lib.bytes_beq_iff (s.extract i (i + 1)) ⟨#[47]⟩).1 (by rw [show (⟨#[47]⟩ : ByteArray).toList = [47] by kernel_rfl]; exact hx)
          rw [extract_one hi] at this
          have h2 : s[i] = 47 := by
            have := congrArg (fun x : ByteArray => x.data.toList) this
            simpa using this
          exact hd h2
      refine xc_two fun N4 hN4 => ?_
      refine xc_two fun N5 hN5 => ?_
      refine xc_reg1 7 rfl fun K hK => ?_
      simp only [show (List.range 7).map (·, true) = [(0, true), (1, true), (2, true), (3, true), (4, true), (5, true), (6, true)] from rfl, rslv_cons, rslv_nil, List.getElem?_toArray, List.getElem?_cons_zero, List.getElem?_cons_succ, gres]
      iterate 7 (refine seqX_hide2 fun R hR => ?_; simp [go_sem, g0, g1, g5, hi, hii, hw1, hsz, hi1, hi1i, xslice, hil, hil', hiil, h0i, hb]; refine hR _ _ _ ?_; clear hR R)
      rw [seqX_nil]
      refine hK _ _ _ ?_; clear hK K
      refine hN5 _ _ _ ?_
      refine xc_iftrue (by simp [go_sem, g0, g1, g5, hi, hii, hw1, hsz, hi1, hi1i, xslice, hil, hil', hiil, h0i, hb]) ?_
      refine hN4 _ _ _ ?_
      refine xc_two fun N6 hN6 => ?_
      rw [xc_block]
      refine xc_two fun N7 hN7 => ?_
      refine xc_reg1 9 rfl fun K hK => ?_
      simp only [show (List.range 9).map (·, true) = [(0, true), (1, true), (2, true), (3, true), (4, true), (5, true), (6, true), (7, true), (8, true)] from rfl, rslv_cons, rslv_nil, List.getElem?_toArray, List.getElem?_cons_zero, List.getElem?_cons_succ, gres]
      iterate 9 (refine seqX_hide2 fun R hR => ?_; simp [go_sem, g0, g1, g5, hi, hii, hw1, hsz, hi1, hi1i, xslice, hil, hil', hiil, h0i, hb]; refine hR _ _ _ ?_; clear hR R)
      rw [seqX_nil]
      refine hK _ _ _ ?_; clear hK K
      refine hN7 _ _ _ ?_
      refine xc_iffalse (by simp [go_sem, g0, g1, g5, hi, hii, hw1, hsz, hi1, hi1i, xslice, hil, hil', hiil, h0i, hb]) ?_
      refine hN6 _ _ _ ?_
      refine xc_reg1 3 rfl fun K hK => ?_
      simp only [show (List.range 3).map (·, true) = [(0, true), (1, true), (2, true)] from rfl, rslv_cons, rslv_nil, List.getElem?_toArray, List.getElem?_cons_zero, List.getElem?_cons_succ, gres]
      iterate 3 (refine seqX_hide2 fun R hR => ?_; simp [go_sem, g0, g1, g5, hi, hii, hw1, hsz, hi1, hi1i, xslice, hil, hil', hiil, h0i, hb]; refine hR _ _ _ ?_; clear hR R)
      rw [seqX_nil]
      refine hK _ _ _ ?_; clear hK K
      refine hJ1 (s.size - (i + 1)) _ _ _ (by omega) ⟨i + 1, rfl, rfl, rfl, hP, by simp [go_sem, g0, g1, g5, hi, hii, hw1, hsz, hi1, hi1i, xslice, hil, hil', hiil, h0i, hb], by simp [go_sem, g0, g1, g5, hi, hii, hw1, hsz, hi1, hi1i, xslice, hil, hil', hiil, h0i, hb], by simp [go_sem, g0, g1, g5, hi, hii, hw1, hsz, hi1, hi1i, xslice, hil, hil', hiil, h0i, hb], by omega, fun j h hj => by rcases Nat.lt_or_eq_of_le (Nat.le_of_lt_succ hj) with h2 | h2; exact hA j h h2; subst h2; exact hd⟩
  · skip
    have hii : ¬ (i : Int) < s.size := by omega
    have hi1 : ¬ i + 1 ≤ s.size := by omega
    have hi1i : ¬ (i : Int) + 1 ≤ s.size := by omega
    refine xc_two fun N4 hN4 => ?_
    refine xc_two fun N5 hN5 => ?_
    refine xc_reg1 7 rfl fun K hK => ?_
    simp only [show (List.range 7).map (·, true) = [(0, true), (1, true), (2, true), (3, true), (4, true), (5, true), (6, true)] from rfl, rslv_cons, rslv_nil, List.getElem?_toArray, List.getElem?_cons_zero, List.getElem?_cons_succ, gres]
    iterate 7 (refine seqX_hide2 fun R hR => ?_; simp [go_sem, g0, g1, g5, hi, hii, hw1, hsz, hi1, hi1i]; refine hR _ _ _ ?_; clear hR R)
    rw [seqX_nil]
    refine hK _ _ _ ?_; clear hK K
    refine hN5 _ _ _ ?_
    refine xc_iffalse (by simp [go_sem, g0, g1, g5, hi, hii, hw1, hsz, hi1, hi1i]) ?_
    refine hX1 _ _ _ _ ?_
    refine hN2 _ _ _ ?_
    refine xc_two fun N6 hN6 => ?_
    refine xc_reg1 1 rfl fun K hK => ?_
    simp only [show (List.range 1).map (·, true) = [(0, true)] from rfl, rslv_cons, rslv_nil, List.getElem?_toArray, List.getElem?_cons_zero, List.getElem?_cons_succ, gres]
    (refine seqX_hide2 fun R hR => ?_; simp [go_sem, g0, g1, g5, hi, hii, hw1, hsz, hi1, hi1i]; refine hR _ _ _ ?_; clear hR R)
    rw [seqX_nil]
    refine hK _ _ _ ?_; clear hK K
    refine hN6 _ _ _ ?_
    simp [go_sem, g0, g1, g5, hi, hii, hw1, hsz, hi1, hi1i]
    refine ⟨.inr ⟨fun j hj => hA j hj (by omega), rfl⟩, rfl⟩
/-- A group and a version, and how they are written. -/
def GVs (g v s : ByteArray) : Prop := (g = e0 ∧ s = v ∧ NoSl v) ∨ (NoSl g ∧ s = g ++ ⟨#[47]⟩ ++ v)
theorem gv_at {g v s : ByteArray} (h : s = g ++ ⟨#[47]⟩ ++ v) : s.data.toList = g.data.toList ++ 47 :: v.data.toList := by
  rw [h]
  simp [ByteArray.data_append]
theorem gv_size {g v s : ByteArray} (h : s = g ++ ⟨#[47]⟩ ++ v) : s.size = g.size + 1 + v.size := by
  have := congrArg List.length (gv_at h)
  rw [List.length_append, List.length_cons, Array.length_toList, Array.length_toList, Array.length_toList] at this
  have h1 : s.data.size = s.size := rfl
  have h2 : g.data.size = g.size := rfl
  have h3 : v.data.size = v.size := rfl
  omega
theorem gv_get {s : ByteArray} {i : Nat} (h : i < s.size) : s[i] = s.data.toList[i]'(by rw [Array.length_toList]; exact h) := rfl
theorem gv_sep {g v s : ByteArray} (h : s = g ++ ⟨#[47]⟩ ++ v) (hg : g.size < s.size) : s[g.size] = 47 := by
  rw [gv_get]
  have h2 : g.data.toList.length = g.size := Array.length_toList
  simp only [gv_at h]
  rw [List.getElem_append_right (by omega)]
  simp [h2]
theorem gv_left {g v s : ByteArray} (h : s = g ++ ⟨#[47]⟩ ++ v) {j : Nat} (hj : j < g.size) (hs : j < s.size) : s[j] = g[j] := by
  rw [gv_get, gv_get]
  have h2 : g.data.toList.length = g.size := Array.length_toList
  simp only [gv_at h]
  rw [List.getElem_append_left (by omega)]
theorem gv_ex1 {g v s : ByteArray} (h : s = g ++ ⟨#[47]⟩ ++ v) : s.extract 0 g.size = g := by
  apply ByteArray.ext
  apply Array.toList_inj.1
  have h2 : g.data.toList.length = g.size := Array.length_toList
  rw [Lib.extract_data, gv_at h, List.drop_zero, Nat.sub_zero, List.take_append_of_le_length (by omega), List.take_of_length_le (by omega)]
theorem gv_ex2 {g v s : ByteArray} (h : s = g ++ ⟨#[47]⟩ ++ v) : s.extract (g.size + 1) s.size = v := by
  apply ByteArray.ext
  apply Array.toList_inj.1
  have h2 : g.data.toList.length = g.size := Array.length_toList
  have h3 : v.data.toList.length = v.size := Array.length_toList
  rw [Lib.extract_data, gv_at h, gv_size h, ← h2, show g.data.toList ++ 47 :: v.data.toList = (g.data.toList ++ [47]) ++ v.data.toList by simp, List.drop_left' (by simp), List.take_of_length_le (by omega)]
set_option maxRecDepth 20000 in
theorem parse35 (A : View) (g v s : ByteArray) (h : GVs g v s) (hs : s.size ≤ 1125899906842624) : VCalls Try.prog 35 #[.string s] A fun r A' => r = .tuple #[.string g, .string v] ∧ A' = A := by
  refine xcalls Try.func35 rfl (by simp [Try.ntmps35]) ?_
  simp only [Try.f35]
  have hP : Priv A (addrs []) := Priv.nil A
  show xc _ _ _ _ _ _ (ov A [])
  refine xc_two fun N1 hN1 => ?_
  refine xc_reg1 2 rfl fun K hK => ?_
  simp only [show (List.range 2).map (·, true) = [(0, true), (1, true)] from rfl, rslv_cons, rslv_nil, List.getElem?_toArray, List.getElem?_cons_zero, List.getElem?_cons_succ, gres]
  iterate 2 (refine seqX_hide2 fun R hR => ?_; simp [go_sem]; refine hR _ _ _ ?_; clear hR R)
  rw [seqX_nil]
  refine hK _ _ _ ?_; clear hK K
  refine hN1 _ _ _ ?_
  refine xc_two fun N2 hN2 => ?_
  refine xc_two fun N3 hN3 => ?_
  refine xc_reg1 3 rfl fun K hK => ?_
  simp only [show (List.range 3).map (·, true) = [(0, true), (1, true), (2, true)] from rfl, rslv_cons, rslv_nil, List.getElem?_toArray, List.getElem?_cons_zero, List.getElem?_cons_succ, gres]
  (refine seqX_hide2 fun R hR => ?_; simp [go_sem]; refine hR _ _ _ ?_; clear hR R)
  refine seqX_hide2 fun R hR => ?_
  simp [go_sem]
  refine call_same hP (index54 A s hs) ?_
  rintro r hix
  rcases h with ⟨rfl, rfl, hn⟩ | ⟨hg, hsv⟩
  · have hix : r = .int .i64 (-1) := by
      rcases hix with ⟨i, hi, h47, -, -⟩ | ⟨-, h⟩
      · exact absurd h47 (hn i hi)
      · exact h
    subst hix
    refine hR _ _ _ ?_; clear hR R
    (refine seqX_hide2 fun R hR => ?_; simp [go_sem]; refine hR _ _ _ ?_; clear hR R)
    rw [seqX_nil]
    refine hK _ _ _ ?_; clear hK K
    refine hN3 _ _ _ ?_
    refine xc_two fun N4 hN4 => ?_
    refine xc_reg1 2 rfl fun K hK => ?_
    simp only [show (List.range 2).map (·, true) = [(0, true), (1, true)] from rfl, rslv_cons, rslv_nil, List.getElem?_toArray, List.getElem?_cons_zero, List.getElem?_cons_succ, gres]
    iterate 2 (refine seqX_hide2 fun R hR => ?_; simp [go_sem]; refine hR _ _ _ ?_; clear hR R)
    rw [seqX_nil]
    refine hK _ _ _ ?_; clear hK K
    refine hN4 _ _ _ ?_
    refine xc_iffalse (by simp [go_sem]) ?_
    refine hN2 _ _ _ ?_
    refine xc_two fun N5 hN5 => ?_
    refine xc_reg1 3 rfl fun K hK => ?_
    simp only [show (List.range 3).map (·, true) = [(0, true), (1, true), (2, true)] from rfl, rslv_cons, rslv_nil, List.getElem?_toArray, List.getElem?_cons_zero, List.getElem?_cons_succ, gres]
    iterate 3 (refine seqX_hide2 fun R hR => ?_; simp [go_sem]; refine hR _ _ _ ?_; clear hR R)
    rw [seqX_nil]
    refine hK _ _ _ ?_; clear hK K
    refine hN5 _ _ _ ?_
    simp [go_sem]
    exact ⟨rfl, rfl⟩
  have hz := gv_size hsv
  have hix : r = .int .i64 g.size := by
    have hgs : g.size < s.size := by omega
    rcases hix with ⟨i, hi, h47, hb, rfl⟩ | ⟨hn, -⟩
    · have h1 : ¬ i < g.size := fun hl => by
        rw [gv_left hsv hl hi] at h47
        exact hg i hl h47
      have h2 : ¬ g.size < i := fun hl => hb g.size hl (gv_sep hsv hgs)
      obtain rfl : i = g.size := by omega
      rfl
    · exact absurd (gv_sep hsv hgs) (hn _ hgs)
  subst hix
  have hw1 := wrap_nat (i := g.size) (by omega)
  have hm1 : ¬ (g.size : Int) = -1 := by omega
  have hm0 : (-1 : Int) < g.size := by omega
  have hmb : ((g.size : Int) == -1) = false := beq_eq_false_iff_ne.2 hm1
  have h3 : (g.size : Int) ≤ s.size := by omega
  have h4 : g.size ≤ s.size := by omega
  have h5 : g.size + 1 ≤ s.size := by omega
  have h6 : (g.size : Int) + 1 ≤ s.size := by omega
  have h7 : (0 : Int) ≤ (g.size : Int) + 1 := by omega
  have h8 := gv_ex1 hsv
  have h9 := gv_ex2 hsv
  refine hR _ _ _ ?_; clear hR R
  (refine seqX_hide2 fun R hR => ?_; simp [go_sem, hw1, hm1, hm0, hmb, h3, h4, h5, h6, h7, h8, h9, xslice]; refine hR _ _ _ ?_; clear hR R)
  rw [seqX_nil]
  refine hK _ _ _ ?_; clear hK K
  refine hN3 _ _ _ ?_
  refine xc_two fun N4 hN4 => ?_
  refine xc_reg1 2 rfl fun K hK => ?_
  simp only [show (List.range 2).map (·, true) = [(0, true), (1, true)] from rfl, rslv_cons, rslv_nil, List.getElem?_toArray, List.getElem?_cons_zero, List.getElem?_cons_succ, gres]
  iterate 2 (refine seqX_hide2 fun R hR => ?_; simp [go_sem, hw1, hm1, hm0, hmb, h3, h4, h5, h6, h7, h8, h9, xslice]; refine hR _ _ _ ?_; clear hR R)
  rw [seqX_nil]
  refine hK _ _ _ ?_; clear hK K
  refine hN4 _ _ _ ?_
  refine xc_iftrue (by simp [go_sem, hw1, hm1, hm0, hmb, h3, h4, h5, h6, h7, h8, h9, xslice]) ?_
  refine xc_two fun N5 hN5 => ?_
  rw [xc_draws]
  refine vdrawK [(0, true), (1, true), (2, true), (3, true), (4, true), (5, true), (6, true), (7, true), (8, true)] (ov A []) mixed (by kernel_rfl) (View.le_refl _) fun K hK => ?_
  simp only [rslv_cons, rslv_nil, List.getElem?_toArray, List.getElem?_cons_zero, List.getElem?_cons_succ, gres]
  iterate 9 (refine seqR_hide fun R hR => ?_; simp [go_sem, hw1, hm1, hm0, hmb, h3, h4, h5, h6, h7, h8, h9, xslice]; refine hR _ _ _ ?_; clear hR R)
  rw [seqR_nil]
  refine hK _ _ _ ?_; clear hK K
  refine hN5 _ _ _ ?_
  simp [go_sem, hw1, hm1, hm0, hmb, h3, h4, h5, h6, h7, h8, h9, xslice]
  rfl
set_option maxRecDepth 20000 in
theorem newRes37 (A : View) (g v k n m : ByteArray) (b : Bool) : VCalls Try.prog 37 #[.agg #[.string g, .string v, .string k, .bool b], .string n, .string m] A fun r A' => r = .agg #[.string g, .string v, .string k, .bool b, .string n, .string m] ∧ A ≤ A' := by
  refine xcalls Try.func37 rfl (by simp [Try.ntmps37]) ?_
  simp only [Try.f37]
  have hP : Priv A (addrs []) := Priv.nil A
  show xc _ _ _ _ _ _ (ov A [])
  refine xc_two fun N1 hN1 => ?_
  refine xc_reg1 2 rfl fun K hK => ?_
  simp only [show (List.range 2).map (·, true) = [(0, true), (1, true)] from rfl, rslv_cons, rslv_nil, List.getElem?_toArray, List.getElem?_cons_zero, List.getElem?_cons_succ, gres]
  refine seqX_hide2 fun R hR => ?_
  simp [go_sem]
  intro q3 hq3
  replace hP := hP.cons hq3
  clear hq3
  refine hR _ _ _ ?_; clear hR R
  refine seqX_hide2 fun R hR => ?_
  simp [go_sem]
  intro q6 hq6
  replace hP := hP.cons hq6
  clear hq6
  have d63 : q6 ≠ q3 := (hP.ne q3 (by simp [addrs])).1
  have d36 : q3 ≠ q6 := (hP.ne q3 (by simp [addrs])).2
  refine hR _ _ _ ?_; clear hR R
  rw [seqX_nil]
  refine hK _ _ _ ?_; clear hK K
  refine hN1 _ _ _ ?_
  refine xc_two fun N2 hN2 => ?_
  refine xc_reg1 5 rfl fun K hK => ?_
  simp only [show (List.range 5).map (·, true) = [(0, true), (1, true), (2, true), (3, true), (4, true)] from rfl, rslv_cons, rslv_nil, List.getElem?_toArray, List.getElem?_cons_zero, List.getElem?_cons_succ, gres]
  iterate 4 (refine seqX_hide2 fun R hR => ?_; simp [go_sem, d63, d36]; refine hR _ _ _ ?_; clear hR R)
  refine seqX_hide2 fun R hR => ?_
  simp [go_sem, d63, d36]
  refine hR _ _ _ ?_; clear hR R
  rw [seqX_nil]
  refine hK _ _ _ ?_; clear hK K
  refine hN2 _ _ _ ?_
  simp [go_sem, d63, d36]
  exact le_ov hP
/-- What a resource's tree must be like to be asked. -/
def RsOk (t : Tr) : Prop := t.kind ≠ 1 ∧ t.tag ≠ tNull ∧ t.kids.length % 2 = 0 ∧ t.kids.length ≤ 1000000 ∧ ∀ x, fld t.kids vMeta = some x → NE x ∧ x.kids.length % 2 = 0 ∧ x.kids.length ≤ 1000000 ∧ ∀ nm y, fld x.kids nm = some y → NE y
set_option maxRecDepth 20000 in
theorem fromR19 (A : View) (t : Tr) (q : Nat) (g v : ByteArray) (hq : IsRn A t q) (hok : RsOk t) (hgv : GVs g v (vof (fld t.kids vApi))) (hs : (vof (fld t.kids vApi)).size ≤ 1125899906842624) : VCalls Try.prog 19 #[ptr0 q] A fun r A' => r = .agg #[.string g, .string v, .string (vof (fld t.kids vKind)), .bool false, .string (vin (fld t.kids vMeta) vName), .string (vin (fld t.kids vMeta) vNs)] ∧ A ≤ A' := by
  obtain ⟨hk, ht, hev, hkl, hm⟩ := hok
  refine xcalls Try.func19 rfl (by simp [Try.ntmps19]) ?_
  simp only [Try.f19]
  have hP : Priv A (addrs []) := Priv.nil A
  show xc _ _ _ _ _ _ (ov A [])
  refine xc_two fun N1 hN1 => ?_
  refine xc_reg1 1 rfl fun K hK => ?_
  simp only [show (List.range 1).map (·, true) = [(0, true)] from rfl, rslv_cons, rslv_nil, List.getElem?_toArray, List.getElem?_cons_zero, List.getElem?_cons_succ, gres]
  refine seqX_hide2 fun R hR => ?_
  simp [go_sem]
  intro q2 hq2
  replace hP := hP.cons hq2
  clear hq2
  refine hR _ _ _ ?_; clear hR R
  rw [seqX_nil]
  refine hK _ _ _ ?_; clear hK K
  refine hN1 _ _ _ ?_
  refine xc_two fun N2 hN2 => ?_
  refine xc_reg1 8 rfl fun K hK => ?_
  simp only [show (List.range 8).map (·, true) = [(0, true), (1, true), (2, true), (3, true), (4, true), (5, true), (6, true), (7, true)] from rfl, rslv_cons, rslv_nil, List.getElem?_toArray, List.getElem?_cons_zero, List.getElem?_cons_succ, gres]
  (refine seqX_hide2 fun R hR => ?_; simp [go_sem]; refine hR _ _ _ ?_; clear hR R)
  refine seqX_hide2 fun R hR => ?_
  simp [go_sem]
  refine call_ov hP (api36 A t q hq hk hev hkl) ?_
  clear hP
  rintro _ A2 ⟨rfl, hA2⟩ hP
  refine hR _ _ _ ?_; clear hR R
  refine seqX_hide2 fun R hR => ?_
  simp [go_sem]
  refine call_same hP (parse35 A2 g v _ hgv hs) ?_
  rintro _ rfl
  refine hR _ _ _ ?_; clear hR R
  iterate 5 (refine seqX_hide2 fun R hR => ?_; simp [go_sem]; refine hR _ _ _ ?_; clear hR R)
  rw [seqX_nil]
  refine hK _ _ _ ?_; clear hK K
  refine hN2 _ _ _ ?_
  refine xc_two fun N3 hN3 => ?_
  refine xc_reg1 11 rfl fun K hK => ?_
  simp only [show (List.range 11).map (·, true) = [(0, true), (1, true), (2, true), (3, true), (4, true), (5, true), (6, true), (7, true), (8, true), (9, true), (10, true)] from rfl, rslv_cons, rslv_nil, List.getElem?_toArray, List.getElem?_cons_zero, List.getElem?_cons_succ, gres]
  iterate 3 (refine seqX_hide2 fun R hR => ?_; simp [go_sem]; refine hR _ _ _ ?_; clear hR R)
  refine seqX_hide2 fun R hR => ?_
  simp [go_sem]
  refine call_ov hP (kind38 A2 t q (hq.le hA2) hk hev hkl) ?_
  clear hP
  rintro _ A3 ⟨rfl, hA3⟩ hP
  refine hR _ _ _ ?_; clear hR R
  iterate 2 (refine seqX_hide2 fun R hR => ?_; simp [go_sem]; refine hR _ _ _ ?_; clear hR R)
  refine seqX_hide2 fun R hR => ?_
  simp [go_sem]
  refine call_ov hP (name39 A3 t q (hq.le (View.le_trans hA2 hA3)) hk ht hev hkl (fun x hx => ⟨(hm x hx).1, (hm x hx).2.1, (hm x hx).2.2.1, (hm x hx).2.2.2 vName⟩)) ?_
  clear hP
  rintro _ A4 ⟨rfl, hA4⟩ hP
  have hA4 := View.le_trans hA2 (View.le_trans hA3 hA4)
  refine hR _ _ _ ?_; clear hR R
  (refine seqX_hide2 fun R hR => ?_; simp [go_sem]; refine hR _ _ _ ?_; clear hR R)
  refine seqX_hide2 fun R hR => ?_
  simp [go_sem]
  refine call_ov hP (ns40 A4 t q (hq.le hA4) hk ht hev hkl (fun x hx => ⟨(hm x hx).1, (hm x hx).2.1, (hm x hx).2.2.1, (hm x hx).2.2.2 vNs⟩)) ?_
  clear hP
  rintro _ A5 ⟨rfl, hA5⟩ hP
  have hA5 := View.le_trans hA4 hA5
  refine hR _ _ _ ?_; clear hR R
  refine seqX_hide2 fun R hR => ?_
  simp [go_sem]
  refine call_ov hP (newRes37 A5 _ _ _ _ _ _) ?_
  clear hP
  rintro _ A6 ⟨rfl, hA6⟩ hP
  refine hR _ _ _ ?_; clear hR R
  refine seqX_hide2 fun R hR => ?_
  simp [go_sem]
  refine hR _ _ _ ?_; clear hR R
  rw [seqX_nil]
  refine hK _ _ _ ?_; clear hK K
  refine hN3 _ _ _ ?_
  simp [go_sem]
  exact View.le_trans hA5 (View.le_trans hA6 (le_ov hP))
theorem caught17 (p q : Addr) (w : World) :
    CallsD Try.prog 17 #[.pointer (some p), .pointer (some q)] .returning w fun e u' w' => (∃ v, e = .returned v) ∧ u' = .returning ∧ w' = w := by
  refine callsD_of_wpS Try.func17 rfl fun c₀ cs hu => ?_
  apply wpS_seq
  apply wpS_region
  simp [wpOpsS, go_sem, recoverD, hu, Try.ntmps17, Exit.thenS]
  refine wpS_cond (t := false) (by simp [Act.eval, Array.replicate]) ?_
  simp only [Bool.false_eq_true, if_false]
  refine wpS_of_wp (wp_skip ?_)
  cases c₀
  simp_all [bodyPostS, results, Try.results17]
set_option maxRecDepth 20000 in
theorem idOf7 (A : View) (t : Tr) (lv : Nat) (c : Array Value) (g v : ByteArray) (hc : IsTr A t c) (hpt : PT lv t) (hnd : nds t ≤ 400) (hlv : lv ≤ 40) (hok : RsOk t) (hgv : GVs g v (vof (fld t.kids vApi))) (hs : (vof (fld t.kids vApi)).size ≤ 1125899906842624) : VCalls Try.prog 7 #[.agg c] A fun r A' => r = .tuple #[.agg #[.string g, .string v, .string (vof (fld t.kids vKind)), .string (vin (fld t.kids vMeta) vName), .string (vin (fld t.kids vMeta) vNs)], .int .i64 0] ∧ A ≤ A' := by
  have hcz := hc.size
  have hco := hc.ones
  refine xcallsD Try.func7 rfl (by simp [Try.ntmps7]) ?_
  simp only [Try.f7]
  have hP : Priv A (addrs []) := Priv.nil A
  show xc _ _ _ _ _ _ (ov A [])
  refine xc_two fun N1 hN1 => ?_
  refine xc_reg1 3 rfl fun K hK => ?_
  simp only [show (List.range 3).map (·, true) = [(0, true), (1, true), (2, true)] from rfl, rslv_cons, rslv_nil, List.getElem?_toArray, List.getElem?_cons_zero, List.getElem?_cons_succ, gres]
  refine seqX_hide2 fun R hR => ?_
  simp [go_sem, hcz, hco]
  intro q1 hq1
  replace hP := hP.cons hq1
  clear hq1
  refine hR _ _ _ ?_; clear hR R
  refine seqX_hide2 fun R hR => ?_
  simp [go_sem, hcz, hco]
  intro q2 hq2
  replace hP := hP.cons hq2
  clear hq2
  have d21 : q2 ≠ q1 := (hP.ne q1 (by simp [addrs])).1
  have d12 : q1 ≠ q2 := (hP.ne q1 (by simp [addrs])).2
  refine hR _ _ _ ?_; clear hR R
  refine seqX_hide2 fun R hR => ?_
  simp [go_sem, hcz, hco, d21, d12]
  intro q3 hq3
  replace hP := hP.cons hq3
  clear hq3
  have d32 : q3 ≠ q2 := (hP.ne q2 (by simp [addrs])).1
  have d23 : q2 ≠ q3 := (hP.ne q2 (by simp [addrs])).2
  have d31 : q3 ≠ q1 := (hP.ne q1 (by simp [addrs])).1
  have d13 : q1 ≠ q3 := (hP.ne q1 (by simp [addrs])).2
  refine hR _ _ _ ?_; clear hR R
  rw [seqX_nil]
  refine hK _ _ _ ?_; clear hK K
  refine hN1 _ _ _ ?_
  refine xc_two fun N2 hN2 => ?_
  refine xc_reg1 2 rfl fun K hK => ?_
  simp only [show (List.range 2).map (·, true) = [(0, true), (1, true)] from rfl, rslv_cons, rslv_nil, List.getElem?_toArray, List.getElem?_cons_zero, List.getElem?_cons_succ, gres]
  (refine seqX_hide2 fun R hR => ?_; simp [go_sem, hcz, hco, d21, d12, d32, d23, d31, d13]; refine hR _ _ _ ?_; clear hR R)
  refine seqX_hide2 fun R hR => ?_
  simp [go_sem, hcz, hco, d21, d12, d32, d23, d31, d13, toDefer]
  refine hR _ _ _ ?_; clear hR R
  rw [seqX_nil]
  refine hK _ _ _ ?_; clear hK K
  refine hN2 _ _ _ ?_
  refine xc_two fun N3 hN3 => ?_
  refine xc_reg1 7 rfl fun K hK => ?_
  simp only [show (List.range 7).map (·, true) = [(0, true), (1, true), (2, true), (3, true), (4, true), (5, true), (6, true)] from rfl, rslv_cons, rslv_nil, List.getElem?_toArray, List.getElem?_cons_zero, List.getElem?_cons_succ, gres]
  (refine seqX_hide2 fun R hR => ?_; simp [go_sem, hcz, hco, d21, d12, d32, d23, d31, d13]; refine hR _ _ _ ?_; clear hR R)
  refine seqX_hide2 fun R hR => ?_
  simp [go_sem, hcz, hco, d21, d12, d32, d23, d31, d13]
  refine call_ov hP (rooted23 A t lv c hc hpt hnd hlv) ?_
  clear hP
  rintro _ A2 ⟨q, rfl, hq, hA2⟩ hP
  refine hR _ _ _ ?_; clear hR R
  iterate 5 (refine seqX_hide2 fun R hR => ?_; simp [go_sem, hcz, hco, d21, d12, d32, d23, d31, d13]; refine hR _ _ _ ?_; clear hR R)
  rw [seqX_nil]
  refine hK _ _ _ ?_; clear hK K
  refine hN3 _ _ _ ?_
  refine xc_two fun N4 hN4 => ?_
  refine xc_two fun N5 hN5 => ?_
  refine xc_reg1 2 rfl fun K hK => ?_
  simp only [show (List.range 2).map (·, true) = [(0, true), (1, true)] from rfl, rslv_cons, rslv_nil, List.getElem?_toArray, List.getElem?_cons_zero, List.getElem?_cons_succ, gres]
  iterate 2 (refine seqX_hide2 fun R hR => ?_; simp [go_sem, hcz, hco, d21, d12, d32, d23, d31, d13]; refine hR _ _ _ ?_; clear hR R)
  rw [seqX_nil]
  refine hK _ _ _ ?_; clear hK K
  refine hN5 _ _ _ ?_
  refine xc_iffalse (by simp [go_sem, hcz, hco, d21, d12, d32, d23, d31, d13]) ?_
  refine hN4 _ _ _ ?_
  refine xc_two fun N6 hN6 => ?_
  refine xc_reg1 4 rfl fun K hK => ?_
  simp only [show (List.range 4).map (·, true) = [(0, true), (1, true), (2, true), (3, true)] from rfl, rslv_cons, rslv_nil, List.getElem?_toArray, List.getElem?_cons_zero, List.getElem?_cons_succ, gres]
  (refine seqX_hide2 fun R hR => ?_; simp [go_sem, hcz, hco, d21, d12, d32, d23, d31, d13]; refine hR _ _ _ ?_; clear hR R)
  refine seqX_hide2 fun R hR => ?_
  simp [go_sem, hcz, hco, d21, d12, d32, d23, d31, d13]
  refine call_ov hP (fromR19 A2 t q g v hq hok hgv hs) ?_
  clear hP
  rintro _ A3 ⟨rfl, hA3⟩ hP
  have hidle : Idle Try.prog { target := .fn (.func 17) #[.pointer (some ⟨q2, 0, none⟩), .pointer (some ⟨q3, 0, none⟩)], args := #[] } := by
    intro w'
    exact ⟨_, _, 17, #[.pointer (some ⟨q2, 0, none⟩), .pointer (some ⟨q3, 0, none⟩)], rfl, by simp [go_sem, invoke], caught17 _ _ _⟩
  refine hR _ _ _ ?_; clear hR R
  refine seqX_hide2 fun R hR => ?_
  simp [go_sem, hcz, hco, d21, d12, d32, d23, d31, d13]
  intro q6 hq6
  replace hP := hP.cons hq6
  clear hq6
  have d63 : q6 ≠ q3 := (hP.ne q3 (by simp [addrs])).1
  have d36 : q3 ≠ q6 := (hP.ne q3 (by simp [addrs])).2
  have d62 : q6 ≠ q2 := (hP.ne q2 (by simp [addrs])).1
  have d26 : q2 ≠ q6 := (hP.ne q2 (by simp [addrs])).2
  have d61 : q6 ≠ q1 := (hP.ne q1 (by simp [addrs])).1
  have d16 : q1 ≠ q6 := (hP.ne q1 (by simp [addrs])).2
  refine hR _ _ _ ?_; clear hR R
  refine seqX_hide2 fun R hR => ?_
  simp [go_sem, hcz, hco, d21, d12, d32, d23, d31, d13, d63, d36, d62, d26, d61, d16]
  refine hR _ _ _ ?_; clear hR R
  rw [seqX_nil]
  refine hK _ _ _ ?_; clear hK K
  refine hN6 _ _ _ ?_
  refine xc_two fun N7 hN7 => ?_
  refine xc_reg1 16 rfl fun K hK => ?_
  simp only [show (List.range 16).map (·, true) = [(0, true), (1, true), (2, true), (3, true), (4, true), (5, true), (6, true), (7, true), (8, true), (9, true), (10, true), (11, true), (12, true), (13, true), (14, true), (15, true)] from rfl, rslv_cons, rslv_nil, List.getElem?_toArray, List.getElem?_cons_zero, List.getElem?_cons_succ, gres]
  iterate 14 (refine seqX_hide2 fun R hR => ?_; simp [go_sem, hcz, hco, d21, d12, d32, d23, d31, d13, d63, d36, d62, d26, d61, d16]; refine hR _ _ _ ?_; clear hR R)
  refine seqX_hide2 fun R hR => ?_
  simp [go_sem, hcz, hco, d21, d12, d32, d23, d31, d13, d63, d36, d62, d26, d61, d16]
  refine hR _ _ _ ?_; clear hR R
  refine seqX_hide2 fun R hR => ?_
  simp [go_sem, hcz, hco, d21, d12, d32, d23, d31, d13, d63, d36, d62, d26, d61, d16]
  refine hR _ _ _ ?_; clear hR R
  rw [seqX_nil]
  refine hK _ _ _ ?_; clear hK K
  refine hN7 _ _ _ ?_
  simp [go_sem, hcz, hco, d21, d12, d32, d23, d31, d13, d63, d36, d62, d26, d61, d16]
  refine ⟨hidle, View.le_trans hA2 (View.le_trans hA3 ?_)⟩
  exact le_ov hP
end Go.Proofs.YthjbgpmcfcijgaaV

/- Trees: YNode, Content, what stands behind a key, nothing there. -/
import Derived.Test.YtpinamipjddobaaKH
namespace Go.Proofs.YtpinamipjddobaaV
open Go.RowKit
set_option linter.unusedSimpArgs false
set_option linter.unusedVariables false
abbrev rnc (p : Nat) : Array Value := #[.slice none 0 0, ptr0 p, .bool false, .slice none 0 0]
set_option maxRecDepth 20000 in
theorem ynode48 (A : View) (q p : Nat) (k st : Int) (tag val an : ByteArray) (cv : Value) (h l f : ByteArray) (row col : Int) (hq : A q = some (.cells (rnc p) 111 (0, 0))) (hp : A p = some (.cells (ync k st tag val an cv h l f row col) 114 (0, 0))) (hk : k ≠ 1) :
    VCalls Try.prog 87 #[ptr0 q] A fun r A' => r = ptr0 p ∧ A' = A := by
  have c1 := cell_of (i := 1) hq rfl
  have c0 := cell_of (i := 0) hp rfl
  have hkb : (k == 1) = false := beq_eq_false_iff_ne.2 hk
  refine xcalls Try.func87 rfl (by simp [Try.ntmps87]) ?_
  simp only [Try.f87]
  have hP : Priv A (addrs []) := Priv.nil A
  show xc _ _ _ _ _ _ (ov A [])
  refine xc_two fun N1 hN1 => ?_
  refine xc_reg2 fun K hK => ?_
  simp only [rall, rsl, gres]
  (refine seqX_hide2 fun R hR => ?_; simp [go_sem, bc hP c1, bc hP c0, hkb, hk]; refine hR _ _ _ ?_; clear hR R)
  rw [seqX_nil]
  refine hK _ _ _ ?_; clear hK K
  refine hN1 _ _ _ ?_
  refine xc_two fun N2 hN2 => ?_
  refine xc_two fun N3 hN3 => ?_
  refine xc_reg2 fun K hK => ?_
  simp only [rall, rsl, gres]
  iterate 9 (refine seqX_hide2 fun R hR => ?_; simp [go_sem, bc hP c1, bc hP c0, hkb, hk]; refine hR _ _ _ ?_; clear hR R)
  rw [seqX_nil]
  refine hK _ _ _ ?_; clear hK K
  refine hN3 _ _ _ ?_
  refine xc_iffalse (by simp [go_sem, bc hP c1, bc hP c0, hkb, hk]) ?_
  refine hN2 _ _ _ ?_
  refine xc_two fun N4 hN4 => ?_
  refine xc_two fun N5 hN5 => ?_
  refine xc_reg2 fun K hK => ?_
  simp only [rall, rsl, gres]
  iterate 8 (refine seqX_hide2 fun R hR => ?_; simp [go_sem, bc hP c1, bc hP c0, hkb, hk]; refine hR _ _ _ ?_; clear hR R)
  rw [seqX_nil]
  refine hK _ _ _ ?_; clear hK K
  refine hN5 _ _ _ ?_
  refine xc_iffalse (by simp [go_sem, bc hP c1, bc hP c0, hkb, hk]) ?_
  refine hN4 _ _ _ ?_
  refine xc_two fun N6 hN6 => ?_
  refine xc_reg2 fun K hK => ?_
  simp only [rall, rsl, gres]
  iterate 5 (refine seqX_hide2 fun R hR => ?_; simp [go_sem, bc hP c1, bc hP c0, hkb, hk]; refine hR _ _ _ ?_; clear hR R)
  rw [seqX_nil]
  refine hK _ _ _ ?_; clear hK K
  refine hN6 _ _ _ ?_
  simp [go_sem, bc hP c1, bc hP c0, hkb, hk]
  rfl
set_option maxRecDepth 20000 in
theorem content36 (A : View) (q p : Nat) (k st : Int) (tag val an : ByteArray) (cv : Value) (h l f : ByteArray) (row col : Int) (hq : A q = some (.cells (rnc p) 111 (0, 0))) (hp : A p = some (.cells (ync k st tag val an cv h l f row col) 114 (0, 0))) (hk : k ≠ 1) :
    VCalls Try.prog 81 #[ptr0 q] A fun r A' => r = cv ∧ A' = A := by
  have c6 := cell_of (i := 6) hp rfl
  refine xcalls Try.func81 rfl (by simp [Try.ntmps81]) ?_
  simp only [Try.f81]
  have hP : Priv A (addrs []) := Priv.nil A
  show xc _ _ _ _ _ _ (ov A [])
  refine xc_two fun N1 hN1 => ?_
  refine xc_reg2 fun K hK => ?_
  simp only [rall, rsl, gres]
  (refine seqX_hide2 fun R hR => ?_; simp [go_sem, bc hP c6]; refine hR _ _ _ ?_; clear hR R)
  rw [seqX_nil]
  refine hK _ _ _ ?_; clear hK K
  refine hN1 _ _ _ ?_
  refine xc_two fun N2 hN2 => ?_
  refine xc_reg2 fun K hK => ?_
  simp only [rall, rsl, gres]
  (refine seqX_hide2 fun R hR => ?_; simp [go_sem, bc hP c6]; refine hR _ _ _ ?_; clear hR R)
  refine seqX_hide2 fun R hR => ?_
  simp [go_sem, bc hP c6]
  refine call_same hP (ynode48 A q p k st tag val an cv h l f row col hq hp hk) ?_
  rintro _ rfl
  refine hR _ _ _ ?_; clear hR R
  (refine seqX_hide2 fun R hR => ?_; simp [go_sem, bc hP c6]; refine hR _ _ _ ?_; clear hR R)
  rw [seqX_nil]
  refine hK _ _ _ ?_; clear hK K
  refine hN2 _ _ _ ?_
  refine xc_two fun N3 hN3 => ?_
  refine xc_two fun N4 hN4 => ?_
  refine xc_reg2 fun K hK => ?_
  simp only [rall, rsl, gres]
  iterate 2 (refine seqX_hide2 fun R hR => ?_; simp [go_sem, bc hP c6]; refine hR _ _ _ ?_; clear hR R)
  rw [seqX_nil]
  refine hK _ _ _ ?_; clear hK K
  refine hN4 _ _ _ ?_
  refine xc_iffalse (by simp [go_sem, bc hP c6]) ?_
  refine hN3 _ _ _ ?_
  refine xc_two fun N5 hN5 => ?_
  refine xc_reg2 fun K hK => ?_
  simp only [rall, rsl, gres]
  iterate 5 (refine seqX_hide2 fun R hR => ?_; simp [go_sem, bc hP c6]; refine hR _ _ _ ?_; clear hR R)
  rw [seqX_nil]
  refine hK _ _ _ ?_; clear hK K
  refine hN5 _ _ _ ?_
  simp [go_sem, bc hP c6]
  rfl
theorem bytes_ne {s t : ByteArray} (h : s ≠ t) : ¬ s.toList = t.toList := fun e => h ((Lib.bytes_beq_iff s t).1 (by rw [e]; simp))
theorem Tr.ex : ∀ t : Tr, ∃ k st tag val an h l f row col al kk, t = Tr.mk k st tag val an h l f row col al kk
  | .mk k st tag val an h l f row col al kk => ⟨k, st, tag, val, an, h, l, f, row, col, al, kk, rfl⟩
/-- The value that stands behind a key. -/
def fld : List Tr → ByteArray → Option Tr
  | a :: b :: l, s => if s = a.value then some b else fld l s
  | _, _ => none
theorem fld_step {l : List Tr} {i : Nat} (h : i + 1 < l.length) (s : ByteArray) : fld (l.drop i) s = if s = (l[i]).value then some l[i+1] else fld (l.drop (i + 2)) s := by
  rw [List.drop_eq_getElem_cons (by omega), List.drop_eq_getElem_cons (i := i + 1) h, fld]
theorem fld_end {l : List Tr} {i : Nat} (h : l.length ≤ i) (s : ByteArray) : fld (l.drop i) s = none := by
  rw [List.drop_eq_nil_of_le h, fld]
  simp
theorem set_mono {A B : View} (h : A ≤ B) (b : Nat) (o : Obj) : A.set b o ≤ B.set b o := fun k x hk => by
  by_cases hb : k = b
  · subst hb; rw [set_at] at hk ⊢; exact hk
  · rw [set_other hb] at hk ⊢; exact h _ _ hk
/-- What Field finds. -/
def fldOf (t : Tr) (nm : ByteArray) : Option Tr := if t.kind = 4 then fld t.kids nm else none
def vName : ByteArray := ⟨#[110, 97, 109, 101]⟩
theorem beq_dec {s t : ByteArray} {l : List UInt8} (h : t.toList = l) : (s.toList == l) = decide (s = t) := by
  by_cases hs : s = t
  · subst hs
    rw [h]
    simp
  · rw [decide_eq_false hs, beq_eq_false_iff_ne, ← h]
    exact bytes_ne hs
set_option maxRecDepth 20000 in
theorem isNil52 (A : View) (t : Tr) (q : Nat) (hq : IsRn A t q) (hk : t.kind ≠ 1) : VCalls Try.prog 93 #[ptr0 q] A fun r A' => r = .bool false ∧ A' = A := by
  obtain ⟨p, hq, hy⟩ := hq
  obtain ⟨k, st, tag, val, an, h, l, f, row, col, al, kids, rfl⟩ := t.ex
  obtain ⟨cv, ps, hp, hrow, hpl, hyk⟩ := hy.open
  refine xcalls Try.func93 rfl (by simp [Try.ntmps93]) ?_
  simp only [Try.f93]
  have hP : Priv A (addrs []) := Priv.nil A
  show xc _ _ _ _ _ _ (ov A [])
  refine xc_two fun N1 hN1 => ?_
  refine xc_reg2 fun K hK => ?_
  simp only [rall, rsl, gres]
  (refine seqX_hide2 fun R hR => ?_; simp [go_sem]; refine hR _ _ _ ?_; clear hR R)
  rw [seqX_nil]
  refine hK _ _ _ ?_; clear hK K
  refine hN1 _ _ _ ?_
  refine xc_two fun N2 hN2 => ?_
  refine xc_reg2 fun K hK => ?_
  simp only [rall, rsl, gres]
  iterate 4 (refine seqX_hide2 fun R hR => ?_; simp [go_sem]; refine hR _ _ _ ?_; clear hR R)
  refine seqX_hide2 fun R hR => ?_
  simp [go_sem]
  refine call_same hP (ynode48 A q p k st tag val an cv h l f row col hq hp hk) ?_
  rintro _ rfl
  refine hR _ _ _ ?_; clear hR R
  iterate 3 (refine seqX_hide2 fun R hR => ?_; simp [go_sem]; refine hR _ _ _ ?_; clear hR R)
  rw [seqX_nil]
  refine hK _ _ _ ?_; clear hK K
  refine hN2 _ _ _ ?_
  simp [go_sem]
  rfl
set_option maxRecDepth 20000 in
theorem missing39 (A : View) (t : Tr) (q : Nat) (hq : IsRn A t q) (hk : t.kind ≠ 1) : VCalls Try.prog 86 #[ptr0 q] A fun r A' => r = .bool (decide (t.tag = tNull)) ∧ A' = A := by
  have hq0 := hq
  obtain ⟨p, hq, hy⟩ := hq
  obtain ⟨k, st, tag, val, an, h, l, f, row, col, al, kids, rfl⟩ := t.ex
  obtain ⟨cv, ps, hp, hrow, hpl, hyk⟩ := hy.open
  have c2 := cell_of (i := 2) hp rfl
  refine xcalls Try.func86 rfl (by simp [Try.ntmps86]) ?_
  simp only [Try.f86]
  have hP : Priv A (addrs []) := Priv.nil A
  show xc _ _ _ _ _ _ (ov A [])
  refine xc_two fun N1 hN1 => ?_
  refine xc_reg2 fun K hK => ?_
  simp only [rall, rsl, gres]
  (refine seqX_hide2 fun R hR => ?_; simp [go_sem]; refine hR _ _ _ ?_; clear hR R)
  rw [seqX_nil]
  refine hK _ _ _ ?_; clear hK K
  refine hN1 _ _ _ ?_
  refine xc_two fun N2 hN2 => ?_
  refine xc_reg2 fun K hK => ?_
  simp only [rall, rsl, gres]
  (refine seqX_hide2 fun R hR => ?_; simp [go_sem]; refine hR _ _ _ ?_; clear hR R)
  refine seqX_hide2 fun R hR => ?_
  simp [go_sem]
  refine call_same hP (isNil52 A _ q hq0 hk) ?_
  rintro _ rfl
  refine hR _ _ _ ?_; clear hR R
  iterate 2 (refine seqX_hide2 fun R hR => ?_; simp [go_sem, bc hP c2]; refine hR _ _ _ ?_; clear hR R)
  refine seqX_hide2 fun R hR => ?_
  simp [go_sem, bc hP c2]
  refine call_same hP (ynode48 A q p k st tag val an cv h l f row col hq hp hk) ?_
  rintro _ rfl
  refine hR _ _ _ ?_; clear hR R
  iterate 6 (refine seqX_hide2 fun R hR => ?_; simp [go_sem, bc hP c2]; refine hR _ _ _ ?_; clear hR R)
  rw [seqX_nil]
  refine hK _ _ _ ?_; clear hK K
  refine hN2 _ _ _ ?_
  simp [go_sem, bc hP c2]
  exact ⟨beq_dec (by kernel_rfl), rfl⟩
end Go.Proofs.YtpinamipjddobaaV

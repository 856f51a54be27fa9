/- Trees: a handle without a node; lists of nodes. -/
import Derived.Test.YtpinamipjddobaaSA
namespace Go.Proofs.YtpinamipjddobaaV
open Go.RowKit
set_option linter.unusedSimpArgs false
set_option linter.unusedVariables false
set_option maxRecDepth 20000 in
theorem newRNil (A : View) : VCalls Try.prog 73 #[.pointer none] A fun r A' => ∃ q, r = ptr0 q ∧ A' q = some (.cells #[.slice none 0 0, .pointer none, .bool false, .slice none 0 0] 111 (0, 0)) ∧ A ≤ A' := by
  refine xcalls Try.func73 rfl (by simp [Try.ntmps73]) ?_
  simp only [Try.f73]
  have hP : Priv A (addrs []) := Priv.nil A
  show xc _ _ _ _ _ _ (ov A [])
  refine xc_two fun N1 hN1 => ?_
  refine xc_reg2 fun K hK => ?_
  simp only [rall, rsl, gres]
  (refine seqX_hide2 fun R hR => ?_; simp [go_sem]; refine hR _ _ _ ?_; clear hR R)
  rw [seqX_nil]
  refine hK _ _ _ ?_; clear hK K
  refine hN1 _ _ _ ?_
  refine xc_two fun N2 hN2 => ?_
  refine xc_reg2 fun K hK => ?_
  simp only [rall, rsl, gres]
  iterate 2 (refine seqX_hide2 fun R hR => ?_; simp [go_sem]; refine hR _ _ _ ?_; clear hR R)
  refine seqX_hide2 fun R hR => ?_
  simp [go_sem]
  intro q5 hq5
  replace hP := hP.cons hq5
  clear hq5
  refine hR _ _ _ ?_; clear hR R
  (refine seqX_hide2 fun R hR => ?_; simp [go_sem]; refine hR _ _ _ ?_; clear hR R)
  rw [seqX_nil]
  refine hK _ _ _ ?_; clear hK K
  refine hN2 _ _ _ ?_
  simp [go_sem]
  exact le_ov hP
set_option maxRecDepth 20000 in
theorem ynodeNil (A : View) (q : Nat) (hq : A q = some (.cells #[.slice none 0 0, .pointer none, .bool false, .slice none 0 0] 111 (0, 0))) : VCalls Try.prog 87 #[ptr0 q] A fun r A' => r = .pointer none ∧ A' = A := by
  have c1 := cell_of (i := 1) hq rfl
  refine xcalls Try.func87 rfl (by simp [Try.ntmps87]) ?_
  simp only [Try.f87]
  have hP : Priv A (addrs []) := Priv.nil A
  show xc _ _ _ _ _ _ (ov A [])
  refine xc_two fun N1 hN1 => ?_
  refine xc_reg2 fun K hK => ?_
  simp only [rall, rsl, gres]
  (refine seqX_hide2 fun R hR => ?_; simp [go_sem, bc hP c1]; refine hR _ _ _ ?_; clear hR R)
  rw [seqX_nil]
  refine hK _ _ _ ?_; clear hK K
  refine hN1 _ _ _ ?_
  refine xc_two fun N2 hN2 => ?_
  refine xc_two fun N3 hN3 => ?_
  refine xc_reg2 fun K hK => ?_
  simp only [rall, rsl, gres]
  iterate 9 (refine seqX_hide2 fun R hR => ?_; simp [go_sem, bc hP c1]; refine hR _ _ _ ?_; clear hR R)
  rw [seqX_nil]
  refine hK _ _ _ ?_; clear hK K
  refine hN3 _ _ _ ?_
  refine xc_iftrue (by simp [go_sem, bc hP c1]) ?_
  refine xc_two fun N4 hN4 => ?_
  refine xc_reg2 fun K hK => ?_
  simp only [rall, rsl, gres]
  (refine seqX_hide2 fun R hR => ?_; simp [go_sem, bc hP c1]; refine hR _ _ _ ?_; clear hR R)
  rw [seqX_nil]
  refine hK _ _ _ ?_; clear hK K
  refine hN4 _ _ _ ?_
  simp [go_sem, bc hP c1]
  rfl
set_option maxRecDepth 20000 in
theorem isNilNil (A : View) (q : Nat) (hq : A q = some (.cells #[.slice none 0 0, .pointer none, .bool false, .slice none 0 0] 111 (0, 0))) : VCalls Try.prog 93 #[ptr0 q] A fun r A' => r = .bool true ∧ A' = A := by
  refine xcalls Try.func93 rfl (by simp [Try.ntmps93]) ?_
  simp only [Try.f93]
  have hP : Priv A (addrs []) := Priv.nil A
  show xc _ _ _ _ _ _ (ov A [])
  refine xc_two fun N1 hN1 => ?_
  refine xc_reg2 fun K hK => ?_
  simp only [rall, rsl, gres]
  (refine seqX_hide2 fun R hR => ?_; simp [go_sem]; refine hR _ _ _ ?_; clear hR R)
  rw [seqX_nil]
  refine hK _ _ _ ?_; clear hK K
  refine hN1 _ _ _ ?_
  refine xc_two fun N2 hN2 => ?_
  refine xc_reg2 fun K hK => ?_
  simp only [rall, rsl, gres]
  iterate 4 (refine seqX_hide2 fun R hR => ?_; simp [go_sem]; refine hR _ _ _ ?_; clear hR R)
  refine seqX_hide2 fun R hR => ?_
  simp [go_sem]
  refine call_same hP (ynodeNil A q hq) ?_
  rintro _ rfl
  refine hR _ _ _ ?_; clear hR R
  iterate 3 (refine seqX_hide2 fun R hR => ?_; simp [go_sem]; refine hR _ _ _ ?_; clear hR R)
  rw [seqX_nil]
  refine hK _ _ _ ?_; clear hK K
  refine hN2 _ _ _ ?_
  simp [go_sem]
  rfl
set_option maxRecDepth 20000 in
theorem missNil (A : View) (q : Nat) (hq : A q = some (.cells #[.slice none 0 0, .pointer none, .bool false, .slice none 0 0] 111 (0, 0))) : VCalls Try.prog 86 #[ptr0 q] A fun r A' => r = .bool true ∧ A' = A := by
  refine xcalls Try.func86 rfl (by simp [Try.ntmps86]) ?_
  simp only [Try.f86]
  have hP : Priv A (addrs []) := Priv.nil A
  show xc _ _ _ _ _ _ (ov A [])
  refine xc_two fun N1 hN1 => ?_
  refine xc_reg2 fun K hK => ?_
  simp only [rall, rsl, gres]
  (refine seqX_hide2 fun R hR => ?_; simp [go_sem]; refine hR _ _ _ ?_; clear hR R)
  rw [seqX_nil]
  refine hK _ _ _ ?_; clear hK K
  refine hN1 _ _ _ ?_
  refine xc_two fun N2 hN2 => ?_
  refine xc_reg2 fun K hK => ?_
  simp only [rall, rsl, gres]
  (refine seqX_hide2 fun R hR => ?_; simp [go_sem]; refine hR _ _ _ ?_; clear hR R)
  refine seqX_hide2 fun R hR => ?_
  simp [go_sem]
  refine call_same hP (isNilNil A q hq) ?_
  rintro _ rfl
  refine hR _ _ _ ?_; clear hR R
  iterate 2 (refine seqX_hide2 fun R hR => ?_; simp [go_sem]; refine hR _ _ _ ?_; clear hR R)
  refine seqX_hide2 fun R hR => ?_
  simp [go_sem]
  refine hR _ _ _ ?_; clear hR R
  iterate 6 (refine seqX_hide2 fun R hR => ?_; simp [go_sem]; refine hR _ _ _ ?_; clear hR R)
  rw [seqX_nil]
  refine hK _ _ _ ?_; clear hK K
  refine hN2 _ _ _ ?_
  simp [go_sem]
  rfl
/-- Nodes of trees. -/
def YL (A : View) (l : List Tr) (ps : List Nat) : Prop := ps.length = l.length ∧ ∀ j (hj : j < l.length), ∃ q, ps[j]? = some q ∧ IsYn A (l[j]) q
theorem YL.nil (A : View) : YL A [] [] := ⟨rfl, fun j hj => absurd hj (Nat.not_lt_zero _)⟩
theorem YL.one {A : View} {x : Tr} {p : Nat} (h : IsYn A x p) : YL A [x] [p] := ⟨rfl, fun j hj => by
  obtain rfl : j = 0 := by simp at hj; omega
  exact ⟨p, rfl, h⟩⟩
theorem YL.app {A : View} {l m : List Tr} {ps qs : List Nat} (h : YL A l ps) (h2 : YL A m qs) : YL A (l ++ m) (ps ++ qs) := by
  refine ⟨by rw [List.length_append, List.length_append, h.1, h2.1], fun j hj => ?_⟩
  have hl := h.1
  by_cases h1 : j < l.length
  · obtain ⟨q, k1, k2⟩ := h.2 j h1
    exact ⟨q, by rw [List.getElem?_append_left (by omega)]; exact k1, by rw [List.getElem_append_left h1]; exact k2⟩
  · have hj2 : j - l.length < m.length := by rw [List.length_append] at hj; omega
    obtain ⟨q, k1, k2⟩ := h2.2 (j - l.length) hj2
    exact ⟨q, by rw [List.getElem?_append_right (by omega), hl]; exact k1, by rw [List.getElem_append_right (by omega)]; exact k2⟩
theorem YL.le {A B : View} (h : A ≤ B) {l : List Tr} {ps : List Nat} (e : YL A l ps) : YL B l ps := ⟨e.1, fun j hj => let ⟨q, k1, k2⟩ := e.2 j hj; ⟨q, k1, k2.le h⟩⟩
/-- All elements that fit are another one, or gone. -/
def setT (f : Tr → Bool) (e : List Tr) (l : List Tr) : List Tr := l.flatMap fun x => if f x then e else [x]
theorem setT_step (f : Tr → Bool) (e l : List Tr) {i : Nat} (hi : i < l.length) : setT f e (l.take (i + 1)) = setT f e (l.take i) ++ (if f l[i] then e else [l[i]]) := by
  rw [List.take_succ_eq_append_getElem hi, setT, setT, List.flatMap_append]
  simp
/-- A mapping whose fields have such values. -/
def fitM (x : Tr) : List ByteArray → List ByteArray → Bool
  | k :: ks, v :: vs => (mfl x.kids k v).isSome && fitM x ks vs
  | _, _ => true
theorem fitM_step {x : Tr} {ks vs : List ByteArray} {i : Nat} (h1 : i < ks.length) (h2 : i < vs.length) : fitM x (ks.drop i) (vs.drop i) = ((mfl x.kids ks[i] vs[i]).isSome && fitM x (ks.drop (i + 1)) (vs.drop (i + 1))) := by
  rw [List.drop_eq_getElem_cons h1, List.drop_eq_getElem_cons h2, fitM]
theorem fitM_end {x : Tr} {ks vs : List ByteArray} {i : Nat} (h1 : ks.length ≤ i) : fitM x (ks.drop i) (vs.drop i) = true := by
  rw [List.drop_eq_nil_of_le h1, fitM]
  simp
end Go.Proofs.YtpinamipjddobaaV

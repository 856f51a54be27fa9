/- Trees: YNode, Content, the closures of Field. -/
import Derived.Test.YthjbgpmcfcijgaaDoorKH
namespace Go.Proofs.YthjbgpmcfcijgaaDoorV
open Go.RowKit
set_option linter.unusedSimpArgs false
set_option linter.unusedVariables false
abbrev rnc (p : Nat) : Array Value := #[.slice none 0 0, ptr0 p, .bool false, .slice none 0 0]
set_option maxRecDepth 20000 in
theorem ynode48 (A : View) (q p : Nat) (k st : Int) (tag val an : ByteArray) (cv : Value) (h l f : ByteArray) (row col : Int) (hq : A q = some (.cells (rnc p) 97 (0, 0))) (hp : A p = some (.cells (ync k st tag val an cv h l f row col) 107 (0, 0))) (hk : k ≠ 1) :
    VCalls Tryd.prog 48 #[ptr0 q] A fun r A' => r = ptr0 p ∧ A' = A := by
  have c1 := cell_of (i := 1) hq rfl
  have c0 := cell_of (i := 0) hp rfl
  have hkb : (k == 1) = false := beq_eq_false_iff_ne.2 hk
  refine xcalls Tryd.func48 rfl (by simp [Tryd.ntmps48]) ?_
  simp only [Tryd.f48]
  have hP : Priv A (addrs []) := Priv.nil A
  show xc _ _ _ _ _ _ (ov A [])
  refine xc_two fun N1 hN1 => ?_
  refine xc_reg1 1 rfl fun K hK => ?_
  simp only [show (List.range 1).map (·, true) = [(0, true)] from rfl, rslv_cons, rslv_nil, List.getElem?_toArray, List.getElem?_cons_zero, List.getElem?_cons_succ, gres]
  (refine seqX_hide2 fun R hR => ?_; simp [go_sem, bc hP c1, bc hP c0, hkb, hk]; refine hR _ _ _ ?_; clear hR R)
  rw [seqX_nil]
  refine hK _ _ _ ?_; clear hK K
  refine hN1 _ _ _ ?_
  refine xc_two fun N2 hN2 => ?_
  refine xc_two fun N3 hN3 => ?_
  refine xc_reg1 9 rfl fun K hK => ?_
  simp only [show (List.range 9).map (·, true) = [(0, true), (1, true), (2, true), (3, true), (4, true), (5, true), (6, true), (7, true), (8, true)] from rfl, rslv_cons, rslv_nil, List.getElem?_toArray, List.getElem?_cons_zero, List.getElem?_cons_succ, gres]
  iterate 9 (refine seqX_hide2 fun R hR => ?_; simp [go_sem, bc hP c1, bc hP c0, hkb, hk]; refine hR _ _ _ ?_; clear hR R)
  rw [seqX_nil]
  refine hK _ _ _ ?_; clear hK K
  refine hN3 _ _ _ ?_
  refine xc_iffalse (by simp [go_sem, bc hP c1, bc hP c0, hkb, hk]) ?_
  refine hN2 _ _ _ ?_
  refine xc_two fun N4 hN4 => ?_
  refine xc_two fun N5 hN5 => ?_
  refine xc_reg1 8 rfl fun K hK => ?_
  simp only [show (List.range 8).map (·, true) = [(0, true), (1, true), (2, true), (3, true), (4, true), (5, true), (6, true), (7, true)] from rfl, rslv_cons, rslv_nil, List.getElem?_toArray, List.getElem?_cons_zero, List.getElem?_cons_succ, gres]
  iterate 8 (refine seqX_hide2 fun R hR => ?_; simp [go_sem, bc hP c1, bc hP c0, hkb, hk]; refine hR _ _ _ ?_; clear hR R)
  rw [seqX_nil]
  refine hK _ _ _ ?_; clear hK K
  refine hN5 _ _ _ ?_
  refine xc_iffalse (by simp [go_sem, bc hP c1, bc hP c0, hkb, hk]) ?_
  refine hN4 _ _ _ ?_
  refine xc_two fun N6 hN6 => ?_
  refine xc_reg1 5 rfl fun K hK => ?_
  simp only [show (List.range 5).map (·, true) = [(0, true), (1, true), (2, true), (3, true), (4, true)] from rfl, rslv_cons, rslv_nil, List.getElem?_toArray, List.getElem?_cons_zero, List.getElem?_cons_succ, gres]
  iterate 5 (refine seqX_hide2 fun R hR => ?_; simp [go_sem, bc hP c1, bc hP c0, hkb, hk]; refine hR _ _ _ ?_; clear hR R)
  rw [seqX_nil]
  refine hK _ _ _ ?_; clear hK K
  refine hN6 _ _ _ ?_
  simp [go_sem, bc hP c1, bc hP c0, hkb, hk]
  rfl
set_option maxRecDepth 20000 in
theorem content36 (A : View) (q p : Nat) (k st : Int) (tag val an : ByteArray) (cv : Value) (h l f : ByteArray) (row col : Int) (hq : A q = some (.cells (rnc p) 97 (0, 0))) (hp : A p = some (.cells (ync k st tag val an cv h l f row col) 107 (0, 0))) (hk : k ≠ 1) :
    VCalls Tryd.prog 36 #[ptr0 q] A fun r A' => r = cv ∧ A' = A := by
  have c6 := cell_of (i := 6) hp rfl
  refine xcalls Tryd.func36 rfl (by simp [Tryd.ntmps36]) ?_
  simp only [Tryd.f36]
  have hP : Priv A (addrs []) := Priv.nil A
  show xc _ _ _ _ _ _ (ov A [])
  refine xc_two fun N1 hN1 => ?_
  refine xc_reg1 1 rfl fun K hK => ?_
  simp only [show (List.range 1).map (·, true) = [(0, true)] from rfl, rslv_cons, rslv_nil, List.getElem?_toArray, List.getElem?_cons_zero, List.getElem?_cons_succ, gres]
  (refine seqX_hide2 fun R hR => ?_; simp [go_sem, bc hP c6]; refine hR _ _ _ ?_; clear hR R)
  rw [seqX_nil]
  refine hK _ _ _ ?_; clear hK K
  refine hN1 _ _ _ ?_
  refine xc_two fun N2 hN2 => ?_
  refine xc_reg1 3 rfl fun K hK => ?_
  simp only [show (List.range 3).map (·, true) = [(0, true), (1, true), (2, true)] from rfl, rslv_cons, rslv_nil, List.getElem?_toArray, List.getElem?_cons_zero, List.getElem?_cons_succ, gres]
  (refine seqX_hide2 fun R hR => ?_; simp [go_sem, bc hP c6]; refine hR _ _ _ ?_; clear hR R)
  refine seqX_hide2 fun R hR => ?_
  simp [go_sem, bc hP c6]
  refine call_same hP (ynode48 A q p k st tag val an cv h l f row col hq hp hk) ?_
  rintro _ rfl
  refine hR _ _ _ ?_; clear hR R
  (refine seqX_hide2 fun R hR => ?_; simp [go_sem, bc hP c6]; refine hR _ _ _ ?_; clear hR R)
  rw [seqX_nil]
  refine hK _ _ _ ?_; clear hK K
  refine hN2 _ _ _ ?_
  refine xc_two fun N3 hN3 => ?_
  refine xc_two fun N4 hN4 => ?_
  refine xc_reg1 2 rfl fun K hK => ?_
  simp only [show (List.range 2).map (·, true) = [(0, true), (1, true)] from rfl, rslv_cons, rslv_nil, List.getElem?_toArray, List.getElem?_cons_zero, List.getElem?_cons_succ, gres]
  iterate 2 (refine seqX_hide2 fun R hR => ?_; simp [go_sem, bc hP c6]; refine hR _ _ _ ?_; clear hR R)
  rw [seqX_nil]
  refine hK _ _ _ ?_; clear hK K
  refine hN4 _ _ _ ?_
  refine xc_iffalse (by simp [go_sem, bc hP c6]) ?_
  refine hN3 _ _ _ ?_
  refine xc_two fun N5 hN5 => ?_
  refine xc_reg1 5 rfl fun K hK => ?_
  simp only [show (List.range 5).map (·, true) = [(0, true), (1, true), (2, true), (3, true), (4, true)] from rfl, rslv_cons, rslv_nil, List.getElem?_toArray, List.getElem?_cons_zero, List.getElem?_cons_succ, gres]
  iterate 5 (refine seqX_hide2 fun R hR => ?_; simp [go_sem, bc hP c6]; refine hR _ _ _ ?_; clear hR R)
  rw [seqX_nil]
  refine hK _ _ _ ?_; clear hK K
  refine hN5 _ _ _ ?_
  simp [go_sem, bc hP c6]
  rfl
/-- The field that a closure of Field has found: a node of the map, in a block of its own. -/
def Mn (A : View) (kp vp m : Nat) : Prop := ∃ rk rv, A m = some (.cells #[ptr0 rk, ptr0 rv] 124 (0, 0)) ∧ A rk = some (.cells (rnc kp) 97 (0, 0)) ∧ A rv = some (.cells (rnc vp) 97 (0, 0))
theorem Mn.le {A B : View} (h : A ≤ B) {kp vp m : Nat} (e : Mn A kp vp m) : Mn B kp vp m := let ⟨rk, rv, h1, h2, h3⟩ := e; ⟨rk, rv, h _ _ h1, h _ _ h2, h _ _ h3⟩
theorem newR33 (A : View) (p : Nat) : VCalls Tryd.prog 33 #[ptr0 p] A fun r A' => ∃ q, r = ptr0 q ∧ A' q = some (.cells (rnc p) 97 (0, 0)) ∧ A ≤ A' := by
  refine xcalls Tryd.func33 rfl (by simp [Tryd.ntmps33]) ?_
  simp only [Tryd.f33]
  have hP : Priv A (addrs []) := Priv.nil A
  show xc _ _ _ _ _ _ (ov A [])
  refine xc_two fun N1 hN1 => ?_
  refine xc_reg1 1 rfl fun K hK => ?_
  simp only [show (List.range 1).map (·, true) = [(0, true)] from rfl, rslv_cons, rslv_nil, List.getElem?_toArray, List.getElem?_cons_zero, List.getElem?_cons_succ, gres]
  (refine seqX_hide2 fun R hR => ?_; simp [go_sem]; refine hR _ _ _ ?_; clear hR R)
  rw [seqX_nil]
  refine hK _ _ _ ?_; clear hK K
  refine hN1 _ _ _ ?_
  refine xc_two fun N2 hN2 => ?_
  refine xc_reg1 4 rfl fun K hK => ?_
  simp only [show (List.range 4).map (·, true) = [(0, true), (1, true), (2, true), (3, true)] from rfl, rslv_cons, rslv_nil, List.getElem?_toArray, List.getElem?_cons_zero, List.getElem?_cons_succ, gres]
  iterate 2 (refine seqX_hide2 fun R hR => ?_; simp [go_sem]; refine hR _ _ _ ?_; clear hR R)
  refine seqX_hide2 fun R hR => ?_
  simp [go_sem]
  intro q5 hq5
  replace hP := hP.cons hq5
  clear hq5
  refine hR _ _ _ ?_; clear hR R
  (refine seqX_hide2 fun R hR => ?_; simp [go_sem]; refine hR _ _ _ ?_; clear hR R)
  rw [seqX_nil]
  refine hK _ _ _ ?_; clear hK K
  refine hN2 _ _ _ ?_
  simp [go_sem]
  exact le_ov hP
theorem bytes_ne {s t : ByteArray} (h : s ≠ t) : ¬ s.toList = t.toList := fun e => h ((Lib.bytes_beq_iff s t).1 (by rw [e]; simp))
/-- The inner closure: what is found is kept in the variable b6. -/
theorem found57 (A0 A : View) (kp vp b6 : Nat) (w : Value) (hle : A0 ≤ A) (h0 : A0 b6 = none) (h6 : A b6 = some (.cells #[w] 100 (0, 0))) : VCalls Tryd.prog 57 #[ptr0 kp, ptr0 vp, ptr0 b6] A fun r A' => ∃ m, A0 ≤ A' ∧ A' b6 = some (.cells #[ptr0 m] 100 (0, 0)) ∧ Mn A' kp vp m := by
  refine xcalls Tryd.func57 rfl (by simp [Tryd.ntmps57]) ?_
  simp only [Tryd.f57]
  have hP : Priv A (addrs []) := Priv.nil A
  show xc _ _ _ _ _ _ (ov A [])
  refine xc_reg1 7 rfl fun K hK => ?_
  simp only [show (List.range 7).map (·, true) = [(0, true), (1, true), (2, true), (3, true), (4, true), (5, true), (6, true)] from rfl, rslv_cons, rslv_nil, List.getElem?_toArray, List.getElem?_cons_zero, List.getElem?_cons_succ, gres]
  (refine seqX_hide2 fun R hR => ?_; simp [go_sem]; refine hR _ _ _ ?_; clear hR R)
  refine seqX_hide2 fun R hR => ?_
  simp [go_sem]
  refine call_ov hP (newR33 A kp) ?_
  clear hP
  rintro _ A1 ⟨rk, rfl, hrk, hA1⟩ hP
  refine hR _ _ _ ?_; clear hR R
  (refine seqX_hide2 fun R hR => ?_; simp [go_sem]; refine hR _ _ _ ?_; clear hR R)
  refine seqX_hide2 fun R hR => ?_
  simp [go_sem]
  refine call_ov hP (newR33 A1 vp) ?_
  clear hP
  rintro _ A2 ⟨rv, rfl, hrv, hA2⟩ hP
  have h62 := hA2 _ _ (hA1 _ _ h6)
  have hrk2 := hA2 _ _ hrk
  refine hR _ _ _ ?_; clear hR R
  (refine seqX_hide2 fun R hR => ?_; simp [go_sem]; refine hR _ _ _ ?_; clear hR R)
  refine seqX_hide2 fun R hR => ?_
  simp [go_sem]
  intro q10 hq10
  replace hP := hP.cons hq10
  clear hq10
  refine hR _ _ _ ?_; clear hR R
  have hb6 : b6 ≠ q10 := fun hx => by have := hP.1; rw [← hx, h62] at this; cases this
  have hs := cstore (L := [(q10, .cells #[ptr0 rk, ptr0 rv] 124 (0, 0))]) hP ti100 h62 (u := ptr0 q10) rfl
  have hsa := hs.1
  refine seqX_hide2 fun R hR => ?_
  simp [go_sem, hb6, hsa]
  refine hR _ _ _ ?_; clear hR R
  rw [seqX_nil]
  refine hK _ _ _ ?_; clear hK K
  simp [go_sem, hb6, hsa]
  have hP5 := hs.2
  have l2 : A0 ≤ A2.set b6 (.cells #[ptr0 q10] 100 (0, 0)) := le_set0 (View.le_trans hle (View.le_trans hA1 hA2)) h0
  have nk : rk ≠ b6 := fun hx => by rw [hx, h62] at hrk2; injection hrk2 with h; injection h with h1 h2; cases h2
  have nv : rv ≠ b6 := fun hx => by rw [hx, h62] at hrv; injection hrv with h; injection h with h1 h2; cases h2
  refine ⟨View.le_trans l2 (le_ov hP5), q10, set_at _ _ _, rk, rv, ov_at_here _ _ _ _, le_ov hP5 _ _ ?_, le_ov hP5 _ _ ?_⟩
  · rw [set_other nk]; exact hrk2
  · rw [set_other nv]; exact hrv
set_option maxRecDepth 20000 in
theorem clos64 (A0 A : View) (kp vp b6 q4 q5 : Nat) (i : Int) (w : Value) (a : Addr) (cap : Nat) (nm : ByteArray) (k st : Int) (tag val an : ByteArray) (cv : Value) (h l f : ByteArray) (row col : Int) (hle : A0 ≤ A) (h0 : A0 b6 = none) (h6 : A b6 = some (.cells #[w] 100 (0, 0))) (h4 : A0 q4 = some (.cells #[.func (.func 57) #[] #[ptr0 b6]] 125 (0, 0))) (h5 : A0 q5 = some (.cells #[.slice (some a) 1 cap] 41 (0, 0))) (hs : A0.cell? a = some (.string nm)) (hk : A0 kp = some (.cells (ync k st tag val an cv h l f row col) 107 (0, 0))) :
    VCalls Tryd.prog 64 #[ptr0 kp, ptr0 vp, .int .i64 i, ptr0 q5, ptr0 q4] A fun r A' => A0 ≤ A' ∧ if nm = val then r = .bool false ∧ ∃ m, A' b6 = some (.cells #[ptr0 m] 100 (0, 0)) ∧ Mn A' kp vp m else r = .bool true ∧ A' b6 = some (.cells #[w] 100 (0, 0)) := by
  have c4 := le_cell hle (cell_of (i := 0) h4 rfl)
  have c5 := le_cell hle (cell_of (i := 0) h5 rfl)
  have cs := le_cell hle hs
  have c3 := le_cell hle (cell_of (i := 3) hk rfl)
  refine xcalls Tryd.func64 rfl (by simp [Tryd.ntmps64]) ?_
  simp only [Tryd.f64]
  have hP : Priv A (addrs []) := Priv.nil A
  show xc _ _ _ _ _ _ (ov A [])
  refine xc_two fun N1 hN1 => ?_
  refine xc_reg1 1 rfl fun K hK => ?_
  simp only [show (List.range 1).map (·, true) = [(0, true)] from rfl, rslv_cons, rslv_nil, List.getElem?_toArray, List.getElem?_cons_zero, List.getElem?_cons_succ, gres]
  (refine seqX_hide2 fun R hR => ?_; simp [go_sem, bc hP c4, bc hP c5, bc hP cs, bc hP c3, xindexAt, vload]; refine hR _ _ _ ?_; clear hR R)
  rw [seqX_nil]
  refine hK _ _ _ ?_; clear hK K
  refine hN1 _ _ _ ?_
  refine xc_two fun N2 hN2 => ?_
  refine xc_two fun N3 hN3 => ?_
  refine xc_reg1 2 rfl fun K hK => ?_
  simp only [show (List.range 2).map (·, true) = [(0, true), (1, true)] from rfl, rslv_cons, rslv_nil, List.getElem?_toArray, List.getElem?_cons_zero, List.getElem?_cons_succ, gres]
  iterate 2 (refine seqX_hide2 fun R hR => ?_; simp [go_sem, bc hP c4, bc hP c5, bc hP cs, bc hP c3, xindexAt, vload]; refine hR _ _ _ ?_; clear hR R)
  rw [seqX_nil]
  refine hK _ _ _ ?_; clear hK K
  refine hN3 _ _ _ ?_
  refine xc_iffalse (by simp [go_sem, bc hP c4, bc hP c5, bc hP cs, bc hP c3, xindexAt, vload]) ?_
  refine hN2 _ _ _ ?_
  refine xc_two fun N4 hN4 => ?_
  refine xc_two fun N5 hN5 => ?_
  rw [xc_draws]
  refine vdrawK [(0, true), (1, true), (2, true), (3, true), (4, true), (5, true), (6, true), (7, true)] (ov A []) mixed (by kernel_rfl) (View.le_refl _) fun K hK => ?_
  simp only [rslv_cons, rslv_nil, List.getElem?_toArray, List.getElem?_cons_zero, List.getElem?_cons_succ, gres]
  iterate 8 (refine seqR_hide fun R hR => ?_; simp [go_sem, bc hP c4, bc hP c5, bc hP cs, bc hP c3, xindexAt, vload]; refine hR _ _ _ ?_; clear hR R)
  rw [seqR_nil]
  refine hK _ _ _ ?_; clear hK K
  refine hN5 _ _ _ ?_
  by_cases hv : nm = val
  · subst hv
    refine xc_iftrue (by simp [go_sem, xindexAt, vload, bc hP c4]) ?_
    refine xc_two fun N6 hN6 => ?_
    refine xc_reg1 4 rfl fun K hK => ?_
    simp only [show (List.range 4).map (·, true) = [(0, true), (1, true), (2, true), (3, true)] from rfl, rslv_cons, rslv_nil, List.getElem?_toArray, List.getElem?_cons_zero, List.getElem?_cons_succ, gres]
    iterate 3 (refine seqX_hide2 fun R hR => ?_; simp [go_sem, xindexAt, vload, bc hP c4]; refine hR _ _ _ ?_; clear hR R)
    refine seqX_hide2 fun R hR => ?_
    simp [go_sem, xindexAt, vload, bc hP c4]
    refine call_ov hP (found57 A0 A kp vp b6 w hle h0 h6) ?_
    clear hP
    rintro _ A2 ⟨m, hA2, h62, hM⟩ hP
    refine hR _ _ _ ?_; clear hR R
    rw [seqX_nil]
    refine hK _ _ _ ?_; clear hK K
    refine hN6 _ _ _ ?_
    refine xc_two fun N7 hN7 => ?_
    refine xc_reg1 1 rfl fun K hK => ?_
    simp only [show (List.range 1).map (·, true) = [(0, true)] from rfl, rslv_cons, rslv_nil, List.getElem?_toArray, List.getElem?_cons_zero, List.getElem?_cons_succ, gres]
    (refine seqX_hide2 fun R hR => ?_; simp [go_sem, xindexAt, vload]; refine hR _ _ _ ?_; clear hR R)
    rw [seqX_nil]
    refine hK _ _ _ ?_; clear hK K
    refine hN7 _ _ _ ?_
    simp [go_sem, xindexAt, vload]
    exact ⟨hA2, m, h62, hM⟩
  · have hvb := bytes_ne hv
    refine xc_iffalse (by simp [go_sem, xindexAt, vload, hv, hvb]) ?_
    refine hN4 _ _ _ ?_
    refine xc_two fun N6 hN6 => ?_
    refine xc_reg1 1 rfl fun K hK => ?_
    simp only [show (List.range 1).map (·, true) = [(0, true)] from rfl, rslv_cons, rslv_nil, List.getElem?_toArray, List.getElem?_cons_zero, List.getElem?_cons_succ, gres]
    (refine seqX_hide2 fun R hR => ?_; simp [go_sem, xindexAt, vload, hv, hvb]; refine hR _ _ _ ?_; clear hR R)
    rw [seqX_nil]
    refine hK _ _ _ ?_; clear hK K
    refine hN6 _ _ _ ?_
    simp [go_sem, xindexAt, vload, hv, hvb]
    exact ⟨hle, h6⟩
theorem Tr.ex : ∀ t : Tr, ∃ k st tag val an h l f row col al kk, t = Tr.mk k st tag val an h l f row col al kk
  | .mk k st tag val an h l f row col al kk => ⟨k, st, tag, val, an, h, l, f, row, col, al, kk, rfl⟩
/-- The value that stands behind a key. -/
def fld : List Tr → ByteArray → Option Tr
  | a :: b :: l, s => if s = a.value then some b else fld l s
  | _, _ => none
def Found (A : View) (o : Option Tr) (r : Value) : Prop :=
  match o with
  | none => r = .pointer none
  | some x => ∃ m kp vp, r = ptr0 m ∧ Mn A kp vp m ∧ IsYn A x vp
theorem Found.le {A B : View} (h : A ≤ B) {o : Option Tr} {r : Value} (e : Found A o r) : Found B o r := by
  cases o with
  | none => exact e
  | some x => obtain ⟨m, kp, vp, h1, h2, h3⟩ := e; exact ⟨m, kp, vp, h1, h2.le h, h3.le h⟩
theorem fld_step {l : List Tr} {i : Nat} (h : i + 1 < l.length) (s : ByteArray) : fld (l.drop i) s = if s = (l[i]).value then some l[i+1] else fld (l.drop (i + 2)) s := by
  rw [List.drop_eq_getElem_cons (by omega), List.drop_eq_getElem_cons (i := i + 1) h, fld]
theorem fld_end {l : List Tr} {i : Nat} (h : l.length ≤ i) (s : ByteArray) : fld (l.drop i) s = none := by
  rw [List.drop_eq_nil_of_le h, fld]
  simp
set_option maxRecDepth 20000 in
set_option maxHeartbeats 4000000 in
theorem while62 (A0 A : View) (b6 q4 q5 : Nat) (a : Addr) (cap : Nat) (nm : ByteArray) (kids : List Tr) (ps : List Nat) (cv : Value) (hle : A0 ≤ A) (h0 : A0 b6 = none) (h6 : A b6 = some (.cells #[.pointer none] 100 (0, 0))) (h4 : A0 q4 = some (.cells #[.func (.func 57) #[] #[ptr0 b6]] 125 (0, 0))) (h5 : A0 q5 = some (.cells #[.slice (some a) 1 cap] 41 (0, 0))) (hs : A0.cell? a = some (.string nm)) (hrow : Row A0 1 cv kids.length (ps.map ptr0)) (hpl : ps.length = kids.length) (hyk : ∀ j (hj : j < kids.length), ∃ q, ps[j]? = some q ∧ IsYn A0 (kids[j]) q) (hev : kids.length % 2 = 0) (hkl : kids.length ≤ 1000000) :
    VCalls Tryd.prog 62 #[cv, .func (.func 64) #[] #[ptr0 q5, ptr0 q4]] A fun r A' => A0 ≤ A' ∧ ∃ w, A' b6 = some (.cells #[w] 100 (0, 0)) ∧ Found A' (fld kids nm) w := by
  obtain ⟨cb, cc, rfl⟩ := hrow.form
  refine xcalls Tryd.func62 rfl (by simp [Tryd.ntmps62]) ?_
  simp only [Tryd.f62]
  have hP : Priv A (addrs []) := Priv.nil A
  show xc _ _ _ _ _ _ (ov A [])
  refine xc_two fun N1 hN1 => ?_
  refine xc_reg1 1 rfl fun K hK => ?_
  simp only [show (List.range 1).map (·, true) = [(0, true)] from rfl, rslv_cons, rslv_nil, List.getElem?_toArray, List.getElem?_cons_zero, List.getElem?_cons_succ, gres]
  (refine seqX_hide2 fun R hR => ?_; simp [go_sem]; refine hR _ _ _ ?_; clear hR R)
  rw [seqX_nil]
  refine hK _ _ _ ?_; clear hK K
  refine hN1 _ _ _ ?_
  rw [xc_block]
  rw [xc_loop]
  refine vloopK (fun k' e ds A' => ∃ (i : Nat) (D : View), k' = kids.length - i ∧ ds = [] ∧ A' = ov D [] ∧ Priv D [] ∧ e 0 = .slice cb kids.length cc ∧ e 1 = .func (.func 64) #[] #[ptr0 q5, ptr0 q4] ∧ e 4 = .int .i64 i ∧ (i ≤ kids.length) ∧ (i % 2 = 0) ∧ (A0 ≤ D) ∧ (D b6 = some (.cells #[.pointer none] 100 (0, 0))) ∧ (fld kids nm = fld (kids.drop i) nm)) _ ⟨0, A, rfl, rfl, rfl, hP, by simp [go_sem], by simp [go_sem], by simp [go_sem], by omega, rfl, hle, h6, rfl⟩ ?_
  clear hP
  rintro k' e ds A' ⟨i, D, rfl, rfl, hV, hP, g0, g1, g4, hil, hi2, hAD, h6D, hfd⟩ J1 X1 hJ1 hX1
  refine xc_sound _ ?_
  replace hV := Eq.symm hV; subst hV; replace hP : Priv D (addrs []) := hP
  have hw1 : IntKind.i64.wrap ((i : Int) + 1) = ((i + 1 : Nat) : Int) := by rw [wrap_in (by omega) (by omega)]; omega
  have hw2 : IntKind.i64.wrap ((i : Int) + 2) = ((i + 2 : Nat) : Int) := by rw [wrap_in (by omega) (by omega)]; omega
  by_cases hi : i < kids.length
  rotate_left
  · rw [fld_end (by omega)] at hfd
    have hii : ¬ (i : Int) < kids.length := by omega
    refine xc_two fun N2 hN2 => ?_
    refine xc_two fun N3 hN3 => ?_
    refine xc_reg1 4 rfl fun K hK => ?_
    simp only [show (List.range 4).map (·, true) = [(0, true), (1, true), (2, true), (3, true)] from rfl, rslv_cons, rslv_nil, List.getElem?_toArray, List.getElem?_cons_zero, List.getElem?_cons_succ, gres]
    iterate 4 (refine seqX_hide2 fun R hR => ?_; simp [go_sem, g0, g1, g4, hi, hii]; refine hR _ _ _ ?_; clear hR R)
    rw [seqX_nil]
    refine hK _ _ _ ?_; clear hK K
    refine hN3 _ _ _ ?_
    refine xc_iffalse (by simp [go_sem, g0, g1, g4, hi, hii]) ?_
    refine hX1 _ _ _ _ ?_
    simp [go_sem, g0, g1, g4, hi, hii]
    rw [hfd]
    exact ⟨hAD, _, h6D, rfl⟩
  have hi1 : i + 1 < kids.length := by omega
  rw [fld_step hi1] at hfd
  have hii : (i : Int) < kids.length := by omega
  have hii1 : ((i + 1 : Nat) : Int) < kids.length := by omega
  obtain ⟨q, hq1, hq2⟩ := hyk i hi
  obtain ⟨p, hp1, hp2⟩ := hyk (i + 1) hi1
  obtain ⟨a1, cap1, f1, -, u1⟩ := Row.at1 (i := i) (u := ptr0 q) hrow (by rw [List.getElem?_map, hq1]; rfl)
  simp only [Value.slice.injEq] at f1
  obtain ⟨rfl, -, rfl⟩ := f1
  obtain ⟨a2, cap2, f2, -, u2⟩ := Row.at1 (i := i + 1) (u := ptr0 p) hrow (by rw [List.getElem?_map, hp1]; rfl)
  simp only [Value.slice.injEq, Option.some.injEq] at f2
  obtain ⟨rfl, -, rfl⟩ := f2
  rw [show a1.add (i + 1) = ⟨a1.block, a1.off + (i + 1), none⟩ from if_neg (Nat.succ_ne_zero i)] at u2
  have hii2 : (i : Int) + 1 < kids.length := by omega
  have hii3 : (0 : Int) ≤ (i : Int) + 1 := by omega
  have u1z := u1
  have u2z := u2
  have u1 := le_cell hAD u1
  have u2 := le_cell hAD u2
  have hPz : Priv A0 (addrs []) := Priv.nil A0
  obtain ⟨k, st, tag, val, an, h, l, f, row, col, al, kk, hkk⟩ := kids[i].ex
  rw [hkk] at hq2 hfd
  replace hfd : fld kids nm = if nm = val then some kids[i + 1] else fld (kids.drop (i + 2)) nm := hfd
  obtain ⟨cv2, ps2, hq3, -, -, -⟩ := hq2.open
  refine xc_two fun N2 hN2 => ?_
  refine xc_two fun N3 hN3 => ?_
  refine xc_reg1 4 rfl fun K hK => ?_
  simp only [show (List.range 4).map (·, true) = [(0, true), (1, true), (2, true), (3, true)] from rfl, rslv_cons, rslv_nil, List.getElem?_toArray, List.getElem?_cons_zero, List.getElem?_cons_succ, gres]
  iterate 4 (refine seqX_hide2 fun R hR => ?_; simp [go_sem, g0, g1, g4, hi, hii, hi1, hii1, hii2, hii3, hw1, hw2, bc hP u1, bc hP u2, bc hPz u1z, bc hPz u2z, xindexAt, vload]; refine hR _ _ _ ?_; clear hR R)
  rw [seqX_nil]
  refine hK _ _ _ ?_; clear hK K
  refine hN3 _ _ _ ?_
  refine xc_iftrue (by simp [go_sem, g0, g1, g4, hi, hii, hi1, hii1, hii2, hii3, hw1, hw2, bc hP u1, bc hP u2, bc hPz u1z, bc hPz u2z, xindexAt, vload]) ?_
  refine hN2 _ _ _ ?_
  refine xc_two fun N4 hN4 => ?_
  rw [xc_block]
  refine xc_two fun N5 hN5 => ?_
  rw [xc_draws]
  refine vdrawK [(0, true), (1, true), (2, true), (3, true), (4, true), (5, true), (6, true), (7, true), (8, true), (9, true), (10, true), (11, false), (12, true)] (ov A0 []) mixed (by kernel_rfl) (ov_mono hAD) fun K hK => ?_
  simp only [rslv_cons, rslv_nil, List.getElem?_toArray, List.getElem?_cons_zero, List.getElem?_cons_succ, gres]
  iterate 11 (refine seqR_hide fun R hR => ?_; simp [go_sem, g0, g1, g4, hi, hii, hi1, hii1, hii2, hii3, hw1, hw2, bc hP u1, bc hP u2, bc hPz u1z, bc hPz u2z, xindexAt, vload]; refine hR _ _ _ ?_; clear hR R)
  refine seqR_hide fun R hR => ?_
  simp [go_sem, g0, g1, g4, hi, hii, hi1, hii1, hii2, hii3, hw1, hw2, bc hP u1, bc hP u2, bc hPz u1z, bc hPz u2z, xindexAt, vload]
  refine call_ov hP (clos64 A0 D q p b6 q4 q5 i (.pointer none) a cap nm k st tag val an cv2 h l f row col hAD h0 h6D h4 h5 hs hq3) ?_
  clear hP
  rintro r D2 ⟨hA2, hr⟩ hP
  by_cases hv : nm = val
  · rw [if_pos hv] at hr hfd
    obtain ⟨rfl, m, h62, hM⟩ := hr
    refine hR _ _ _ ?_; clear hR R
    (refine seqR_hide fun R hR => ?_; simp [go_sem, g0, g1, g4, hi, hii, hi1, hii1, hii2, hii3, hw1, hw2, bc hPz u1z, bc hPz u2z, xindexAt, vload]; refine hR _ _ _ ?_; clear hR R)
    rw [seqR_nil]
    refine hK _ _ _ ?_; clear hK K
    refine hN5 _ _ _ ?_
    refine xc_two fun N6 hN6 => ?_
    refine xc_reg1 2 rfl fun K hK => ?_
    simp only [show (List.range 2).map (·, true) = [(0, true), (1, true)] from rfl, rslv_cons, rslv_nil, List.getElem?_toArray, List.getElem?_cons_zero, List.getElem?_cons_succ, gres]
    iterate 2 (refine seqX_hide2 fun R hR => ?_; simp [go_sem, g0, g1, g4, hi, hii, hi1, hii1, hii2, hii3, hw1, hw2, bc hPz u1z, bc hPz u2z, xindexAt, vload]; refine hR _ _ _ ?_; clear hR R)
    rw [seqX_nil]
    refine hK _ _ _ ?_; clear hK K
    refine hN6 _ _ _ ?_
    refine xc_iftrue (by simp [go_sem, g0, g1, g4, hi, hii, hi1, hii1, hii2, hii3, hw1, hw2, bc hPz u1z, bc hPz u2z, xindexAt, vload]) ?_
    refine hX1 _ _ _ _ ?_
    simp [go_sem, g0, g1, g4, hi, hii, hi1, hii1, hii2, hii3, hw1, hw2, bc hPz u1z, bc hPz u2z, xindexAt, vload]
    rw [hfd]
    exact ⟨hA2, _, h62, m, q, p, rfl, hM, hp2.le hA2⟩
  · rw [if_neg hv] at hr hfd
    obtain ⟨rfl, h62⟩ := hr
    refine hR _ _ _ ?_; clear hR R
    (refine seqR_hide fun R hR => ?_; simp [go_sem, g0, g1, g4, hi, hii, hi1, hii1, hii2, hii3, hw1, hw2, bc hPz u1z, bc hPz u2z, xindexAt, vload]; refine hR _ _ _ ?_; clear hR R)
    rw [seqR_nil]
    refine hK _ _ _ ?_; clear hK K
    refine hN5 _ _ _ ?_
    refine xc_two fun N6 hN6 => ?_
    refine xc_reg1 2 rfl fun K hK => ?_
    simp only [show (List.range 2).map (·, true) = [(0, true), (1, true)] from rfl, rslv_cons, rslv_nil, List.getElem?_toArray, List.getElem?_cons_zero, List.getElem?_cons_succ, gres]
    iterate 2 (refine seqX_hide2 fun R hR => ?_; simp [go_sem, g0, g1, g4, hi, hii, hi1, hii1, hii2, hii3, hw1, hw2, bc hPz u1z, bc hPz u2z, xindexAt, vload]; refine hR _ _ _ ?_; clear hR R)
    rw [seqX_nil]
    refine hK _ _ _ ?_; clear hK K
    refine hN6 _ _ _ ?_
    refine xc_iffalse (by simp [go_sem, g0, g1, g4, hi, hii, hi1, hii1, hii2, hii3, hw1, hw2, bc hPz u1z, bc hPz u2z, xindexAt, vload]) ?_
    refine hN4 _ _ _ ?_
    refine xc_reg1 3 rfl fun K hK => ?_
    simp only [show (List.range 3).map (·, true) = [(0, true), (1, true), (2, true)] from rfl, rslv_cons, rslv_nil, List.getElem?_toArray, List.getElem?_cons_zero, List.getElem?_cons_succ, gres]
    iterate 3 (refine seqX_hide2 fun R hR => ?_; simp [go_sem, g0, g1, g4, hi, hii, hi1, hii1, hii2, hii3, hw1, hw2, bc hPz u1z, bc hPz u2z, xindexAt, vload]; refine hR _ _ _ ?_; clear hR R)
    rw [seqX_nil]
    refine hK _ _ _ ?_; clear hK K
    refine hJ1 (kids.length - (i + 2)) _ _ _ (by omega) ⟨i + 2, D2, rfl, rfl, rfl, hP, by simp [go_sem, g0, g1, g4, hi, hii, hi1, hii1, hii2, hii3, hw1, hw2, bc hPz u1z, bc hPz u2z, xindexAt, vload], by simp [go_sem, g0, g1, g4, hi, hii, hi1, hii1, hii2, hii3, hw1, hw2, bc hPz u1z, bc hPz u2z, xindexAt, vload], by simp [go_sem, g0, g1, g4, hi, hii, hi1, hii1, hii2, hii3, hw1, hw2, bc hPz u1z, bc hPz u2z, xindexAt, vload], by omega, by omega, hA2, h62, hfd⟩
end Go.Proofs.YthjbgpmcfcijgaaDoorV

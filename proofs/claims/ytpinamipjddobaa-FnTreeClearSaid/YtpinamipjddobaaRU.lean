/- Trees: FieldClearer.Filter, ClearField. -/
import Derived.Test.YtpinamipjddobaaRT
namespace Go.Proofs.YtpinamipjddobaaV
open Go.RowKit
set_option linter.unusedSimpArgs false
set_option linter.unusedVariables false
/-- What a FieldClearer leaves and tells. -/
def CQ (A0 : View) (t : Tr) (q p : Nat) (nm : ByteArray) (ie : Bool) (v : Value) (A' : View) : Prop :=
  (v = .pointer none ∧ (∀ j, ¬ Hit t.kids nm ie j) ∧ TopR A0 A' t q p) ∨ (∃ i, ∃ hi : i + 1 < t.kids.length, Hit t.kids nm ie i ∧ (∀ j, j < i → ¬ Hit t.kids nm ie j) ∧ ∃ rn, v = ptr0 rn ∧ IsRn A' (t.kids[i + 1]) rn ∧ TopR A0 A' (t.less i) q p)
set_option maxRecDepth 20000 in
set_option maxHeartbeats 400000 in
theorem clear132 (A0 A : View) (t : Tr) (q p : Nat) (nm : ByteArray) (ie : Bool) (H : TopR A0 A t q p) (hk : t.kind = 4) (ht : t.tag ≠ tNull) (hev : t.kids.length % 2 = 0) (hkl : t.kids.length ≤ 1000000) (hkk : ∀ x ∈ t.kids, x.kids.length ≤ 1000000) :
    VCalls Try.prog 132 #[.agg #[.string ⟨#[]⟩, .string nm, .bool ie], ptr0 q] A fun r A' => ∃ x : Option Nat, r = .tuple #[(match x with | none => .pointer none | some b => ptr0 b), .nilIface] ∧ CQ A0 t q p nm ie (match x with | none => .pointer none | some b => ptr0 b) A' := by
  have HR := H
  have herr := errIf79 A t q 4 H.rn (by omega) ht hk (fun _ => hev) hkl
  obtain ⟨k, st, tag, val, an, h, l, f, row, col, al, kids, rfl⟩ := t.ex
  obtain ⟨hq, hqp, HT⟩ := H
  obtain ⟨B, cv, ps, y1, y2, y3, y4, y5, y6, y7, y8⟩ := HT
  obtain ⟨cb, cc, rfl⟩ := y5.shape
  replace hk : k = 4 := hk
  have hk1 : k ≠ 1 := by omega
  refine xcalls Try.func132 rfl (by simp [Try.ntmps132]) ?_
  simp only [Try.f132]
  have hP : Priv A (addrs []) := Priv.nil A
  show xc _ _ _ _ _ _ (ov A [])
  refine xc_two fun N1 hN1 => ?_
  refine xc_reg1 4 rfl fun K hK => ?_
  simp only [show (List.range 4).map (·, true) = [(0, true), (1, true), (2, true), (3, true)] from rfl, rslv_cons, rslv_nil, List.getElem?_toArray, List.getElem?_cons_zero, List.getElem?_cons_succ, gres]
  refine seqX_hide2 fun R hR => ?_
  simp [go_sem]
  intro q2 hq2
  replace hP := hP.cons hq2
  clear hq2
  refine hR _ _ _ ?_; clear hR R
  refine seqX_hide2 fun R hR => ?_
  simp [go_sem]
  intro q3 hq3
  replace hP := hP.cons hq3
  clear hq3
  have d32 : q3 ≠ q2 := (hP.ne q2 (by simp [addrs])).1
  have d23 : q2 ≠ q3 := (hP.ne q2 (by simp [addrs])).2
  refine hR _ _ _ ?_; clear hR R
  iterate 2 (refine seqX_hide2 fun R hR => ?_; simp [go_sem, d32, d23]; refine hR _ _ _ ?_; clear hR R)
  rw [seqX_nil]
  refine hK _ _ _ ?_; clear hK K
  refine hN1 _ _ _ ?_
  refine xc_two fun N2 hN2 => ?_
  refine xc_two fun N3 hN3 => ?_
  refine xc_reg1 3 rfl fun K hK => ?_
  simp only [show (List.range 3).map (·, true) = [(0, true), (1, true), (2, true)] from rfl, rslv_cons, rslv_nil, List.getElem?_toArray, List.getElem?_cons_zero, List.getElem?_cons_succ, gres]
  (refine seqX_hide2 fun R hR => ?_; simp [go_sem, d32, d23]; refine hR _ _ _ ?_; clear hR R)
  refine seqX_hide2 fun R hR => ?_
  simp [go_sem, d32, d23]
  refine call_same hP herr ?_
  rintro _ rfl
  refine hR _ _ _ ?_; clear hR R
  (refine seqX_hide2 fun R hR => ?_; simp [go_sem, d32, d23]; refine hR _ _ _ ?_; clear hR R)
  rw [seqX_nil]
  refine hK _ _ _ ?_; clear hK K
  refine hN3 _ _ _ ?_
  refine xc_two fun N4 hN4 => ?_
  refine xc_reg1 2 rfl fun K hK => ?_
  simp only [show (List.range 2).map (·, true) = [(0, true), (1, true)] from rfl, rslv_cons, rslv_nil, List.getElem?_toArray, List.getElem?_cons_zero, List.getElem?_cons_succ, gres]
  iterate 2 (refine seqX_hide2 fun R hR => ?_; simp [go_sem, d32, d23]; refine hR _ _ _ ?_; clear hR R)
  rw [seqX_nil]
  refine hK _ _ _ ?_; clear hK K
  refine hN4 _ _ _ ?_
  refine xc_iffalse (by simp [go_sem, d32, d23]) ?_
  refine hN2 _ _ _ ?_
  refine xc_two fun N5 hN5 => ?_
  refine xc_reg1 1 rfl fun K hK => ?_
  simp only [show (List.range 1).map (·, true) = [(0, true)] from rfl, rslv_cons, rslv_nil, List.getElem?_toArray, List.getElem?_cons_zero, List.getElem?_cons_succ, gres]
  refine seqX_hide2 fun R hR => ?_
  simp [go_sem, d32, d23]
  intro q7 hq7
  replace hP := hP.cons hq7
  clear hq7
  have d73 : q7 ≠ q3 := (hP.ne q3 (by simp [addrs])).1
  have d37 : q3 ≠ q7 := (hP.ne q3 (by simp [addrs])).2
  have d72 : q7 ≠ q2 := (hP.ne q2 (by simp [addrs])).1
  have d27 : q2 ≠ q7 := (hP.ne q2 (by simp [addrs])).2
  refine hR _ _ _ ?_; clear hR R
  rw [seqX_nil]
  refine hK _ _ _ ?_; clear hK K
  refine hN5 _ _ _ ?_
  refine xc_two fun N6 hN6 => ?_
  refine xc_reg1 4 rfl fun K hK => ?_
  simp only [show (List.range 4).map (·, true) = [(0, true), (1, true), (2, true), (3, true)] from rfl, rslv_cons, rslv_nil, List.getElem?_toArray, List.getElem?_cons_zero, List.getElem?_cons_succ, gres]
  (refine seqX_hide2 fun R hR => ?_; simp [go_sem, d32, d23, d73, d37, d72, d27]; refine hR _ _ _ ?_; clear hR R)
  refine seqX_hide2 fun R hR => ?_
  simp [go_sem, d32, d23, d73, d37, d72, d27]
  refine call_same hP (content36 A q p k st tag val an (.slice cb kids.length cc) h l f row col hq y4 hk1) ?_
  rintro _ rfl
  refine hR _ _ _ ?_; clear hR R
  (refine seqX_hide2 fun R hR => ?_; simp [go_sem, d32, d23, d73, d37, d72, d27]; refine hR _ _ _ ?_; clear hR R)
  refine seqX_hide2 fun R hR => ?_
  simp [go_sem, d32, d23, d73, d37, d72, d27]
  obtain ⟨eq7, hPn, nq7⟩ := sinkI (A := A) (L := [(q7, .cells #[.pointer none] 62 (0, 0)), (q3, .cells #[ptr0 q] 62 (0, 0)), (q2, .cells #[.string ⟨#[]⟩, .string nm, .bool ie] 86 (0, 0))]) 0 hP rfl
  rw [eq7]
  clear eq7 hP; have hP := hPn; clear hPn
  simp only [List.eraseIdx_cons_zero, List.eraseIdx_cons_succ, addrs_cons, addrs_nil] at hP ⊢
  obtain ⟨eq3, hPn, nq3⟩ := sinkI (A := A.set q7 (.cells #[.pointer none] 62 (0, 0))) (L := [(q3, .cells #[ptr0 q] 62 (0, 0)), (q2, .cells #[.string ⟨#[]⟩, .string nm, .bool ie] 86 (0, 0))]) 0 hP rfl
  rw [eq3]
  clear eq3 hP; have hP := hPn; clear hPn
  simp only [List.eraseIdx_cons_zero, List.eraseIdx_cons_succ, addrs_cons, addrs_nil] at hP ⊢
  obtain ⟨eq2, hPn, nq2⟩ := sinkI (A := (A.set q7 (.cells #[.pointer none] 62 (0, 0))).set q3 (.cells #[ptr0 q] 62 (0, 0))) (L := [(q2, .cells #[.string ⟨#[]⟩, .string nm, .bool ie] 86 (0, 0))]) 0 hP rfl
  rw [eq2]
  clear eq2 hP; have hP := hPn; clear hPn
  simp only [List.eraseIdx_cons_zero, List.eraseIdx_cons_succ, addrs_cons, addrs_nil] at hP ⊢
  have l0 : A ≤ ((A.set q7 (.cells #[.pointer none] 62 (0, 0))).set q3 (.cells #[ptr0 q] 62 (0, 0))).set q2 (.cells #[.string ⟨#[]⟩, .string nm, .bool ie] 86 (0, 0)) := View.le_trans (le_set nq7) (View.le_trans (le_set nq3) (le_set nq2))
  have x2 : (((A.set q7 (.cells #[.pointer none] 62 (0, 0))).set q3 (.cells #[ptr0 q] 62 (0, 0))).set q2 (.cells #[.string ⟨#[]⟩, .string nm, .bool ie] 86 (0, 0))) q2 = some (.cells #[.string ⟨#[]⟩, .string nm, .bool ie] 86 (0, 0)) := set_at _ _ _
  have x3 : (((A.set q7 (.cells #[.pointer none] 62 (0, 0))).set q3 (.cells #[ptr0 q] 62 (0, 0))).set q2 (.cells #[.string ⟨#[]⟩, .string nm, .bool ie] 86 (0, 0))) q3 = some (.cells #[ptr0 q] 62 (0, 0)) := by rw [set_other d32]; exact set_at _ _ _
  have x7 : (((A.set q7 (.cells #[.pointer none] 62 (0, 0))).set q3 (.cells #[ptr0 q] 62 (0, 0))).set q2 (.cells #[.string ⟨#[]⟩, .string nm, .bool ie] 86 (0, 0))) q7 = some (.cells #[.pointer none] 62 (0, 0)) := by rw [set_other d72, set_other d73]; exact set_at _ _ _
  have n7 : B q7 = none := none_le y2 nq7
  generalize ((A.set q7 (.cells #[.pointer none] 62 (0, 0))).set q3 (.cells #[ptr0 q] 62 (0, 0))).set q2 (.cells #[.string ⟨#[]⟩, .string nm, .bool ie] 86 (0, 0)) = A3 at hP l0 x2 x3 x7 ⊢
  refine call_ov hP (whileC A0 B A3 q p q2 q3 q7 nm ie k st tag val an h l f row col al kids cb cc ps y1 (View.le_trans y2 l0) y3 (l0 _ _ y4) (y5.le l0) y6 y7 y8 (l0 _ _ hq) hqp hk1 x2 x3 x7 n7 d73 hev hkl hkk) ?_
  clear hP
  rintro _ A4 hW hP
  rcases hW with ⟨rfl, hno⟩ | ⟨i, hi, hh, hno, rn, k1, k2, k3⟩
  · have c7 := cell_of (i := 0) x7 rfl
    refine hR _ _ _ ?_; clear hR R
    rw [seqX_nil]
    refine hK _ _ _ ?_; clear hK K
    refine hN6 _ _ _ ?_
    refine xc_two fun N7 hN7 => ?_
    refine xc_reg1 3 rfl fun K hK => ?_
    simp only [show (List.range 3).map (·, true) = [(0, true), (1, true), (2, true)] from rfl, rslv_cons, rslv_nil, List.getElem?_toArray, List.getElem?_cons_zero, List.getElem?_cons_succ, gres]
    iterate 3 (refine seqX_hide2 fun R hR => ?_; simp [go_sem, d32, d23, d73, d37, d72, d27, bc hP c7]; refine hR _ _ _ ?_; clear hR R)
    rw [seqX_nil]
    refine hK _ _ _ ?_; clear hK K
    refine hN7 _ _ _ ?_
    simp [go_sem, d32, d23, d73, d37, d72, d27, bc hP c7]
    exact ⟨none, rfl, .inl ⟨rfl, hno, HR.grow (View.le_refl _) l0⟩⟩
  have c7 := cell_of (i := 0) k1 rfl
  refine hR _ _ _ ?_; clear hR R
  rw [seqX_nil]
  refine hK _ _ _ ?_; clear hK K
  refine hN6 _ _ _ ?_
  refine xc_two fun N7 hN7 => ?_
  refine xc_reg1 3 rfl fun K hK => ?_
  simp only [show (List.range 3).map (·, true) = [(0, true), (1, true), (2, true)] from rfl, rslv_cons, rslv_nil, List.getElem?_toArray, List.getElem?_cons_zero, List.getElem?_cons_succ, gres]
  iterate 3 (refine seqX_hide2 fun R hR => ?_; simp [go_sem, d32, d23, d73, d37, d72, d27, bc hP c7]; refine hR _ _ _ ?_; clear hR R)
  rw [seqX_nil]
  refine hK _ _ _ ?_; clear hK K
  refine hN7 _ _ _ ?_
  simp [go_sem, d32, d23, d73, d37, d72, d27, bc hP c7]
  exact ⟨some rn, rfl, .inr ⟨i, hi, hh, hno, rn, rfl, k2, k3⟩⟩
theorem caught58 (p q s : Addr) (w : World) :
    CallsD Try.prog 58 #[.pointer (some p), .pointer (some q), .pointer (some s)] .returning w fun e u' w' => (∃ v, e = .returned v) ∧ u' = .returning ∧ w' = w := by
  refine callsD_of_wpS Try.func58 rfl fun c₀ cs hu => ?_
  apply wpS_seq
  apply wpS_region
  simp [wpOpsS, go_sem, recoverD, hu, Try.ntmps58, Exit.thenS]
  refine wpS_cond (t := false) (by simp [Act.eval, Array.replicate]) ?_
  simp only [Bool.false_eq_true, if_false]
  refine wpS_of_wp (wp_skip ?_)
  cases c₀
  simp_all [bodyPostS, results, Try.results58]
theorem meth_fc : meth Try.prog 86 "Filter" = some ⟨132, none⟩ := by kernel_rfl
theorem less_mem {l : List Tr} {i : Nat} {x : Tr} (h : x ∈ less l i) : x ∈ l := by
  rw [less] at h
  rcases List.mem_append.1 h with h | h
  · exact List.mem_of_mem_take h
  · exact List.mem_of_mem_drop h
theorem PT.less {lv : Nat} {t : Tr} (h : PT lv t) (i : Nat) : PT lv (t.less i) := by
  have hx : ∀ x ∈ t.kids, PT (lv - 1) x := fun x hx => h.kid hx
  obtain ⟨k, st, tag, val, an, hh, l, f, row, col, al, kids, rfl⟩ := t.ex
  rw [PT] at h
  rw [Tr.less, PT]
  exact ⟨h.1, h.2.1, h.2.2.1, fun j hj => hx _ (less_mem (List.getElem_mem hj))⟩
theorem nds_less (t : Tr) (i : Nat) : nds (t.less i) ≤ nds t := by
  obtain ⟨k, st, tag, val, an, hh, l, f, row, col, al, kids, rfl⟩ := t.ex
  rw [Tr.less, nds_mk, nds_mk, Proofs.YtpinamipjddobaaV.less, List.map_append, List.sum_append]
  have h1 : (kids.map nds).sum = ((kids.take i).map nds).sum + ((kids.drop i).map nds).sum := by
    rw [← List.sum_append, ← List.map_append, List.take_append_drop]
  have h2 : ((kids.drop i).map nds).sum = (((kids.drop i).take 2).map nds).sum + (((kids.drop i).drop 2).map nds).sum := by
    rw [← List.sum_append, ← List.map_append, List.take_append_drop]
  rw [List.drop_drop] at h2
  omega
/-- What ClearField answers. -/
def CR (t : Tr) (nm : ByteArray) (ie : Bool) (c : Array Value) (fv : Value) (A' : View) : Prop :=
  ((∀ j, ¬ Hit t.kids nm ie j) ∧ IsTr A' t c ∧ Trs A' fv []) ∨ (∃ i, ∃ hi : i + 1 < t.kids.length, Hit t.kids nm ie i ∧ (∀ j, j < i → ¬ Hit t.kids nm ie j) ∧ IsTr A' (t.less i) c ∧ Trs A' fv [t.kids[i + 1]])
set_option maxRecDepth 20000 in
set_option maxHeartbeats 400000 in
theorem clearField29 (A : View) (t : Tr) (lv : Nat) (c : Array Value) (nm : ByteArray) (ie : Bool) (hc : IsTr A t c) (hpt : PT lv t) (hnd : nds t ≤ 400) (hlv : lv ≤ 40) (hk : t.kind = 4) (ht : t.tag ≠ tNull) (hev : t.kids.length % 2 = 0) (hkl : t.kids.length ≤ 1000000) (hkk : ∀ x ∈ t.kids, x.kids.length ≤ 1000000) :
    VCalls Try.prog 29 #[.agg c, .string nm, .bool ie] A fun r A' => ∃ c1 fv, r = .tuple #[.agg c1, fv, .int .i64 0] ∧ CR t nm ie c1 fv A' ∧ A ≤ A' := by
  have hcz := hc.size
  have hco := hc.ones
  refine xcallsD Try.func29 rfl (by simp [Try.ntmps29]) ?_
  simp only [Try.f29]
  have hP : Priv A (addrs []) := Priv.nil A
  show xc _ _ _ _ _ _ (ov A [])
  refine xc_two fun N1 hN1 => ?_
  refine xc_reg1 4 rfl fun K hK => ?_
  simp only [show (List.range 4).map (·, true) = [(0, true), (1, true), (2, true), (3, true)] from rfl, rslv_cons, rslv_nil, List.getElem?_toArray, List.getElem?_cons_zero, List.getElem?_cons_succ, gres]
  refine seqX_hide2 fun R hR => ?_
  simp [go_sem, hcz, hco]
  intro q3 hq3
  replace hP := hP.cons hq3
  clear hq3
  refine hR _ _ _ ?_; clear hR R
  refine seqX_hide2 fun R hR => ?_
  simp [go_sem, hcz, hco]
  intro q6 hq6
  replace hP := hP.cons hq6
  clear hq6
  have d63 : q6 ≠ q3 := (hP.ne q3 (by simp [addrs])).1
  have d36 : q3 ≠ q6 := (hP.ne q3 (by simp [addrs])).2
  refine hR _ _ _ ?_; clear hR R
  refine seqX_hide2 fun R hR => ?_
  simp [go_sem, hcz, hco, d63, d36]
  intro q7 hq7
  replace hP := hP.cons hq7
  clear hq7
  have d76 : q7 ≠ q6 := (hP.ne q6 (by simp [addrs])).1
  have d67 : q6 ≠ q7 := (hP.ne q6 (by simp [addrs])).2
  have d73 : q7 ≠ q3 := (hP.ne q3 (by simp [addrs])).1
  have d37 : q3 ≠ q7 := (hP.ne q3 (by simp [addrs])).2
  refine hR _ _ _ ?_; clear hR R
  refine seqX_hide2 fun R hR => ?_
  simp [go_sem, hcz, hco, d63, d36, d76, d67, d73, d37]
  intro q8 hq8
  replace hP := hP.cons hq8
  clear hq8
  have d87 : q8 ≠ q7 := (hP.ne q7 (by simp [addrs])).1
  have d78 : q7 ≠ q8 := (hP.ne q7 (by simp [addrs])).2
  have d86 : q8 ≠ q6 := (hP.ne q6 (by simp [addrs])).1
  have d68 : q6 ≠ q8 := (hP.ne q6 (by simp [addrs])).2
  have d83 : q8 ≠ q3 := (hP.ne q3 (by simp [addrs])).1
  have d38 : q3 ≠ q8 := (hP.ne q3 (by simp [addrs])).2
  refine hR _ _ _ ?_; clear hR R
  rw [seqX_nil]
  refine hK _ _ _ ?_; clear hK K
  refine hN1 _ _ _ ?_
  refine xc_two fun N2 hN2 => ?_
  refine xc_reg1 2 rfl fun K hK => ?_
  simp only [show (List.range 2).map (·, true) = [(0, true), (1, true)] from rfl, rslv_cons, rslv_nil, List.getElem?_toArray, List.getElem?_cons_zero, List.getElem?_cons_succ, gres]
  (refine seqX_hide2 fun R hR => ?_; simp [go_sem, hcz, hco, d63, d36, d76, d67, d73, d37, d87, d78, d86, d68, d83, d38]; refine hR _ _ _ ?_; clear hR R)
  refine seqX_hide2 fun R hR => ?_
  simp [go_sem, hcz, hco, d63, d36, d76, d67, d73, d37, d87, d78, d86, d68, d83, d38, toDefer]
  refine hR _ _ _ ?_; clear hR R
  rw [seqX_nil]
  refine hK _ _ _ ?_; clear hK K
  refine hN2 _ _ _ ?_
  refine xc_two fun N3 hN3 => ?_
  refine xc_reg1 7 rfl fun K hK => ?_
  simp only [show (List.range 7).map (·, true) = [(0, true), (1, true), (2, true), (3, true), (4, true), (5, true), (6, true)] from rfl, rslv_cons, rslv_nil, List.getElem?_toArray, List.getElem?_cons_zero, List.getElem?_cons_succ, gres]
  (refine seqX_hide2 fun R hR => ?_; simp [go_sem, hcz, hco, d63, d36, d76, d67, d73, d37, d87, d78, d86, d68, d83, d38]; refine hR _ _ _ ?_; clear hR R)
  refine seqX_hide2 fun R hR => ?_
  simp [go_sem, hcz, hco, d63, d36, d76, d67, d73, d37, d87, d78, d86, d68, d83, d38]
  refine call_ov hP (rootedS A t lv c hc hpt hnd hlv) ?_
  clear hP
  rintro _ A2 ⟨q, p, rfl, hq, hqp, hq0, HT⟩ hP
  refine hR _ _ _ ?_; clear hR R
  iterate 5 (refine seqX_hide2 fun R hR => ?_; simp [go_sem, hcz, hco, d63, d36, d76, d67, d73, d37, d87, d78, d86, d68, d83, d38]; refine hR _ _ _ ?_; clear hR R)
  rw [seqX_nil]
  refine hK _ _ _ ?_; clear hK K
  refine hN3 _ _ _ ?_
  refine xc_two fun N4 hN4 => ?_
  refine xc_two fun N5 hN5 => ?_
  refine xc_reg1 2 rfl fun K hK => ?_
  simp only [show (List.range 2).map (·, true) = [(0, true), (1, true)] from rfl, rslv_cons, rslv_nil, List.getElem?_toArray, List.getElem?_cons_zero, List.getElem?_cons_succ, gres]
  iterate 2 (refine seqX_hide2 fun R hR => ?_; simp [go_sem, hcz, hco, d63, d36, d76, d67, d73, d37, d87, d78, d86, d68, d83, d38]; refine hR _ _ _ ?_; clear hR R)
  rw [seqX_nil]
  refine hK _ _ _ ?_; clear hK K
  refine hN5 _ _ _ ?_
  refine xc_iffalse (by simp [go_sem, hcz, hco, d63, d36, d76, d67, d73, d37, d87, d78, d86, d68, d83, d38]) ?_
  refine hN4 _ _ _ ?_
  refine xc_two fun N6 hN6 => ?_
  refine xc_reg1 12 rfl fun K hK => ?_
  simp only [show (List.range 12).map (·, true) = [(0, true), (1, true), (2, true), (3, true), (4, true), (5, true), (6, true), (7, true), (8, true), (9, true), (10, true), (11, true)] from rfl, rslv_cons, rslv_nil, List.getElem?_toArray, List.getElem?_cons_zero, List.getElem?_cons_succ, gres]
  iterate 5 (refine seqX_hide2 fun R hR => ?_; simp [go_sem, hcz, hco, d63, d36, d76, d67, d73, d37, d87, d78, d86, d68, d83, d38]; refine hR _ _ _ ?_; clear hR R)
  refine seqX_hide2 fun R hR => ?_
  simp [go_sem, hcz, hco, d63, d36, d76, d67, d73, d37, d87, d78, d86, d68, d83, d38]
  intro q28 hq28
  replace hP := hP.cons hq28
  clear hq28
  have d288 : q28 ≠ q8 := (hP.ne q8 (by simp [addrs])).1
  have d828 : q8 ≠ q28 := (hP.ne q8 (by simp [addrs])).2
  have d287 : q28 ≠ q7 := (hP.ne q7 (by simp [addrs])).1
  have d728 : q7 ≠ q28 := (hP.ne q7 (by simp [addrs])).2
  have d286 : q28 ≠ q6 := (hP.ne q6 (by simp [addrs])).1
  have d628 : q6 ≠ q28 := (hP.ne q6 (by simp [addrs])).2
  have d283 : q28 ≠ q3 := (hP.ne q3 (by simp [addrs])).1
  have d328 : q3 ≠ q28 := (hP.ne q3 (by simp [addrs])).2
  refine hR _ _ _ ?_; clear hR R
  refine seqX_hide2 fun R hR => ?_
  simp [go_sem, hcz, hco, d63, d36, d76, d67, d73, d37, d87, d78, d86, d68, d83, d38, d288, d828, d287, d728, d286, d628, d283, d328]
  obtain ⟨eq28, hPn, nq28⟩ := sinkI (A := A2) (L := [(q28, .cells #[.iface 86 (.agg #[.string ⟨#[]⟩, .string nm, .bool ie])] 116 (0, 0)), (q8, .cells #[.int .i64 0] 3 (0, 0)), (q7, .cells #[.slice none 0 0] 22 (0, 0)), (q6, .cells (trc 0 0 ⟨#[]⟩ ⟨#[]⟩ ⟨#[]⟩ ⟨#[]⟩ ⟨#[]⟩ ⟨#[]⟩ 0 0 0 (.slice none 0 0)) 24 (0, 0)), (q3, .cells c 24 (0, 0))]) 0 hP rfl
  rw [eq28]
  clear eq28 hP; have hP := hPn; clear hPn
  simp only [List.eraseIdx_cons_zero, List.eraseIdx_cons_succ, addrs_cons, addrs_nil] at hP ⊢
  have lq : A2 ≤ A2.set q28 (.cells #[.iface 86 (.agg #[.string ⟨#[]⟩, .string nm, .bool ie])] 116 (0, 0)) := le_set nq28
  have hrow : Row (A2.set q28 (.cells #[.iface 86 (.agg #[.string ⟨#[]⟩, .string nm, .bool ie])] 116 (0, 0))) 1 (.slice (some ⟨q28, 0, none⟩) 1 1) 1 [.iface 86 (.agg #[.string ⟨#[]⟩, .string nm, .bool ie])] := .inl ⟨_, 1, rfl, cells_block (set_at _ _ _) rfl⟩
  generalize A2.set q28 (.cells #[.iface 86 (.agg #[.string ⟨#[]⟩, .string nm, .bool ie])] 116 (0, 0)) = A4 at hP lq hrow ⊢
  have HR : TopR A A4 t q p := TopR.grow ⟨hq, hqp, HT⟩ (View.le_refl _) lq
  obtain ⟨k, st, tag, val, an, h, l, f, row, col, al, kids, rfl⟩ := t.ex
  obtain ⟨cvp, hp, -⟩ := HR.2.2.cell
  have hk1 : k ≠ 1 := by have : k = 4 := hk; omega
  refine call_ov hP (pipe1 A4 q p 86 132 (.agg #[.string ⟨#[]⟩, .string nm, .bool ie]) (.slice (some ⟨q28, 0, none⟩) 1 1) k st tag val an cvp h l f row col HR.1 hp hk1 meth_fc (by kernel_rfl) hrow (CQ A (.mk k st tag val an h l f row col al kids) q p nm ie) (clear132 A A4 _ q p nm ie HR hk ht hev hkl hkk)) ?_
  clear hP
  rintro _ A5 ⟨x, rfl, hx⟩ hP
  rcases hx with ⟨hx, hno, HR5⟩ | ⟨i, hi, hh, hno, rn, hx, hrn, HR5⟩
  · cases x with
    | some b =>
      have hx2 : ptr0 b = .pointer none := hx
      cases hx2
    | none =>
      refine hR _ _ _ ?_; clear hR R
      iterate 5 (refine seqX_hide2 fun R hR => ?_; simp [go_sem, hcz, hco, d63, d36, d76, d67, d73, d37, d87, d78, d86, d68, d83, d38, d288, d828, d287, d728, d286, d628, d283, d328]; refine hR _ _ _ ?_; clear hR R)
      rw [seqX_nil]
      refine hK _ _ _ ?_; clear hK K
      refine hN6 _ _ _ ?_
      refine xc_two fun N7 hN7 => ?_
      refine xc_two fun N8 hN8 => ?_
      refine xc_reg1 2 rfl fun K hK => ?_
      simp only [show (List.range 2).map (·, true) = [(0, true), (1, true)] from rfl, rslv_cons, rslv_nil, List.getElem?_toArray, List.getElem?_cons_zero, List.getElem?_cons_succ, gres]
      iterate 2 (refine seqX_hide2 fun R hR => ?_; simp [go_sem, hcz, hco, d63, d36, d76, d67, d73, d37, d87, d78, d86, d68, d83, d38, d288, d828, d287, d728, d286, d628, d283, d328]; refine hR _ _ _ ?_; clear hR R)
      rw [seqX_nil]
      refine hK _ _ _ ?_; clear hK K
      refine hN8 _ _ _ ?_
      refine xc_iffalse (by simp [go_sem, hcz, hco, d63, d36, d76, d67, d73, d37, d87, d78, d86, d68, d83, d38, d288, d828, d287, d728, d286, d628, d283, d328]) ?_
      refine hN7 _ _ _ ?_
      refine xc_two fun N9 hN9 => ?_
      refine xc_reg1 7 rfl fun K hK => ?_
      simp only [show (List.range 7).map (·, true) = [(0, true), (1, true), (2, true), (3, true), (4, true), (5, true), (6, true)] from rfl, rslv_cons, rslv_nil, List.getElem?_toArray, List.getElem?_cons_zero, List.getElem?_cons_succ, gres]
      (refine seqX_hide2 fun R hR => ?_; simp [go_sem, hcz, hco, d63, d36, d76, d67, d73, d37, d87, d78, d86, d68, d83, d38, d288, d828, d287, d728, d286, d628, d283, d328]; refine hR _ _ _ ?_; clear hR R)
      refine seqX_hide2 fun R hR => ?_
      simp [go_sem, hcz, hco, d63, d36, d76, d67, d73, d37, d87, d78, d86, d68, d83, d38, d288, d828, d287, d728, d286, d628, d283, d328]
      refine call_ov hP (treeOf28 A5 (.mk k st tag val an h l f row col al kids) q HR5.rn hpt.nt (by have := Nat.le_refl 0; omega)) ?_
      clear hP
      rintro _ A6 ⟨c1, rfl, hc1, hA6⟩ hP
      have hcz1 := hc1.size
      have hco1 := hc1.ones
      refine hR _ _ _ ?_; clear hR R
      (refine seqX_hide2 fun R hR => ?_; simp [go_sem, hcz, hco, d63, d36, d76, d67, d73, d37, d87, d78, d86, d68, d83, d38, d288, d828, d287, d728, d286, d628, d283, d328, hcz1, hco1]; refine hR _ _ _ ?_; clear hR R)
      refine seqX_hide2 fun R hR => ?_
      simp [go_sem, hcz, hco, d63, d36, d76, d67, d73, d37, d87, d78, d86, d68, d83, d38, d288, d828, d287, d728, d286, d628, d283, d328, hcz1, hco1]
      refine call_ov hP (found51 A6 none _ rfl (fun y hy => by cases hy)) ?_
      clear hP
      rintro fv A7 ⟨hfv, hA7⟩ hP
      have hfs := hfv.slice
      obtain ⟨fb, fc, rfl⟩ := hfs
      have hidle : Idle Try.prog { target := .fn (.func 58) #[.pointer (some ⟨q6, 0, none⟩), .pointer (some ⟨q7, 0, none⟩), .pointer (some ⟨q8, 0, none⟩)], args := #[] } := by
        intro w'
        exact ⟨_, _, 58, #[.pointer (some ⟨q6, 0, none⟩), .pointer (some ⟨q7, 0, none⟩), .pointer (some ⟨q8, 0, none⟩)], rfl, by simp [go_sem, invoke], caught58 _ _ _ _⟩
      refine hR _ _ _ ?_; clear hR R
      refine seqX_hide2 fun R hR => ?_
      simp [go_sem, hcz, hco, d63, d36, d76, d67, d73, d37, d87, d78, d86, d68, d83, d38, d288, d828, d287, d728, d286, d628, d283, d328, hcz1, hco1]
      refine hR _ _ _ ?_; clear hR R
      refine seqX_hide2 fun R hR => ?_
      simp [go_sem, hcz, hco, d63, d36, d76, d67, d73, d37, d87, d78, d86, d68, d83, d38, d288, d828, d287, d728, d286, d628, d283, d328, hcz1, hco1]
      refine hR _ _ _ ?_; clear hR R
      refine seqX_hide2 fun R hR => ?_
      simp [go_sem, hcz, hco, d63, d36, d76, d67, d73, d37, d87, d78, d86, d68, d83, d38, d288, d828, d287, d728, d286, d628, d283, d328, hcz1, hco1]
      refine hR _ _ _ ?_; clear hR R
      rw [seqX_nil]
      refine hK _ _ _ ?_; clear hK K
      refine hN9 _ _ _ ?_
      simp [go_sem, hcz, hco, d63, d36, d76, d67, d73, d37, d87, d78, d86, d68, d83, d38, d288, d828, d287, d728, d286, d628, d283, d328, hcz1, hco1]
      refine ⟨hidle, c1, _, ⟨rfl, rfl⟩, .inl ⟨hno, hc1.le (View.le_trans hA7 ?_), hfv.le ?_⟩, View.le_trans HR5.2.2.le (View.le_trans hA6 (View.le_trans hA7 ?_))⟩
      · exact le_ov hP
      · exact le_ov hP
      · exact le_ov hP
  cases x with
  | none =>
    have hx2 : Value.pointer none = ptr0 rn := hx
    cases hx2
  | some b =>
  have hx2 : ptr0 b = ptr0 rn := hx
  injection hx2 with hx3
  injection hx3 with hx4
  injection hx4 with hx5
  subst hx5
  replace hi : i + 1 < kids.length := hi
  replace hrn : IsRn A5 kids[i + 1] b := hrn
  refine hR _ _ _ ?_; clear hR R
  iterate 5 (refine seqX_hide2 fun R hR => ?_; simp [go_sem, hcz, hco, d63, d36, d76, d67, d73, d37, d87, d78, d86, d68, d83, d38, d288, d828, d287, d728, d286, d628, d283, d328]; refine hR _ _ _ ?_; clear hR R)
  rw [seqX_nil]
  refine hK _ _ _ ?_; clear hK K
  refine hN6 _ _ _ ?_
  refine xc_two fun N7 hN7 => ?_
  refine xc_two fun N8 hN8 => ?_
  refine xc_reg1 2 rfl fun K hK => ?_
  simp only [show (List.range 2).map (·, true) = [(0, true), (1, true)] from rfl, rslv_cons, rslv_nil, List.getElem?_toArray, List.getElem?_cons_zero, List.getElem?_cons_succ, gres]
  iterate 2 (refine seqX_hide2 fun R hR => ?_; simp [go_sem, hcz, hco, d63, d36, d76, d67, d73, d37, d87, d78, d86, d68, d83, d38, d288, d828, d287, d728, d286, d628, d283, d328]; refine hR _ _ _ ?_; clear hR R)
  rw [seqX_nil]
  refine hK _ _ _ ?_; clear hK K
  refine hN8 _ _ _ ?_
  refine xc_iffalse (by simp [go_sem, hcz, hco, d63, d36, d76, d67, d73, d37, d87, d78, d86, d68, d83, d38, d288, d828, d287, d728, d286, d628, d283, d328]) ?_
  refine hN7 _ _ _ ?_
  refine xc_two fun N9 hN9 => ?_
  refine xc_reg1 7 rfl fun K hK => ?_
  simp only [show (List.range 7).map (·, true) = [(0, true), (1, true), (2, true), (3, true), (4, true), (5, true), (6, true)] from rfl, rslv_cons, rslv_nil, List.getElem?_toArray, List.getElem?_cons_zero, List.getElem?_cons_succ, gres]
  (refine seqX_hide2 fun R hR => ?_; simp [go_sem, hcz, hco, d63, d36, d76, d67, d73, d37, d87, d78, d86, d68, d83, d38, d288, d828, d287, d728, d286, d628, d283, d328]; refine hR _ _ _ ?_; clear hR R)
  refine seqX_hide2 fun R hR => ?_
  simp [go_sem, hcz, hco, d63, d36, d76, d67, d73, d37, d87, d78, d86, d68, d83, d38, d288, d828, d287, d728, d286, d628, d283, d328]
  refine call_ov hP (treeOf28 A5 (Tr.less (.mk k st tag val an h l f row col al kids) i) q HR5.rn (hpt.less i).nt (by have := nds_less (.mk k st tag val an h l f row col al kids) i; omega)) ?_
  clear hP
  rintro _ A6 ⟨c1, rfl, hc1, hA6⟩ hP
  have hcz1 := hc1.size
  have hco1 := hc1.ones
  refine hR _ _ _ ?_; clear hR R
  (refine seqX_hide2 fun R hR => ?_; simp [go_sem, hcz, hco, d63, d36, d76, d67, d73, d37, d87, d78, d86, d68, d83, d38, d288, d828, d287, d728, d286, d628, d283, d328, hcz1, hco1]; refine hR _ _ _ ?_; clear hR R)
  refine seqX_hide2 fun R hR => ?_
  simp [go_sem, hcz, hco, d63, d36, d76, d67, d73, d37, d87, d78, d86, d68, d83, d38, d288, d828, d287, d728, d286, d628, d283, d328, hcz1, hco1]
  refine call_ov hP (found51 A6 (some kids[i + 1]) _ ⟨b, rfl, hrn.le hA6⟩ (fun y hy => by obtain rfl := Option.some.inj hy; exact ⟨(PT.kid hpt (List.getElem_mem hi)).nt, by have := nds_kid' (t := (.mk k st tag val an h l f row col al kids)) (List.getElem_mem hi); omega⟩)) ?_
  clear hP
  rintro fv A7 ⟨hfv, hA7⟩ hP
  have hfs := hfv.slice
  obtain ⟨fb, fc, rfl⟩ := hfs
  have hidle : Idle Try.prog { target := .fn (.func 58) #[.pointer (some ⟨q6, 0, none⟩), .pointer (some ⟨q7, 0, none⟩), .pointer (some ⟨q8, 0, none⟩)], args := #[] } := by
    intro w'
    exact ⟨_, _, 58, #[.pointer (some ⟨q6, 0, none⟩), .pointer (some ⟨q7, 0, none⟩), .pointer (some ⟨q8, 0, none⟩)], rfl, by simp [go_sem, invoke], caught58 _ _ _ _⟩
  refine hR _ _ _ ?_; clear hR R
  refine seqX_hide2 fun R hR => ?_
  simp [go_sem, hcz, hco, d63, d36, d76, d67, d73, d37, d87, d78, d86, d68, d83, d38, d288, d828, d287, d728, d286, d628, d283, d328, hcz1, hco1]
  refine hR _ _ _ ?_; clear hR R
  refine seqX_hide2 fun R hR => ?_
  simp [go_sem, hcz, hco, d63, d36, d76, d67, d73, d37, d87, d78, d86, d68, d83, d38, d288, d828, d287, d728, d286, d628, d283, d328, hcz1, hco1]
  refine hR _ _ _ ?_; clear hR R
  refine seqX_hide2 fun R hR => ?_
  simp [go_sem, hcz, hco, d63, d36, d76, d67, d73, d37, d87, d78, d86, d68, d83, d38, d288, d828, d287, d728, d286, d628, d283, d328, hcz1, hco1]
  refine hR _ _ _ ?_; clear hR R
  rw [seqX_nil]
  refine hK _ _ _ ?_; clear hK K
  refine hN9 _ _ _ ?_
  simp [go_sem, hcz, hco, d63, d36, d76, d67, d73, d37, d87, d78, d86, d68, d83, d38, d288, d828, d287, d728, d286, d628, d283, d328, hcz1, hco1]
  refine ⟨hidle, c1, _, ⟨rfl, rfl⟩, .inr ⟨i, hi, hh, hno, hc1.le (View.le_trans hA7 ?_), hfv.le ?_⟩, View.le_trans HR5.2.2.le (View.le_trans hA6 (View.le_trans hA7 ?_))⟩
  · exact le_ov hP
  · exact le_ov hP
  · exact le_ov hP
end Go.Proofs.YtpinamipjddobaaV

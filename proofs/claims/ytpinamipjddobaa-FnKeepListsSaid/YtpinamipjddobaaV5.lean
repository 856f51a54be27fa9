/- The logic of views: regions whose order is drawn. What only looks or computes may be told first, what makes new memory last. -/
import Derived.Test.YtpinamipjddobaaV4
namespace Go.Proofs.YtpinamipjddobaaV
open Go.RowKit
set_option linter.unusedSimpArgs false
set_option linter.unusedVariables false

section
variable (P : Program) (n : Nat) (ops : Array Oper) (S : View) (needS : Nat → Bool)
def none' : View := fun _ => none
def stepK (need : Bool) (o : Oper) (K : VQ) (e : Env) (ds : List Deferred) (A : View) : Prop :=
  match kind o.op with
  | .P => onS (xval P o.op (ev n e) none') fun v => K (putE e o.dst v) ds A
  | .D => onS (xval P o.op (ev n e) S) fun v => K (putE e o.dst v) ds A
  | .L => onS (xnew P o.op (ev n e)) fun q => fresh A q.1 fun b A' => K (putE e o.dst (q.2 b)) ds A'
  | .H => xop P n o (fun e' ds' A' => (need = true → S ≤ A') ∧ K e' ds' A') e ds A
def stepD (i : Nat) (K : VQ) (e : Env) (ds : List Deferred) (A : View) : Prop :=
  onS ops[i]? fun o => gif (vwant n ops e o) (stepK P n S (needS i) o K e ds A) (K (putE e o.dst undef) ds A)
def seqD (Q : VQ) : List Nat → Env → List Deferred → View → Prop
  | [], e, ds, A => Q e ds A
  | i :: l, e, ds, A => stepD P n ops S needS i (seqD Q l) e ds A
/-- The same, with what H does as the small steps say. -/
def stepV (i : Nat) (K : VQ) (e : Env) (ds : List Deferred) (A : View) : Prop :=
  match ops[i]? with
  | none => False
  | some o => gif (vwant n ops e o) (match kind o.op with
      | .P => onS (xval P o.op (ev n e) none') fun v => K (putE e o.dst v) ds A
      | .D => onS (xval P o.op (ev n e) S) fun v => K (putE e o.dst v) ds A
      | .L => onS (xnew P o.op (ev n e)) fun q => fresh A q.1 fun b A' => K (putE e o.dst (q.2 b)) ds A'
      | .H => vop P n o (dn fun e' ds' A' => (needS i = true → S ≤ A') ∧ K e' ds' A') e ds A) (K (putE e o.dst undef) ds A)
def seqV (Q : VQ) : List Nat → Env → List Deferred → View → Prop
  | [], e, ds, A => Q e ds A
  | i :: l, e, ds, A => stepV P n ops S needS i (seqV Q l) e ds A
end

section
variable {P : Program} {n : Nat} {ops : Array Oper} {S : View} {needS : Nat → Bool}
theorem dn_mono {K K' : VQ} (h : ∀ e ds A, K e ds A → K' e ds A) {e : Env} {ds : List Deferred} {A : View} (k : dn K e ds A) : dn K' e ds A :=
  let ⟨A', h1, h2⟩ := k; ⟨A', h1, h _ _ _ h2⟩
theorem stepV_mono {i : Nat} {K K' : VQ} (h : ∀ e ds A, K e ds A → K' e ds A) {e : Env} {ds : List Deferred} {A : View} (k : stepV P n ops S needS i K e ds A) : stepV P n ops S needS i K' e ds A := by
  unfold stepV at *
  split at k
  · exact k
  · rename_i o ho
    unfold gif at *
    split at k
    · rename_i hw
      rw [if_pos hw]
      split at k
      · exact let ⟨v, h1, h2⟩ := k; ⟨v, h1, h _ _ _ h2⟩
      · exact let ⟨v, h1, h2⟩ := k; ⟨v, h1, h _ _ _ h2⟩
      · exact let ⟨v, h1, h2⟩ := k; ⟨v, h1, fun b hb => h _ _ _ (h2 b hb)⟩
      · exact vop_mono (fun e ds A => dn_mono fun e ds A hx => ⟨hx.1, h _ _ _ hx.2⟩) k
    · rename_i hw
      rw [if_neg hw]
      exact h _ _ _ k
theorem seqV_of_seqD {Q : VQ} : ∀ (l : List Nat) {e : Env} {ds : List Deferred} {A : View}, seqD P n ops S needS Q l e ds A → seqV P n ops S needS Q l e ds A
  | [], _, _, _, h => h
  | i :: l, e, ds, A, h => by
    simp only [seqD] at h
    simp only [seqV]
    refine stepV_mono (fun e ds A => seqV_of_seqD l) ?_
    obtain ⟨o, ho, h⟩ := h
    unfold stepV
    simp only [ho]
    unfold gif at *
    split at h
    · rename_i hw
      rw [if_pos hw]
      unfold stepK at h
      cases hk : kind o.op <;> simp only [hk] at h ⊢
      · exact h
      · exact h
      · exact h
      · unfold xop at h
        simp only [hk] at h
        exact xH_sound h
    · rename_i hw
      rw [if_neg hw]
      exact h

/-! ### Temporaries that two operations do not share -/
theorem ev_put {e : Env} {d : Option Tmp} {v : Value} {x : Operand} (h : ∀ t, d = some t → x ≠ .tmp t) : ev n (putE e d v) x = ev n e x := by
  cases d with
  | none => rfl
  | some t =>
    cases x with
    | tmp s =>
      have : s ≠ t := fun hs => h t rfl (hs ▸ rfl)
      simp only [ev, putE, upd, if_neg this]
    | _ => rfl
theorem put_comm {e : Env} {x y : Option Tmp} {u v : Value} (h : ∀ d, x = some d → y ≠ some d) : putE (putE e x u) y v = putE (putE e y v) x u := by
  cases x with
  | none => rfl
  | some a =>
    cases y with
    | none => rfl
    | some b =>
      have hab : a ≠ b := fun hb => h a rfl (hb ▸ rfl)
      funext t
      simp only [putE, upd]
      by_cases h1 : t = b
      · subst h1
        rw [if_pos rfl, if_neg (fun hx => hab hx.symm), if_pos rfl]
      · rw [if_neg h1, if_neg h1]
theorem mem_looks {o : Oper} {t : Tmp} (h : Operand.tmp t ∈ o.op.operands) : t ∈ o.looksAt ops :=
  List.mem_append_left _ (List.mem_filterMap.2 ⟨.tmp t, by simpa using h, rfl⟩)
theorem agree {o : Oper} {e : Env} {d : Option Tmp} {v : Value} (h : ∀ t, d = some t → t ∉ o.looksAt ops) : ∀ x ∈ o.op.operands, ev n (putE e d v) x = ev n e x :=
  fun x hx => ev_put fun t ht hxt => h t ht (mem_looks (by rw [hxt] at hx; exact hx))
theorem want_put {o : Oper} {e : Env} {d : Option Tmp} {v : Value} (h : ∀ t, d = some t → t ∉ o.looksAt ops) : vwant n ops (putE e d v) o = vwant n ops e o := by
  unfold vwant Region.wanted
  cases hg : o.guard with
  | none => rfl
  | some gw =>
    obtain ⟨g, want⟩ := gw
    have hy : gval n ops (putE e d v) g = gval n ops e g := by
      unfold gval
      cases ht : (ops[g]?).bind (·.dst) with
      | none => rfl
      | some t =>
        cases d with
        | none => rfl
        | some d =>
          have hne : t ≠ d := fun he => h d rfl (by subst he; simp [Oper.looksAt, hg, ht])
          simp only [putE, upd, if_neg hne]
    simp only [hy]
theorem xval_congr {op : Op} {ρ ρ' : Operand → Value} {A : View} (h : ∀ x ∈ op.operands, ρ x = ρ' x) : xval P op ρ A = xval P op ρ' A := by
  have pairs : ∀ ps : Array (Nat × Operand), (∀ x ∈ ps.map (·.2), ρ x = ρ' x) → (ps.map fun (i, x) => (i, ρ x)) = (ps.map fun (i, x) => (i, ρ' x)) := fun ps hp =>
    Array.map_congr_left fun p hm => by
      obtain ⟨i, x⟩ := p
      simp only [hp x (Array.mem_map.2 ⟨(i, x), hm, rfl⟩)]
  cases op <;> simp only [Op.operands] at h <;> simp only [xval]
  case build t ps => rw [pairs ps fun x hx => h x (by simpa using hx)]
  case makeFunc fn first captured =>
    rw [Array.map_congr_left (xs := first) fun x hx => h x (by simp [hx]), Array.map_congr_left (xs := captured) fun x hx => h x (by simp [hx])]
  case call c =>
    obtain ⟨ce, ar, ts⟩ := c
    cases ce <;> try rfl
    rename_i b
    simp only [Call.operands] at h
    have hx : ∀ x, x ∈ ar.toList → ρ x = ρ' x := fun x hx => h x (by simp; exact Array.mem_toList_iff.1 hx)
    split
    · rename_i x t h1 h2 h3
      rw [hx x (by simp only at h2; rw [h2]; simp)]
    · rename_i h2
      rw [hx _ (by simp only at h2; rw [h2]; simp), hx _ (by simp only at h2; rw [h2]; simp)]
    · rename_i h2
      rw [hx _ (by simp only at h2; rw [h2]; simp), hx _ (by simp only at h2; rw [h2]; simp)]
    · rfl
  case slice t x lo hi mx =>
    cases lo <;> cases hi <;> cases mx <;> simp_all
  all_goals first
    | rfl
    | (simp_all; done)
theorem xnew_congr {op : Op} {ρ ρ' : Operand → Value} (h : ∀ x ∈ op.operands, ρ x = ρ' x) : xnew P op ρ = xnew P op ρ' := by
  have pairs : ∀ ps : Array (Nat × Operand), (∀ x ∈ ps.map (·.2), ρ x = ρ' x) → (ps.map fun (i, x) => (i, ρ x)) = (ps.map fun (i, x) => (i, ρ' x)) := fun ps hp =>
    Array.map_congr_left fun p hm => by
      obtain ⟨i, x⟩ := p
      simp only [hp x (Array.mem_map.2 ⟨(i, x), hm, rfl⟩)]
  cases op <;> simp only [Op.operands] at h <;> try rfl
  case box e x => simp only [xnew, h x (by simp)]
  case makeMap t r => cases r <;> simp_all [xnew]
  case buildSlice t k ps => simp only [xnew]; rw [pairs ps fun x hx => h x (by simpa using hx)]
  case range t x => simp only [xnew, h x (by simp)]
end

section
variable {P : Program} {n : Nat} {ops : Array Oper} {S : View} {needS : Nat → Bool}
/-! ### What stands fixed -/
def detV (P : Program) (n : Nat) (ops : Array Oper) (S : View) (i : Nat) (e : Env) : Option Value :=
  match ops[i]? with
  | none => none
  | some o => if vwant n ops e o then (match kind o.op with
      | .P => xval P o.op (ev n e) none'
      | .D => xval P o.op (ev n e) S
      | _ => none) else some undef
theorem stepV_det {i : Nat} {o : Oper} {v : Value} {K : VQ} {e : Env} {ds : List Deferred} {A : View} (ho : ops[i]? = some o) (h : detV P n ops S i e = some v) :
    stepV P n ops S needS i K e ds A ↔ K (putE e o.dst v) ds A := by
  unfold detV at h
  unfold stepV
  simp only [ho, gif] at h ⊢
  split at h
  · rename_i hw
    rw [if_pos hw]
    cases hk : kind o.op <;> simp only [hk, reduceCtorEq] at h ⊢
    · rw [h]; simp [onS]
    · rw [h]; simp [onS]
  · rename_i hw
    rw [if_neg hw]
    simp only [Option.some.injEq] at h
    rw [h]
theorem detV_put {i : Nat} {o : Oper} {d : Option Tmp} {v : Value} {e : Env} (ho : ops[i]? = some o) (h : ∀ t, d = some t → t ∉ o.looksAt ops) : detV P n ops S i (putE e d v) = detV P n ops S i e := by
  unfold detV
  simp only [ho, want_put h]
  rw [xval_congr (A := none') (agree (n := n) (e := e) (v := v) h), xval_congr (A := S) (agree (n := n) (e := e) (v := v) h)]
theorem vop_put {o : Oper} {d : Option Tmp} {v : Value} {e : Env} {ds : List Deferred} {A : View} {K K' : VQ} (hs : ∀ cs b, o.op ≠ .select cs b) (h : ∀ t, d = some t → t ∉ o.looksAt ops)
    (hK : ∀ u ds' A', K (putE e o.dst u) ds' A' → K' (putE (putE e d v) o.dst u) ds' A') (k : vop P n o K e ds A) : vop P n o K' (putE e d v) ds A := by
  unfold vop at *
  rw [execOp_congr o hs (agree (n := n) (e := e) (v := v) h)]
  refine vp_mono _ _ ?_ k
  intro nx A' hn
  cases nx <;> first | exact hK _ _ _ hn | exact hn.mono fun _ _ => hK _ _ _ | exact hn
theorem vop_unput {o : Oper} {d : Option Tmp} {v : Value} {e : Env} {ds : List Deferred} {A : View} {K K' : VQ} (hs : ∀ cs b, o.op ≠ .select cs b) (h : ∀ t, d = some t → t ∉ o.looksAt ops)
    (hK : ∀ u ds' A', K (putE (putE e d v) o.dst u) ds' A' → K' (putE e o.dst u) ds' A') (k : vop P n o K (putE e d v) ds A) : vop P n o K' e ds A := by
  unfold vop at *
  rw [execOp_congr o hs (agree (n := n) (e := e) (v := v) h)] at k
  refine vp_mono _ _ ?_ k
  intro nx A' hn
  cases nx <;> first | exact hK _ _ _ hn | exact hn.mono fun _ _ => hK _ _ _ | exact hn

theorem stepV_put {j : Nat} {oj : Oper} {d : Option Tmp} {v : Value} {K K' : VQ} {e : Env} {ds : List Deferred} {A : View} (hj : ops[j]? = some oj) (hs : ∀ cs b, oj.op ≠ .select cs b)
    (h1 : ∀ t, d = some t → t ∉ oj.looksAt ops) (h2 : ∀ t, oj.dst = some t → d ≠ some t)
    (hK : ∀ u ds' A', K (putE e oj.dst u) ds' A' → K' (putE (putE e oj.dst u) d v) ds' A') (k : stepV P n ops S needS j K e ds A) : stepV P n ops S needS j K' (putE e d v) ds A := by
  have hc : ∀ u, putE (putE e oj.dst u) d v = putE (putE e d v) oj.dst u := fun u => put_comm h2
  unfold stepV at *
  simp only [hj, gif, want_put h1] at k ⊢
  rw [xval_congr (A := none') (agree (n := n) (e := e) (v := v) h1), xval_congr (A := S) (agree (n := n) (e := e) (v := v) h1), xnew_congr (agree (n := n) (e := e) (v := v) h1)]
  split at k
  · rename_i hw
    rw [if_pos hw]
    cases hk : kind oj.op <;> simp only [hk] at k ⊢
    · exact let ⟨u, a, b⟩ := k; ⟨u, a, by have hx := hK _ _ _ b; rw [hc] at hx; exact hx⟩
    · exact let ⟨u, a, b⟩ := k; ⟨u, a, by have hx := hK _ _ _ b; rw [hc] at hx; exact hx⟩
    · exact let ⟨u, a, b⟩ := k; ⟨u, a, fun bb hb => by have hx := hK _ _ _ (b bb hb); rw [hc] at hx; exact hx⟩
    · refine vop_put (ops := ops) hs h1 ?_ k
      rintro u ds' A' ⟨A'', hle, hS, hq⟩
      exact ⟨A'', hle, hS, by have hx := hK _ _ _ hq; rw [hc] at hx; exact hx⟩
  · rename_i hw
    rw [if_neg hw, ← hc]
    exact hK _ _ _ k

/-! ### A block that a small step does not know -/
theorem set_comm {A : View} {b c : Nat} {o o' : Obj} (h : b ≠ c) : (A.set b o).set c o' = (A.set c o').set b o := by
  funext k
  unfold View.set
  by_cases h1 : k = c
  · subst h1
    rw [if_pos rfl, if_neg (fun x => h x.symm), if_pos rfl]
  · rw [if_neg h1, if_neg h1]
theorem set_other {A : View} {b k : Nat} {o : Obj} (h : k ≠ b) : A.set b o k = A k := if_neg h
theorem cell?_set {A : View} {b : Nat} {o : Obj} {a : Addr} (h : a.block ≠ b) : (A.set b o).cell? a = A.cell? a := by
  unfold View.cell?; rw [set_other h]
theorem frozen?_set {A : View} {b : Nat} {o : Obj} {a : Addr} (h : a.block ≠ b) : (A.set b o).frozen? a = A.frozen? a := by
  unfold View.frozen?; rw [set_other h]
theorem setCell_set {A : View} {b : Nat} {o : Obj} {a : Addr} {v : Value} (h : a.block ≠ b) : (A.set b o).setCell a v = (A.setCell a v).set b o := by
  unfold View.setCell
  rw [set_other h]
  split
  · exact set_comm (fun x => h x.symm)
  · rfl
theorem ne_of_some {A : View} {b k : Nat} (hb : A b = none) (hk : (A k).isSome = true) : k ≠ b := fun h => by rw [h, hb] at hk; cases hk
theorem setCell_none {A : View} {a : Addr} {v : Value} {b : Nat} (hb : A b = none) : A.setCell a v b = none := by
  unfold View.setCell
  cases hA : A a.block with
  | none => exact hb
  | some o =>
    have hne : b ≠ a.block := fun h => by rw [← h, hb] at hA; cases hA
    cases o <;> first | exact hb | exact (set_other hne).trans hb
theorem vp_frame {α : Type} (ob : Obj) (b : Nat) (s : Sem α) : ∀ (Q : α → View → Prop) (A : View), s.vp P Q A → A b = none →
    s.vp P (fun a A'' => ∃ A', Q a A' ∧ A' b = none ∧ A'' = A'.set b ob) (A.set b ob) := by
  induction s with
  | pure a => intro Q A h hb; exact ⟨A, h, hb, rfl⟩
  | load m a k ih =>
    intro Q A h hb
    obtain ⟨v, hv, h⟩ := h
    exact ⟨v, by rw [cell?_set (ne_of_some hb (cell_some (by rw [hv]; rfl)))]; exact hv, ih v Q A h hb⟩
  | store m a v k ih =>
    intro Q A h hb
    obtain ⟨h1, h2, h3, h⟩ := h
    have hne := ne_of_some hb (cell_some h2)
    refine ⟨h1, by rw [cell?_set hne]; exact h2, by rw [frozen?_set hne]; exact h3, ?_⟩
    rw [setCell_set hne]
    exact ih Q _ h (setCell_none hb)
  | new o k ih =>
    intro Q A h hb c hc
    have hcb : c ≠ b := fun hx => by rw [hx, set_at] at hc; cases hc
    rw [set_other hcb] at hc
    rw [set_comm (fun x => hcb x.symm)]
    exact ih c Q _ (h c hc) (by rw [set_other (fun x => hcb x.symm)]; exact hb)
  | shape r k ih =>
    intro Q A h hb
    obtain ⟨o, ho, h⟩ := h
    exact ⟨o, by rw [set_other (ne_of_some hb (by rw [ho]; rfl))]; exact ho, ih _ Q A h hb⟩
  | freeze a n k ih =>
    intro Q A h hb
    obtain ⟨c, e, h1, h2, h⟩ := h
    have hne := ne_of_some hb (by rw [h1]; rfl : (A a.block).isSome = true)
    refine ⟨c, e, by rw [set_other hne]; exact h1, h2, ?_⟩
    rw [set_comm (fun x => hne x.symm)]
    exact ih Q _ h (by rw [set_other (fun x => hne x.symm)]; exact hb)
  | frozen a k ih =>
    intro Q A h hb
    have hne := ne_of_some hb h.1
    exact ⟨by rw [set_other hne]; exact h.1, by rw [frozen?_set hne]; exact ih _ Q A h.2 hb⟩
  | getObj r k ih =>
    intro Q A h hb
    obtain ⟨o, ho, hc, h⟩ := h
    exact ⟨o, by rw [set_other (ne_of_some hb (by rw [ho]; rfl))]; exact ho, hc, ih _ Q A h hb⟩
  | setObj r o k ih =>
    intro Q A h hb
    obtain ⟨o', ho, hc, h⟩ := h
    have hne := ne_of_some hb (by rw [ho]; rfl : (A r).isSome = true)
    refine ⟨o', by rw [set_other hne]; exact ho, hc, ?_⟩
    rw [set_comm (fun x => hne x.symm)]
    exact ih Q _ h (by rw [set_other (fun x => hne x.symm)]; exact hb)
  | choose q k ih =>
    intro Q A h hb
    simp only [Sem.vp] at h ⊢
    split
    · rename_i hq; rw [if_pos hq] at h; exact ih _ Q A h hb
    · rename_i hq; rw [if_neg hq] at h; exact fun t => ih _ Q A (h t) hb
  | sys c k ih => intro Q A h hb; exact h
  | program k ih => intro Q A h hb; exact ih P Q A h hb
  | mark m k ih => intro Q A h hb; exact ih Q A h hb
  | halt h => intro Q A h hb; exact h
theorem calls_frame {f : FuncId} {args : Array Value} {A : View} {R : Value → View → Prop} {b : Nat} (ob : Obj) (h : VCalls P f args A R) (hb : A b = none) :
    VCalls P f args (A.set b ob) fun v A'' => ∃ A', R v A' ∧ A' b = none ∧ A'' = A'.set b ob := by
  have hle : A ≤ A.set b ob := fun k o hk => by rw [set_other (fun hx => by rw [hx, hb] at hk; cases hk)]; exact hk
  have hmin : ∀ k, (A.set b ob).minus A k = if k = b then some ob else none := by
    intro k
    unfold View.minus
    by_cases hk : k = b
    · subst hk; rw [hb, if_pos rfl, set_at]
    · rw [if_neg hk]
      cases hA : A k with
      | none => rw [set_other hk]; exact hA
      | some o => rfl
  refine (h.frame hle).mono ?_
  rintro v A'' ⟨A', hR, hn, rfl⟩
  have hb' : A' b = none := hn b (by rw [hmin, if_pos rfl]; simp)
  refine ⟨A', hR, hb', ?_⟩
  funext k
  show (match A' k with | some o => some o | none => (A.set b ob).minus A k) = (if k = b then some ob else A' k)
  rw [hmin]
  by_cases hk : k = b
  · subst hk; rw [hb', if_pos rfl]
  · rw [if_neg hk, if_neg hk]
    cases A' k <;> rfl
theorem vop_frame {o : Oper} {K : VQ} {e : Env} {ds : List Deferred} {A : View} {b : Nat} (ob : Obj) (h : vop P n o K e ds A) (hb : A b = none) :
    vop P n o (fun e ds A'' => ∃ A', K e ds A' ∧ A' b = none ∧ A'' = A'.set b ob) e ds (A.set b ob) := by
  refine vp_mono _ _ ?_ (vp_frame ob b _ _ _ h hb)
  rintro nx A'' ⟨A', hn, hb', rfl⟩
  cases nx <;> first | exact ⟨A', hn, hb', rfl⟩ | exact calls_frame ob hn hb' | exact hn
end

section
variable {P : Program} {n : Nat} {ops : Array Oper} {S : View}
/-! ### The static side -/
def knd (ops : Array Oper) (i : Nat) : Kind :=
  match ops[i]? with
  | some o => kind o.op
  | none => .H
def isDet : Kind → Bool
  | .P | .D => true
  | _ => false
def direct (ops : Array Oper) (i x : Nat) : Bool :=
  match ops[x]? with
  | some o => o.after.any fun e => Region.binds .any e && e.on == i
  | none => false
def viaM (ops : Array Oper) (M : List Nat) (i x : Nat) : Bool :=
  match ops[x]? with
  | some o => o.after.any fun e => Region.binds .any e && decide (e.on < x) && Nat.testBit (M.getD e.on 0) i
  | none => false
def ckM (ops : Array Oper) (M : List Nat) : Bool :=
  (List.range ops.size).all fun x => (List.range ops.size).all fun i => !Nat.testBit (M.getD x 0) i || direct ops i x || viaM ops M i x
def apartB (ops : Array Oper) (i x : Nat) : Bool :=
  match ops[i]?, ops[x]? with
  | some a, some b => a.apart ops b
  | _, _ => false
def pairOk (ops : Array Oper) (M : List Nat) (j x : Nat) : Bool :=
  !direct ops x j && (Nat.testBit (M.getD x 0) j || (apartB ops j x && (knd ops x != .H || isDet (knd ops j))))
def pairsOk (ops : Array Oper) (M : List Nat) : List Nat → Bool
  | [] => true
  | j :: l => l.all (pairOk ops M j) && !l.contains j && pairsOk ops M l
def needM (ops : Array Oper) (M : List Nat) (x : Nat) : Bool :=
  (List.range ops.size).any fun i => knd ops i == .D && i != x && !Nat.testBit (M.getD x 0) i
def edgesIn (ops : Array Oper) : Bool := ops.all fun o => o.after.all fun e => !Region.binds .any e || decide (e.on < ops.size)
def noSelf (ops : Array Oper) : Bool := (List.range ops.size).all fun i => !direct ops i i
def okDraw (ops : Array Oper) (M l : List Nat) : Bool :=
  ckM ops M && noSelf ops && pairsOk ops M l && edgesIn ops && Region.noSelect ops && (List.range ops.size).all (fun i => l.contains i) && l.all (fun i => decide (i < ops.size)) && decide (l.length ≤ ops.size)

theorem pairs_split {M : List Nat} : ∀ {l1 l2 : List Nat} {x : Nat}, pairsOk ops M (l1 ++ x :: l2) = true → (∀ j ∈ l1, pairOk ops M j x = true ∧ j ≠ x) ∧ x ∉ l2 ∧ pairsOk ops M (l1 ++ l2) = true
  | [], l2, x, h => by
    simp only [List.nil_append, pairsOk, Bool.and_eq_true, Bool.not_eq_true'] at h
    refine ⟨fun j hj => absurd hj (by simp), (fun hx => ?_), h.2⟩
    have := h.1.2
    rw [List.contains_iff_mem.2 hx] at this
    cases this
  | j :: l1, l2, x, h => by
    simp only [List.cons_append, pairsOk, Bool.and_eq_true, Bool.not_eq_true'] at h
    obtain ⟨⟨h1, h2⟩, h3⟩ := h
    obtain ⟨i1, i2, i3⟩ := pairs_split h3
    have hjx : j ≠ x := fun hx => by
      have : (l1 ++ x :: l2).contains j = true := List.contains_iff_mem.2 (by rw [hx]; simp)
      rw [this] at h2; cases h2
    refine ⟨fun k hk => ?_, i2, ?_⟩
    · rcases List.mem_cons.1 hk with rfl | hk
      · exact ⟨List.all_eq_true.1 h1 x (by simp), hjx⟩
      · exact i1 k hk
    · simp only [List.cons_append, pairsOk, Bool.and_eq_true, Bool.not_eq_true']
      refine ⟨⟨List.all_eq_true.2 fun k hk => List.all_eq_true.1 h1 k ?_, ?_⟩, i3⟩
      · rcases List.mem_append.1 hk with hk | hk <;> simp [hk]
      · cases hc : (l1 ++ l2).contains j with
        | false => rfl
        | true =>
          have hm := List.contains_iff_mem.1 hc
          have : (l1 ++ x :: l2).contains j = true := List.contains_iff_mem.2 (by rcases List.mem_append.1 hm with hm | hm <;> simp [hm])
          rw [this] at h2; cases h2

/-! ### Taking an operation to the front -/
variable {needS : Nat → Bool} {Q : VQ}
theorem apart_get {i x : Nat} {a b : Oper} (ha : ops[i]? = some a) (hb : ops[x]? = some b) (h : apartB ops i x = true) : a.apart ops b = true := by
  unfold apartB at h
  rw [ha, hb] at h
  exact h
theorem seqV_get {l1 l2 : List Nat} {i : Nat} {e : Env} {ds : List Deferred} {A : View} (h : seqV P n ops S needS Q (i :: l2) e ds A) : ∃ o, ops[i]? = some o := by
  simp only [seqV, stepV] at h
  split at h
  · exact h.elim
  · exact ⟨_, ‹_›⟩
theorem moveDet {x : Nat} {ox : Oper} {v : Value} (hx : ops[x]? = some ox) (hsel : Region.noSelect ops = true) : ∀ (l1 : List Nat) {l2 : List Nat} {e : Env} {ds : List Deferred} {A : View},
    (∀ j ∈ l1, apartB ops j x = true) → detV P n ops S x e = some v → seqV P n ops S needS Q (l1 ++ x :: l2) e ds A → seqV P n ops S needS Q (l1 ++ l2) (putE e ox.dst v) ds A
  | [], l2, e, ds, A, _, hd, h => (stepV_det hx hd).1 h
  | j :: l1, l2, e, ds, A, hap, hd, h => by
    obtain ⟨oj, hj⟩ := seqV_get (l1 := []) h
    obtain ⟨a1, a2, a3⟩ := Oper.apart_spec (apart_get hj hx (hap j (by simp)))
    simp only [List.cons_append, seqV] at h ⊢
    refine stepV_put hj (Region.noSelect_spec hsel j oj · · hj) a3 a2 ?_ h
    intro u ds' A' hq
    refine moveDet hx hsel l1 (fun k hk => hap k (by simp [hk])) ?_ hq
    rw [detV_put hx a1]
    exact hd
theorem stepV_putL {j : Nat} {oj : Oper} {d : Option Tmp} {v : Value} {K K' : VQ} {e : Env} {ds : List Deferred} {A : View} {b : Nat} {ob : Obj} (hj : ops[j]? = some oj) (hs : ∀ cs b, oj.op ≠ .select cs b)
    (h1 : ∀ t, d = some t → t ∉ oj.looksAt ops) (h2 : ∀ t, oj.dst = some t → d ≠ some t) (hb : A b = none)
    (hK : ∀ u ds' A', A' b = none → K (putE e oj.dst u) ds' A' → K' (putE (putE e oj.dst u) d v) ds' (A'.set b ob)) (k : stepV P n ops S needS j K e ds A) :
    stepV P n ops S needS j K' (putE e d v) ds (A.set b ob) := by
  have hc : ∀ u, putE (putE e oj.dst u) d v = putE (putE e d v) oj.dst u := fun u => put_comm h2
  unfold stepV at *
  simp only [hj, gif, want_put h1] at k ⊢
  rw [xval_congr (A := none') (agree (n := n) (e := e) (v := v) h1), xval_congr (A := S) (agree (n := n) (e := e) (v := v) h1), xnew_congr (agree (n := n) (e := e) (v := v) h1)]
  split at k
  · rename_i hw
    rw [if_pos hw]
    cases hk : kind oj.op <;> simp only [hk] at k ⊢
    · exact let ⟨u, a, c⟩ := k; ⟨u, a, by have hx := hK _ _ _ hb c; rw [hc] at hx; exact hx⟩
    · exact let ⟨u, a, c⟩ := k; ⟨u, a, by have hx := hK _ _ _ hb c; rw [hc] at hx; exact hx⟩
    · obtain ⟨u, a, c⟩ := k
      refine ⟨u, a, fun bb hbb => ?_⟩
      have hne : bb ≠ b := fun hx => by rw [hx, set_at] at hbb; cases hbb
      rw [set_other hne] at hbb
      have hx := hK _ _ _ (by rw [set_other (fun x => hne x.symm)]; exact hb) (c bb hbb)
      rw [hc, set_comm hne] at hx
      exact hx
    · refine vop_put (ops := ops) hs h1 ?_ (vop_frame ob k hb)
      rintro u ds' A'' ⟨A', ⟨A1, hle, hS, hq⟩, hb', rfl⟩
      have hb1 : A1 b = none := by
        cases hA : A1 b with
        | none => rfl
        | some o => rw [hle b o hA] at hb'; cases hb'
      refine ⟨A1.set b ob, set_le hle _ _, fun hn => ?_, by have hx := hK _ _ _ hb1 hq; rw [hc] at hx; exact hx⟩
      intro k o hk
      have := hS hn k o hk
      rw [set_other (fun hx => by rw [hx, hb1] at this; cases this)]
      exact this
  · rename_i hw
    rw [if_neg hw, ← hc]
    exact hK _ _ _ hb k
theorem moveL {x : Nat} {ox : Oper} {q : Obj × (Nat → Value)} {b : Nat} (hx : ops[x]? = some ox) (hk : kind ox.op = .L) (hsel : Region.noSelect ops = true) :
    ∀ (l1 : List Nat) {l2 : List Nat} {e : Env} {ds : List Deferred} {A : View}, (∀ j ∈ l1, apartB ops j x = true) → vwant n ops e ox = true → xnew P ox.op (ev n e) = some q → A b = none →
    seqV P n ops S needS Q (l1 ++ x :: l2) e ds A → seqV P n ops S needS Q (l1 ++ l2) (putE e ox.dst (q.2 b)) ds (A.set b q.1)
  | [], l2, e, ds, A, _, hw, hn, hb, h => by
    simp only [List.nil_append, seqV, stepV, hx, gif] at h
    rw [if_pos hw] at h
    simp only [hk] at h
    obtain ⟨q', hq', h⟩ := h
    rw [hn] at hq'
    simp only [Option.some.injEq] at hq'
    subst hq'
    exact h b hb
  | j :: l1, l2, e, ds, A, hap, hw, hn, hb, h => by
    obtain ⟨oj, hj⟩ := seqV_get (l1 := []) h
    obtain ⟨a1, a2, a3⟩ := Oper.apart_spec (apart_get hj hx (hap j (by simp)))
    simp only [List.cons_append, seqV] at h ⊢
    refine stepV_putL hj (Region.noSelect_spec hsel j oj · · hj) a3 a2 hb ?_ h
    intro u ds' A' hb' hq
    exact moveL hx hk hsel l1 (fun k hk => hap k (by simp [hk])) (by rw [want_put a1]; exact hw) (by rw [xnew_congr (agree (n := n) (e := e) (v := u) a1)]; exact hn) hb' hq
theorem moveH {x : Nat} {ox : Oper} (hx : ops[x]? = some ox) (hk : kind ox.op = .H) (hsel : Region.noSelect ops = true) :
    ∀ (l1 : List Nat) {l2 : List Nat} {e : Env} {ds : List Deferred} {A : View}, (∀ j ∈ l1, apartB ops j x = true ∧ isDet (knd ops j) = true) → vwant n ops e ox = true →
    seqV P n ops S needS Q (l1 ++ x :: l2) e ds A → vop P n ox (dn fun e' ds' A' => (needS x = true → S ≤ A') ∧ seqV P n ops S needS Q (l1 ++ l2) e' ds' A') e ds A
  | [], l2, e, ds, A, _, hw, h => by
    simp only [List.nil_append, seqV, stepV, hx, gif] at h
    rw [if_pos hw] at h
    simp only [hk] at h
    exact h
  | j :: l1, l2, e, ds, A, hap, hw, h => by
    obtain ⟨oj, hj⟩ := seqV_get (l1 := []) h
    obtain ⟨a1, a2, a3⟩ := Oper.apart_spec (apart_get hj hx (hap j (by simp)).1)
    have hdet : ∃ v, detV P n ops S j e = some v := by
      have hkj := (hap j (by simp)).2
      unfold knd at hkj
      rw [hj] at hkj
      simp only [List.cons_append, seqV, stepV, hj, gif] at h
      unfold detV
      simp only [hj]
      split at h
      · rename_i hwj
        rw [if_pos hwj]
        cases hk' : kind oj.op <;> simp only [hk', isDet, reduceCtorEq] at h hkj ⊢
        · exact let ⟨v, hv, _⟩ := h; ⟨v, hv⟩
        · exact let ⟨v, hv, _⟩ := h; ⟨v, hv⟩
      · rename_i hwj
        exact ⟨undef, by rw [if_neg hwj]⟩
    obtain ⟨v, hv⟩ := hdet
    simp only [List.cons_append, seqV] at h
    have h' := (stepV_det hj hv).1 h
    have ih := moveH hx hk hsel l1 (fun k hk => hap k (by simp [hk])) (by rw [want_put a1]; exact hw) h'
    refine vop_unput (ops := ops) (Region.noSelect_spec hsel x ox · · hx) a1 ?_ ih
    rintro u ds' A' ⟨A1, hle, hS, hq⟩
    refine ⟨A1, hle, hS, ?_⟩
    simp only [List.cons_append, seqV]
    refine (stepV_det hj (v := v) ?_).2 ?_
    · rw [detV_put hj a3]; exact hv
    · rw [put_comm (fun d hd hx => a2 d hx hd)]
      exact hq
end

section
variable {P : Program} {n : Nat} {ops : Array Oper} {S : View} {Q : VQ}
/-! ### Any order -/
theorem listed_of_M {M : List Nat} {listed : Array Bool} (hM : ckM ops M = true) (hcl : ∀ (m : Nat) (o : Oper), ops[m]? = some o → listed.getD m false = true → ∀ e ∈ o.after, Region.binds .any e = true → listed.getD e.on false = true) :
    ∀ (x : Nat) (o : Oper), ops[x]? = some o → (∀ e ∈ o.after, Region.binds .any e = true → listed.getD e.on false = true) → ∀ i, i < ops.size → Nat.testBit (M.getD x 0) i = true → listed.getD i false = true := by
  intro x
  induction x using Nat.strongRecOn with
  | _ x ih =>
    intro o ho hd i hi ht
    have hx : x < ops.size := (Array.getElem?_eq_some_iff.1 ho).1
    have h1 := List.all_eq_true.1 (List.all_eq_true.1 hM x (List.mem_range.2 hx)) i (List.mem_range.2 hi)
    rw [ht] at h1
    simp only [Bool.not_true, Bool.false_or, Bool.or_eq_true] at h1
    rcases h1 with h1 | h1
    · unfold direct at h1
      rw [ho] at h1
      obtain ⟨e, he, h2⟩ := Array.any_eq_true'.1 h1
      simp only [Bool.and_eq_true, beq_iff_eq] at h2
      rw [← h2.2]
      exact hd e he h2.1
    · unfold viaM at h1
      rw [ho] at h1
      obtain ⟨e, he, h2⟩ := Array.any_eq_true'.1 h1
      simp only [Bool.and_eq_true, decide_eq_true_eq] at h2
      have hle := hd e he h2.1.1
      have hlt : e.on < ops.size := by omega
      have hoe : ops[e.on]? = some ops[e.on] := Array.getElem?_eq_getElem hlt
      exact ih e.on h2.1.2 _ hoe (hcl e.on _ hoe hle) i hi h2.2

theorem holds_same {A A' : View} {S' : View} {w w' : World} (hA : Holds A w) (hS : Holds S' w) (h : Holds S' w') (k : Kept S' w S' w') : Holds A w' := by
  intro b o hb
  have hw := hA b o hb
  cases hs : S' b with
  | some o' =>
    have h1 := hS b o' hs
    rw [hw] at h1
    simp only [Option.some.injEq] at h1
    subst h1
    exact h b o hs
  | none => rw [k.old b (hA.lt (by rw [hb]; simp)) hs]; exact hw
theorem det_wp {i : Nat} {o : Oper} {v : Value} {e : Env} {ds : List Deferred} {A : View} {w : World} {K : Act → World → Prop} {Q' : Exit → Act → World → Prop} (ho : ops[i]? = some o) (hd : detV P n ops S i e = some v)
    (hA : Holds A w) (hS : knd ops i = .D → S ≤ A) (hK : ∀ w', Holds A w' → Kept A w A w' → K (frame n (putE e o.dst v) ds) w') : wpOp P ops Q' i K (frame n e ds) w := by
  unfold wpOp
  simp only [ho, yielded_frame]
  unfold detV at hd
  simp only [ho] at hd
  split
  · rename_i hw
    rw [if_pos (show vwant n ops e o = true from hw)] at hd
    have fin : ∀ S' : View, S' ≤ A → xval P o.op (ev n e) S' = some v → o.wp P (frame n e ds) w K Q' := by
      intro S' hle hx
      unfold Oper.wp
      rw [frame_eval]
      obtain ⟨dst, op, ty, pos, af, g⟩ := o
      obtain ⟨nx, w', hr, A', ⟨h1, h2⟩, h3, h4⟩ := vp_sound _ (fun nx A' => nx = .value v ∧ A' = S') _ _ (xval_sound (dst := dst) (ty := ty) (pos := pos) (af := af) (g := g) hx ⟨rfl, rfl⟩) (hA.mono hle)
      subst h1 h2
      rw [hr]
      simp only [Oper.upon, frame_put]
      refine hK w' (holds_same (A' := A) hA (hA.mono hle) h3 h4) ⟨h4.os, h4.tape, h4.output, h4.size, fun b hb hn => h4.old b hb ?_, fun b hb => .inl hb⟩
      cases hs : A' b with
      | none => rfl
      | some o => rw [hle b o hs] at hn; cases hn
    refine .inl ?_
    cases hk : kind o.op <;> simp only [hk, reduceCtorEq] at hd
    · exact fin none' (fun b o hb => by cases hb) hd
    · exact fin S (hS (by unfold knd; rw [ho]; exact hk)) hd
  · rename_i hw
    rw [if_neg (show ¬ vwant n ops e o = true from hw)] at hd
    simp only [Option.some.injEq] at hd
    subst hd
    rw [frame_put]
    exact hK w hA (Kept.refl _ _)

theorem vop_some {o : Oper} {K : VQ} {e : Env} {ds : List Deferred} {A : View} {w : World} (h : vop P n o K e ds A) (hA : Holds A w) : ∃ u ds' A' w', K (putE e o.dst u) ds' A' ∧ Holds A' w' := by
  obtain ⟨nx, w', _, A', hn, hh, _⟩ := vp_sound _ _ _ _ h hA
  cases nx <;> simp only [vnext] at hn
  · exact ⟨_, _, A', w', hn, hh⟩
  · exact ⟨_, _, A', w', hn, hh⟩
  · obtain ⟨e2, w2, _, ⟨v, _, A2, hK, hh2, _⟩, _⟩ := hn w' hh []
    exact ⟨_, _, A2, w2, hK, hh2⟩
  · exact ⟨_, _, A', w', hn, hh⟩
theorem stepV_some {needS : Nat → Bool} {i : Nat} {o : Oper} {K : VQ} {e : Env} {ds : List Deferred} {A : View} {w : World} (ho : ops[i]? = some o) (h : stepV P n ops S needS i K e ds A) (hA : Holds A w) :
    ∃ u ds' A' w', K (putE e o.dst u) ds' A' ∧ Holds A' w' := by
  unfold stepV at h
  simp only [ho, gif] at h
  split at h
  · cases hk : kind o.op <;> simp only [hk] at h
    · exact let ⟨v, _, h2⟩ := h; ⟨v, ds, A, w, h2, hA⟩
    · exact let ⟨v, _, h2⟩ := h; ⟨v, ds, A, w, h2, hA⟩
    · exact let ⟨q, _, h2⟩ := h; ⟨_, ds, _, _, h2 _ (none_at_size hA), holds_new hA _⟩
    · obtain ⟨u, ds', A', w', ⟨A1, hle, _, hK⟩, hh⟩ := vop_some h hA
      exact ⟨u, ds', A1, w', hK, hh.mono hle⟩
  · exact ⟨_, _, A, w, h, hA⟩
theorem getDet {needS : Nat → Bool} {x : Nat} {ox : Oper} (hx : ops[x]? = some ox) : ∀ (l1 : List Nat) {l2 : List Nat} {e : Env} {ds : List Deferred} {A : View} {w : World},
    (∀ j ∈ l1, apartB ops j x = true) → seqV P n ops S needS Q (l1 ++ x :: l2) e ds A → Holds A w → (vwant n ops e ox = true → isDet (kind ox.op) = true) → ∃ v, detV P n ops S x e = some v
  | [], l2, e, ds, A, w, _, h, hA, hd => by
    simp only [List.nil_append, seqV, stepV, hx, gif] at h
    unfold detV
    simp only [hx]
    split at h
    · rename_i hw
      rw [if_pos hw]
      have := hd hw
      cases hk : kind ox.op <;> simp only [hk, isDet, reduceCtorEq, Bool.false_eq_true] at h this ⊢
      · exact let ⟨v, hv, _⟩ := h; ⟨v, hv⟩
      · exact let ⟨v, hv, _⟩ := h; ⟨v, hv⟩
    · rename_i hw
      exact ⟨undef, by rw [if_neg hw]⟩
  | j :: l1, l2, e, ds, A, w, hap, h, hA, hd => by
    obtain ⟨oj, hj⟩ := seqV_get (l1 := []) h
    obtain ⟨a1, a2, a3⟩ := Oper.apart_spec (apart_get hj hx (hap j (by simp)))
    simp only [List.cons_append, seqV] at h
    obtain ⟨u, ds', A', w', hK, hh⟩ := stepV_some hj h hA
    obtain ⟨v, hv⟩ := getDet hx l1 (fun k hk => hap k (by simp [hk])) hK hh (by rw [want_put a1]; exact hd)
    rw [detV_put hx a1] at hv
    exact ⟨v, hv⟩
theorem getNew {needS : Nat → Bool} {x : Nat} {ox : Oper} (hx : ops[x]? = some ox) (hk : kind ox.op = .L) : ∀ (l1 : List Nat) {l2 : List Nat} {e : Env} {ds : List Deferred} {A : View} {w : World},
    (∀ j ∈ l1, apartB ops j x = true) → seqV P n ops S needS Q (l1 ++ x :: l2) e ds A → Holds A w → vwant n ops e ox = true → ∃ q, xnew P ox.op (ev n e) = some q
  | [], l2, e, ds, A, w, _, h, hA, hw => by
    simp only [List.nil_append, seqV, stepV, hx, gif] at h
    rw [if_pos hw] at h
    simp only [hk] at h
    exact let ⟨q, hq, _⟩ := h; ⟨q, hq⟩
  | j :: l1, l2, e, ds, A, w, hap, h, hA, hw => by
    obtain ⟨oj, hj⟩ := seqV_get (l1 := []) h
    obtain ⟨a1, a2, a3⟩ := Oper.apart_spec (apart_get hj hx (hap j (by simp)))
    simp only [List.cons_append, seqV] at h
    obtain ⟨u, ds', A', w', hK, hh⟩ := stepV_some hj h hA
    obtain ⟨q, hq⟩ := getNew hx hk l1 (fun k hk => hap k (by simp [hk])) hK hh (by rw [want_put a1]; exact hw)
    rw [xnew_congr (agree (n := n) (e := e) (v := u) a1)] at hq
    exact ⟨q, hq⟩
theorem getD_both' {listed : Array Bool} {i : Nat} (hi : i < listed.size) (h : listed.getD i true = false) : listed.getD i false = false := by
  simp only [Array.getD_eq_getD_getElem?, Array.getElem?_eq_getElem hi, Option.getD_some] at h ⊢
  exact h

theorem seq_any {M : List Nat} {A0 : View} {w0 : World} {Q' : Exit → Act → World → Prop} (hM : ckM ops M = true) (hE : edgesIn ops = true) (hself : noSelf ops = true) (hsel : Region.noSelect ops = true) (hQ : ∀ a w, Mid n Q A0 w0 a w → Q' .normal a w) :
    ∀ (fuel : Nat) (listed : Array Bool) (l : List Nat) (e : Env) (ds : List Deferred) (A : View) (w : World), listed.size = ops.size → l.length ≤ fuel →
    (∀ i, i ∈ l ↔ i < ops.size ∧ listed.getD i true = false) → pairsOk ops M l = true →
    (∀ (m : Nat) (o : Oper), ops[m]? = some o → listed.getD m false = true → ∀ e ∈ o.after, Region.binds .any e = true → listed.getD e.on false = true) →
    ((∃ i ∈ l, knd ops i = .D) → S ≤ A) → seqV P n ops S (needM ops M) Q l e ds A → Holds A w → Kept A0 w0 A w → wpAny P .any ops Q' fuel listed (frame n e ds) w := by
  intro fuel
  induction fuel with
  | zero =>
    intro listed l e ds A w hsz hlen hl hp hcl hS h hA h0
    have : l = [] := List.length_eq_zero_iff.1 (by omega)
    subst this
    refine ⟨?_, hQ _ _ ⟨e, ds, rfl, A, h, hA, h0⟩⟩
    cases hr : Region.ready .any ops listed with
    | nil => rfl
    | cons i r =>
      have hi : i ∈ Region.ready .any ops listed := by rw [hr]; simp
      obtain ⟨h1, h2⟩ := mem_ready.1 hi
      obtain ⟨o, ho, _⟩ := h2
      exact absurd ((hl i).2 ⟨(Array.getElem?_eq_some_iff.1 ho).1, h1⟩) (by simp)
  | succ fuel ih =>
    intro listed l e ds A w hsz hlen hl hp hcl hS h hA h0
    refine ⟨fun hr => ?_, fun x hx => ?_⟩
    · cases l with
      | nil => exact hQ _ _ ⟨e, ds, rfl, A, h, hA, h0⟩
      | cons i l =>
        exfalso
        obtain ⟨hi, hun⟩ := (hl i).1 (by simp)
        have hoi : ops[i]? = some ops[i] := Array.getElem?_eq_getElem hi
        have : i ∈ Region.ready .any ops listed := by
          refine mem_ready.2 ⟨hun, _, hoi, fun ed he hb => ?_⟩
          have hlt : ed.on < ops.size := by
            have h1 := Array.all_eq_true_iff_forall_mem.1 (Array.all_eq_true_iff_forall_mem.1 hE _ (Array.mem_of_getElem? hoi)) ed he
            rw [hb] at h1
            simpa using h1
          have hdir : direct ops ed.on i = true := by
            unfold direct
            rw [hoi]
            exact Array.any_eq_true'.2 ⟨ed, he, by simp [hb]⟩
          cases hc : listed.getD ed.on false with
          | true => rfl
          | false =>
            exfalso
            have hm : ed.on ∈ i :: l := (hl ed.on).2 ⟨hlt, by
              have hs : ed.on < listed.size := by omega
              simp only [Array.getD_eq_getD_getElem?, Array.getElem?_eq_getElem hs, Option.getD_some] at hc ⊢
              exact hc⟩
            simp only [pairsOk, Bool.and_eq_true] at hp
            rcases List.mem_cons.1 hm with hm | hm
            · have h2 := List.all_eq_true.1 hself i (List.mem_range.2 hi)
              rw [hm] at hdir
              rw [hdir] at h2
              cases h2
            · have h2 := List.all_eq_true.1 hp.1.1 ed.on hm
              unfold pairOk at h2
              rw [hdir] at h2
              cases h2
        rw [hr] at this
        cases this
    · obtain ⟨hun, ox, hox, hdir⟩ := mem_ready.1 hx
      have hxs : x < ops.size := (Array.getElem?_eq_some_iff.1 hox).1
      have hxl : x ∈ l := (hl x).2 ⟨hxs, hun⟩
      obtain ⟨l1, l2, rfl⟩ := List.append_of_mem hxl
      obtain ⟨hpair, hx2, hp'⟩ := pairs_split hp
      have hx1 : x ∉ l1 := fun hm => (hpair x hm).2 rfl
      have hbit : ∀ j ∈ l1 ++ x :: l2, Nat.testBit (M.getD x 0) j = false := by
        intro j hj
        obtain ⟨hjs, hju⟩ := (hl j).1 hj
        cases hb : Nat.testBit (M.getD x 0) j with
        | false => rfl
        | true =>
          have h1 := listed_of_M hM hcl x ox hox hdir j hjs hb
          rw [getD_both' (by omega) hju] at h1
          cases h1
      have hap : ∀ j ∈ l1, apartB ops j x = true ∧ (knd ops x ≠ .H ∨ isDet (knd ops j) = true) := by
        intro j hj
        have h1 := (hpair j hj).1
        unfold pairOk at h1
        rw [hbit j (by simp [hj])] at h1
        simp only [Bool.false_or, Bool.and_eq_true, Bool.or_eq_true, bne_iff_ne, ne_eq] at h1
        exact h1.2
      have hknd : knd ops x = kind ox.op := by unfold knd; rw [hox]
      -- what stands behind the step
      have next : ∀ (e' : Env) (ds' : List Deferred) (A' : View) (w' : World), ((∃ i ∈ l1 ++ l2, knd ops i = .D) → S ≤ A') → seqV P n ops S (needM ops M) Q (l1 ++ l2) e' ds' A' → Holds A' w' → Kept A0 w0 A' w' →
          wpAny P .any ops Q' fuel (listed.setIfInBounds x true) (frame n e' ds') w' := by
        intro e' ds' A' w' hS' h' hA' h0'
        refine ih _ (l1 ++ l2) e' ds' A' w' (by simp [hsz]) (by simp only [List.length_append, List.length_cons] at hlen ⊢; omega) (fun i => ?_) hp' (fun m o ho hm ed he hb => ?_) hS' h' hA' h0'
        · by_cases hix : i = x
          · subst hix
            constructor
            · intro hm; rcases List.mem_append.1 hm with hm | hm
              · exact absurd hm hx1
              · exact absurd hm hx2
            · rintro ⟨_, h2⟩
              have : (listed.setIfInBounds i true).getD i true = true := by simp [hsz, hxs]
              rw [this] at h2; cases h2
          · rw [getD_set_ne true (Ne.symm hix)]
            rw [← hl i]
            simp [hix]
        · by_cases hmx : m = x
          · subst hmx
            rw [hox] at ho
            simp only [Option.some.injEq] at ho
            subst ho
            exact getD_set_true (hdir ed he hb)
          · rw [getD_set_ne false (Ne.symm hmx)] at hm
            exact getD_set_true (hcl m o ho hm ed he hb)
      by_cases hD : vwant n ops e ox = true → isDet (kind ox.op) = true
      · obtain ⟨v, hv⟩ := getDet hox l1 (fun j hj => (hap j hj).1) h hA hD
        refine det_wp hox hv hA (fun hk => hS ⟨x, hxl, hk⟩) fun w' hA' hk' => ?_
        exact next _ _ A w' (fun ⟨i, hi, hk⟩ => hS ⟨i, by rcases List.mem_append.1 hi with hi | hi <;> simp [hi], hk⟩) (moveDet hox hsel l1 (fun j hj => (hap j hj).1) hv h) hA' (h0.trans hk')
      · obtain ⟨hw, hnd⟩ := Classical.not_imp.1 hD
        unfold wpOp
        simp only [hox, yielded_frame]
        rw [if_pos (show Region.wanted ox (gval n ops e) = true from hw)]
        refine .inl ?_
        cases hk : kind ox.op with
        | P => rw [hk] at hnd; exact absurd rfl hnd
        | D => rw [hk] at hnd; exact absurd rfl hnd
        | L =>
          obtain ⟨q, hq⟩ := getNew hox hk l1 (fun j hj => (hap j hj).1) h hA hw
          unfold Oper.wp
          rw [frame_eval]
          obtain ⟨dst, op, ty, pos, af, g⟩ := ox
          obtain ⟨ob, f⟩ := q
          obtain ⟨nx, w', hr, A', ⟨b, hb, h1, h2⟩, h3, h4⟩ := vp_sound _ (fun nx A' => ∃ b, A b = none ∧ nx = .value (f b) ∧ A' = A.set b ob) _ _ (xnew_sound (dst := dst) (ty := ty) (pos := pos) (af := af) (g := g) hq (fun b hb => ⟨b, hb, rfl, rfl⟩)) hA
          subst h1 h2
          rw [hr]
          simp only [Oper.upon, frame_put]
          refine next _ _ _ w' (fun ⟨i, hi, hk⟩ => ?_) (moveL hox hk hsel l1 (fun j hj => (hap j hj).1) hw hq hb h) h3 (h0.trans h4)
          have hSA := hS ⟨i, by rcases List.mem_append.1 hi with hi | hi <;> simp [hi], hk⟩
          intro k o hko
          have := hSA k o hko
          rw [set_other (fun hx => by rw [hx, hb] at this; cases this)]
          exact this
        | H =>
          have hH := moveH hox hk hsel l1 (fun j hj => ⟨(hap j hj).1, (hap j hj).2.resolve_left (by rw [hknd, hk]; simp)⟩) hw h
          refine Oper.wp_mono ?_ (vop_wp hH hA h0)
          rintro a w' hmid
          obtain ⟨e', ds', rfl, A', ⟨hS', hq⟩, hh, hk'⟩ := hmid.dn
          refine next e' ds' A' w' (fun ⟨i, hi, hki⟩ => hS' ?_) hq hh hk'
          have him : i ∈ l1 ++ x :: l2 := by rcases List.mem_append.1 hi with hi | hi <;> simp [hi]
          refine List.any_eq_true.2 ⟨i, List.mem_range.2 ((hl i).1 him).1, ?_⟩
          have hix : i ≠ x := fun hx => by subst hx; rcases List.mem_append.1 hi with hi | hi; exact hx1 hi; exact hx2 hi
          rw [hki, hbit i him]
          simp [hix]
theorem vdraw {id : Nat} {M l : List Nat} {Q : Exit → VQ} {e : Env} {ds : List Deferred} {A : View} (S : View) (hm : P.follows .mixedOrders = true) (hok : okDraw ops M l = true) (hS : S ≤ A)
    (h : seqD P n ops S (needM ops M) (Q .normal) l e ds A) : VCode P n (.region id ops true) Q e ds A := by
  intro w hA
  simp only [okDraw, Bool.and_eq_true] at hok
  obtain ⟨⟨⟨⟨⟨⟨⟨h1, h2⟩, h3⟩, h4⟩, h5⟩, h6⟩, h7⟩, h8⟩ := hok
  refine wp_region_any hm ?_
  refine seq_any (Q := Q .normal) (A0 := A) (w0 := w) (Q' := Goal n Q A w) h1 h4 h2 h5 (fun a w' hmid => hmid) ops.size (Array.replicate ops.size false) l e ds A { w with drawn := w.drawn + 1 } (by simp) ?_ (fun i => ?_) h3 ?_ (fun _ => hS) (seqV_of_seqD l h) hA
    ⟨rfl, rfl, rfl, Nat.le_refl _, fun _ _ _ => rfl, fun _ hb => .inl hb⟩
  · simpa using h8
  · constructor
    · intro hi
      have : i < ops.size := by simpa using List.all_eq_true.1 h7 i hi
      exact ⟨this, by simp [this]⟩
    · rintro ⟨hi, _⟩
      exact List.contains_iff_mem.1 (List.all_eq_true.1 h6 i (List.mem_range.2 hi))
  · intro m o ho hm
    have hms : m < ops.size := (Array.getElem?_eq_some_iff.1 ho).1
    simp [hms] at hm
end

/-! ## For simp -/
section
variable {P : Program} {n : Nat} {ops : Array Oper} {S : View} {needS : Nat → Bool} {Q K : VQ} {e : Env} {ds : List Deferred} {A : View}
theorem seqD_nil : seqD P n ops S needS Q [] e ds A = Q e ds A := rfl
theorem seqD_cons (i : Nat) (l : List Nat) : seqD P n ops S needS Q (i :: l) e ds A = stepD P n ops S needS i (seqD P n ops S needS Q l) e ds A := rfl
theorem stepD_eq (i : Nat) : stepD P n ops S needS i K e ds A = onS ops[i]? fun o => gif (vwant n ops e o) (stepK P n S (needS i) o K e ds A) (K (putE e o.dst undef) ds A) := rfl
variable (d : Option Tmp) (ty : TypeId) (p : String) (af : Array Edge) (g : Option (Nat × Bool)) (nd : Bool)
@[go_sem] theorem vwant_none (op : Op) : vwant n ops e ⟨d, op, ty, p, af, none⟩ = true := _root_.id rfl
@[go_sem] theorem vwant_some (op : Op) (j : Nat) (b : Bool) : vwant n ops e ⟨d, op, ty, p, af, some (j, b)⟩ = (gval n ops e j == some b) := _root_.id rfl
@[go_sem] theorem stepK_move (x : Operand) : stepK P n S nd ⟨d, .move x, ty, p, af, g⟩ K e ds A = K (putE e d (ev n e x)) ds A := by simp [stepK, kind, xval, onS_some]
@[go_sem] theorem stepK_assign (x : Operand) : stepK P n S nd ⟨d, .assign x, ty, p, af, g⟩ K e ds A = K (putE e d (ev n e x)) ds A := by simp [stepK, kind, xval, onS_some]
@[go_sem] theorem stepK_pick (c a b : Operand) : stepK P n S nd ⟨d, .pick c a b, ty, p, af, g⟩ K e ds A = onS (xval P (.pick c a b) (ev n e) none') (fun v => K (putE e d v) ds A) := _root_.id rfl
@[go_sem] theorem stepK_nilCheck (x : Operand) : stepK P n S nd ⟨d, .nilCheck x, ty, p, af, g⟩ K e ds A = onS (xval P (.nilCheck x) (ev n e) none') (fun v => K (putE e d v) ds A) := _root_.id rfl
@[go_sem] theorem stepK_binOp (op : BinOp) (t : TypeId) (x y : Operand) (u : TypeId) : stepK P n S nd ⟨d, .binOp op t x y u, ty, p, af, g⟩ K e ds A = onS (xval P (.binOp op t x y u) (ev n e) none') (fun v => K (putE e d v) ds A) := _root_.id rfl
@[go_sem] theorem stepK_unOp (op : UnOp) (t : TypeId) (x : Operand) : stepK P n S nd ⟨d, .unOp op t x, ty, p, af, g⟩ K e ds A = onS (xval P (.unOp op t x) (ev n e) none') (fun v => K (putE e d v) ds A) := _root_.id rfl
@[go_sem] theorem stepK_convert (s t : TypeId) (x : Operand) : stepK P n S nd ⟨d, .convert s t x, ty, p, af, g⟩ K e ds A = onS (xval P (.convert s t x) (ev n e) none') (fun v => K (putE e d v) ds A) := _root_.id rfl
@[go_sem] theorem stepK_makeInterface (t : TypeId) (x : Operand) : stepK P n S nd ⟨d, .makeInterface t x, ty, p, af, g⟩ K e ds A = onS (xval P (.makeInterface t x) (ev n e) none') (fun v => K (putE e d v) ds A) := _root_.id rfl
@[go_sem] theorem stepK_makeFunc (f : Fn) (a b : Array Operand) : stepK P n S nd ⟨d, .makeFunc f a b, ty, p, af, g⟩ K e ds A = onS (xval P (.makeFunc f a b) (ev n e) none') (fun v => K (putE e d v) ds A) := _root_.id rfl
@[go_sem] theorem stepK_slice (t : TypeId) (x : Operand) (l h : Option Operand) : stepK P n S nd ⟨d, .slice t x l h none, ty, p, af, g⟩ K e ds A = onS (xval P (.slice t x l h none) (ev n e) none') (fun v => K (putE e d v) ds A) := _root_.id rfl
@[go_sem] theorem stepK_fieldAddr (t : TypeId) (x : Operand) (i : Nat) : stepK P n S nd ⟨d, .fieldAddr t x i, ty, p, af, g⟩ K e ds A = onS (xval P (.fieldAddr t x i) (ev n e) none') (fun v => K (putE e d v) ds A) := _root_.id rfl
@[go_sem] theorem stepK_field (t : TypeId) (x : Operand) (i : Nat) : stepK P n S nd ⟨d, .field t x i, ty, p, af, g⟩ K e ds A = onS (xval P (.field t x i) (ev n e) none') (fun v => K (putE e d v) ds A) := _root_.id rfl
@[go_sem] theorem stepK_indexAddr (t : TypeId) (x i : Operand) : stepK P n S nd ⟨d, .indexAddr t x i, ty, p, af, g⟩ K e ds A = onS (xval P (.indexAddr t x i) (ev n e) none') (fun v => K (putE e d v) ds A) := _root_.id rfl
@[go_sem] theorem stepK_index (t : TypeId) (x i : Operand) : stepK P n S nd ⟨d, .index t x i, ty, p, af, g⟩ K e ds A = onS (xval P (.index t x i) (ev n e) none') (fun v => K (putE e d v) ds A) := _root_.id rfl
@[go_sem] theorem stepK_typeAssert (x : Operand) (t u : TypeId) (b : Bool) : stepK P n S nd ⟨d, .typeAssert x t u b, ty, p, af, g⟩ K e ds A = onS (xval P (.typeAssert x t u b) (ev n e) none') (fun v => K (putE e d v) ds A) := _root_.id rfl
@[go_sem] theorem stepK_extract (x : Operand) (i : Nat) : stepK P n S nd ⟨d, .extract x i, ty, p, af, g⟩ K e ds A = onS (xval P (.extract x i) (ev n e) none') (fun v => K (putE e d v) ds A) := _root_.id rfl
@[go_sem] theorem stepK_build (t : TypeId) (ps : Array (Nat × Operand)) : stepK P n S nd ⟨d, .build t ps, ty, p, af, g⟩ K e ds A = onS (xval P (.build t ps) (ev n e) none') (fun v => K (putE e d v) ds A) := _root_.id rfl
@[go_sem] theorem stepK_load (t : TypeId) (x : Operand) : stepK P n S nd ⟨d, .load t x, ty, p, af, g⟩ K e ds A = onS (xval P (.load t x) (ev n e) S) (fun v => K (putE e d v) ds A) := _root_.id rfl
@[go_sem] theorem stepK_lookup (t : TypeId) (x i : Operand) (b : Bool) : stepK P n S nd ⟨d, .lookup t x i b, ty, p, af, g⟩ K e ds A = onS (xval P (.lookup t x i b) (ev n e) S) (fun v => K (putE e d v) ds A) := _root_.id rfl
@[go_sem] theorem stepK_len (a : Array Operand) (ts : Array TypeId) : stepK P n S nd ⟨d, .call ⟨.builtin .len, a, ts⟩, ty, p, af, g⟩ K e ds A = onS (xval P (.call ⟨.builtin .len, a, ts⟩) (ev n e) S) (fun v => K (putE e d v) ds A) := _root_.id rfl
@[go_sem] theorem stepK_min (a : Array Operand) (ts : Array TypeId) : stepK P n S nd ⟨d, .call ⟨.builtin .min, a, ts⟩, ty, p, af, g⟩ K e ds A = onS (xval P (.call ⟨.builtin .min, a, ts⟩) (ev n e) none') (fun v => K (putE e d v) ds A) := _root_.id rfl
@[go_sem] theorem stepK_max (a : Array Operand) (ts : Array TypeId) : stepK P n S nd ⟨d, .call ⟨.builtin .max, a, ts⟩, ty, p, af, g⟩ K e ds A = onS (xval P (.call ⟨.builtin .max, a, ts⟩) (ev n e) none') (fun v => K (putE e d v) ds A) := _root_.id rfl
@[go_sem] theorem stepK_alloc (t : TypeId) : stepK P n S nd ⟨d, .alloc t, ty, p, af, g⟩ K e ds A = onS (xnew P (.alloc t) (ev n e)) (fun q => fresh A q.1 fun b A' => K (putE e d (q.2 b)) ds A') := _root_.id rfl
@[go_sem] theorem stepK_box (t : TypeId) (x : Operand) : stepK P n S nd ⟨d, .box t x, ty, p, af, g⟩ K e ds A = onS (xnew P (.box t x) (ev n e)) (fun q => fresh A q.1 fun b A' => K (putE e d (q.2 b)) ds A') := _root_.id rfl
@[go_sem] theorem stepK_makeMap (t : TypeId) (r : Option Operand) : stepK P n S nd ⟨d, .makeMap t r, ty, p, af, g⟩ K e ds A = onS (xnew P (.makeMap t r) (ev n e)) (fun q => fresh A q.1 fun b A' => K (putE e d (q.2 b)) ds A') := _root_.id rfl
@[go_sem] theorem stepK_buildSlice (t : TypeId) (k : Nat) (ps : Array (Nat × Operand)) : stepK P n S nd ⟨d, .buildSlice t k ps, ty, p, af, g⟩ K e ds A = onS (xnew P (.buildSlice t k ps) (ev n e)) (fun q => fresh A q.1 fun b A' => K (putE e d (q.2 b)) ds A') := _root_.id rfl
@[go_sem] theorem stepK_store (t : TypeId) (a v : Operand) : stepK P n S nd ⟨d, .store t a v, ty, p, af, g⟩ K e ds A = xop P n ⟨d, .store t a v, ty, p, af, g⟩ (fun e' ds' A' => (nd = true → S ≤ A') ∧ K e' ds' A') e ds A := _root_.id rfl
@[go_sem] theorem stepK_mapUpdate (t : TypeId) (m k v : Operand) : stepK P n S nd ⟨d, .mapUpdate t m k v, ty, p, af, g⟩ K e ds A = xop P n ⟨d, .mapUpdate t m k v, ty, p, af, g⟩ (fun e' ds' A' => (nd = true → S ≤ A') ∧ K e' ds' A') e ds A := _root_.id rfl
@[go_sem] theorem stepK_insert (t : TypeId) (m k v : Operand) : stepK P n S nd ⟨d, .insert t m k v, ty, p, af, g⟩ K e ds A = xop P n ⟨d, .insert t m k v, ty, p, af, g⟩ (fun e' ds' A' => (nd = true → S ≤ A') ∧ K e' ds' A') e ds A := _root_.id rfl
@[go_sem] theorem stepK_callv (f : Operand) (a : Array Operand) (ts : Array TypeId) : stepK P n S nd ⟨d, .call ⟨.value f, a, ts⟩, ty, p, af, g⟩ K e ds A = xop P n ⟨d, .call ⟨.value f, a, ts⟩, ty, p, af, g⟩ (fun e' ds' A' => (nd = true → S ≤ A') ∧ K e' ds' A') e ds A := _root_.id rfl
@[go_sem] theorem stepK_invoke (r : Operand) (m : String) (a : Array Operand) (ts : Array TypeId) : stepK P n S nd ⟨d, .call ⟨.invoke r m, a, ts⟩, ty, p, af, g⟩ K e ds A = xop P n ⟨d, .call ⟨.invoke r m, a, ts⟩, ty, p, af, g⟩ (fun e' ds' A' => (nd = true → S ≤ A') ∧ K e' ds' A') e ds A := _root_.id rfl
@[go_sem] theorem stepK_append (a : Array Operand) (ts : Array TypeId) : stepK P n S nd ⟨d, .call ⟨.builtin .append, a, ts⟩, ty, p, af, g⟩ K e ds A = xop P n ⟨d, .call ⟨.builtin .append, a, ts⟩, ty, p, af, g⟩ (fun e' ds' A' => (nd = true → S ≤ A') ∧ K e' ds' A') e ds A := _root_.id rfl
@[go_sem] theorem stepK_delete (a : Array Operand) (ts : Array TypeId) : stepK P n S nd ⟨d, .call ⟨.builtin .delete, a, ts⟩, ty, p, af, g⟩ K e ds A = xop P n ⟨d, .call ⟨.builtin .delete, a, ts⟩, ty, p, af, g⟩ (fun e' ds' A' => (nd = true → S ≤ A') ∧ K e' ds' A') e ds A := _root_.id rfl
def autoM (ops : Array Oper) : List Nat := (Region.before ops).toList
theorem vdrawA {id : Nat} {Q : Exit → VQ} (l : List Nat) (S : View) (hm : P.follows .mixedOrders = true) (hok : okDraw ops (autoM ops) l = true) (hS : S ≤ A)
    (h : seqD P n ops S (needM ops (autoM ops)) (Q .normal) l e ds A) : VCode P n (.region id ops true) Q e ds A := vdraw S hm hok hS h

/-- An operation with the place of its guard's answer, and whether what stands fixed must outlast it. -/
structure RO1 where
  o : Oper
  g : Option (Option Tmp × Bool)
  need : Bool
def gres (ops : Array Oper) (o : Oper) : Option (Option Tmp × Bool) :=
  match o.guard with
  | none => none
  | some (j, b) => some ((ops[j]?).bind (·.dst), b)
def rslv (ops : Array Oper) : List (Nat × Bool) → List RO1
  | [] => []
  | (i, nd) :: r => match ops[i]? with
    | some o => ⟨o, gres ops o, nd⟩ :: rslv ops r
    | none => rslv ops r
def wantR (n : Nat) (e : Env) : Option (Option Tmp × Bool) → Bool
  | none => true
  | some (some t, b) => if t < n then (match e t with | .bool c => c == b | _ => false) else false
  | some (none, _) => false
def seqR (P : Program) (n : Nat) (S : View) (Q : VQ) : List RO1 → Env → List Deferred → View → Prop
  | [], e, ds, A => Q e ds A
  | r :: l, e, ds, A => gif (wantR n e r.g) (stepK P n S r.need r.o (seqR P n S Q l) e ds A) (seqR P n S Q l (putE e r.o.dst undef) ds A)
def okNeed (ops : Array Oper) (M : List Nat) (l : List (Nat × Bool)) : Bool := l.all fun q => (!needM ops M q.1 || q.2 || !(knd ops q.1 == .H)) && decide (q.1 < ops.size)
theorem want_eq {e : Env} {o : Oper} : wantR n e (gres ops o) = vwant n ops e o := by
  unfold vwant Region.wanted gres
  cases o.guard with
  | none => rfl
  | some gw =>
    obtain ⟨j, b⟩ := gw
    simp only [gval]
    cases hd : (ops[j]?).bind (·.dst) with
    | none => rfl
    | some t =>
      simp only [wantR]
      by_cases ht : t < n
      · rw [if_pos ht, if_pos ht]
        cases e t <;> first | rfl | (rename_i c; cases c <;> cases b <;> rfl)
      · rw [if_neg ht, if_neg ht]; rfl
theorem seqV_of_seqR {M : List Nat} : ∀ (l : List (Nat × Bool)) {e : Env} {ds : List Deferred} {A : View}, okNeed ops M l = true → seqR P n S Q (rslv ops l) e ds A → seqV P n ops S (needM ops M) Q (l.map (·.1)) e ds A
  | [], _, _, _, _, h => h
  | (i, nd) :: l, e, ds, A, hn, h => by
    simp only [okNeed, List.all_cons, Bool.and_eq_true] at hn
    obtain ⟨⟨h1, h2⟩, h3⟩ := hn
    have hi : i < ops.size := by simpa using h2
    have ho : ops[i]? = some ops[i] := Array.getElem?_eq_getElem hi
    generalize ops[i] = o at ho
    simp only [rslv, ho, seqR, want_eq] at h
    simp only [List.map_cons, seqV]
    refine stepV_mono (fun e ds A => seqV_of_seqR l h3) ?_
    unfold stepV
    simp only [ho]
    unfold gif at *
    split at h
    · rename_i hw
      rw [if_pos hw]
      unfold stepK at h
      cases hk : kind o.op <;> simp only [hk] at h ⊢
      · exact h
      · exact h
      · exact h
      · unfold xop at h
        simp only [hk] at h
        refine vop_mono (fun e ds A => dn_mono fun e ds A hx => ⟨fun hh => hx.1 ?_, hx.2⟩) (xH_sound h)
        rw [hh, show knd ops i = .H by unfold knd; rw [ho]; exact hk] at h1
        simpa using h1
    · rename_i hw
      rw [if_neg hw]
      exact h
theorem vdrawR {id : Nat} {Q : Exit → VQ} (l : List (Nat × Bool)) (S : View) (hm : P.follows .mixedOrders = true) (hok : (okDraw ops (autoM ops) (l.map (·.1)) && okNeed ops (autoM ops) l) = true) (hS : S ≤ A)
    (h : seqR P n S (Q .normal) (rslv ops l) e ds A) : VCode P n (.region id ops true) Q e ds A := by
  rw [Bool.and_eq_true] at hok
  intro w hA
  have hs := seqV_of_seqR l hok.2 h
  have hk := hok.1
  simp only [okDraw, Bool.and_eq_true] at hk
  obtain ⟨⟨⟨⟨⟨⟨⟨h1, h2⟩, h3⟩, h4⟩, h5⟩, h6⟩, h7⟩, h8⟩ := hk
  refine wp_region_any hm ?_
  refine seq_any (Q := Q .normal) (A0 := A) (w0 := w) (Q' := Goal n Q A w) h1 h4 h2 h5 (fun a w' hmid => hmid) ops.size (Array.replicate ops.size false) (l.map (·.1)) e ds A { w with drawn := w.drawn + 1 } (by simp) ?_ (fun i => ?_) h3 ?_ (fun _ => hS) hs hA
    ⟨rfl, rfl, rfl, Nat.le_refl _, fun _ _ _ => rfl, fun _ hb => .inl hb⟩
  · simpa using h8
  · constructor
    · intro hi
      have : i < ops.size := by simpa using List.all_eq_true.1 h7 i hi
      exact ⟨this, by simp [this]⟩
    · rintro ⟨hi, _⟩
      exact List.contains_iff_mem.1 (List.all_eq_true.1 h6 i (List.mem_range.2 hi))
  · intro m o ho hm
    have hms : m < ops.size := (Array.getElem?_eq_some_iff.1 ho).1
    simp [hms] at hm
@[go_sem] theorem seqR_nil : seqR P n S Q [] e ds A = Q e ds A := _root_.id rfl
@[go_sem] theorem seqR_cons (o : Oper) (g : Option (Option Tmp × Bool)) (nd : Bool) (l : List RO1) : seqR P n S Q (⟨o, g, nd⟩ :: l) e ds A = gif (wantR n e g) (stepK P n S nd o (seqR P n S Q l) e ds A) (seqR P n S Q l (putE e o.dst undef) ds A) := _root_.id rfl
theorem rslv_nil : rslv ops [] = [] := rfl
theorem rslv_cons (i : Nat) (nd : Bool) (l : List (Nat × Bool)) : rslv ops ((i, nd) :: l) = match ops[i]? with | some o => ⟨o, gres ops o, nd⟩ :: rslv ops l | none => rslv ops l := rfl
@[go_sem] theorem wantR_none : wantR n e none = true := _root_.id rfl
/-- The same, with what follows behind a name. -/
theorem vdrawK {id : Nat} {Q : Exit → VQ} (l : List (Nat × Bool)) (S : View) (hm : P.follows .mixedOrders = true) (hok : (okDraw ops (autoM ops) (l.map (·.1)) && okNeed ops (autoM ops) l) = true) (hS : S ≤ A)
    (h : ∀ K : VQ, (∀ e ds A, Q .normal e ds A → K e ds A) → seqR P n S K (rslv ops l) e ds A) : VCode P n (.region id ops true) Q e ds A :=
  vdrawR l S hm hok hS (h _ fun _ _ _ h => h)
theorem vloopK {c : Code} {Q : Exit → VQ} (I : Nat → VQ) (k : Nat) (h : I k e ds A)
    (round : ∀ k e ds A, I k e ds A → ∀ (J : VQ) (X : Exit → VQ), (∀ k' e' ds' A', k' < k → I k' e' ds' A' → J e' ds' A') → (∀ x e' ds' A', Q x e' ds' A' → X x e' ds' A') → VCode P n c (thenQ J X) e ds A) :
    VCode P n (.loop c) Q e ds A :=
  vloop I k h fun k e ds A hI => round k e ds A hI (fun e' ds' A' => ∃ k', k' < k ∧ I k' e' ds' A') Q (fun k' _ _ _ h1 h2 => ⟨k', h1, h2⟩) fun _ _ _ _ h => h
end
end Go.Proofs.YtpinamipjddobaaV

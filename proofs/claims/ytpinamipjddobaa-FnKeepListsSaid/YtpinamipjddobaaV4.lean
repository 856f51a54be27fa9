/- The logic of views: operations in a row, as far as they compute; code without drawn regions. -/
import Derived.Test.YtpinamipjddobaaVH
namespace Go.Proofs.YtpinamipjddobaaV
open Go.RowKit
set_option linter.unusedSimpArgs false
set_option linter.unusedVariables false

inductive Kind where
  | P | D | L | H
  deriving DecidableEq
def kind : Op → Kind
  | .move _ | .assign _ | .pick _ _ _ | .nilCheck _ | .binOp _ _ _ _ _ | .unOp _ _ _ | .convert _ _ _ | .makeInterface _ _ | .makeFunc _ _ _
  | .slice _ _ _ _ none | .fieldAddr _ _ _ | .field _ _ _ | .indexAddr _ _ _ | .index _ _ _ | .typeAssert _ _ _ _ | .extract _ _ | .build _ _ => .P
  | .load _ _ | .lookup _ _ _ _ => .D
  | .alloc _ | .box _ _ | .makeMap _ _ | .buildSlice _ _ _ => .L
  | .call c => match c.callee with
    | .builtin .len => .D
    | .builtin .min => .P
    | .builtin .max => .P
    | _ => .H
  | _ => .H
theorem onS_some {α : Type} (a : α) (K : α → Prop) : onS (some a) K = K a := by simp [onS]
theorem onS_none {α : Type} (K : α → Prop) : onS (none : Option α) K = False := by simp [onS]
theorem onS_of {α : Type} {o : Option α} {a : α} {K : α → Prop} (h : o = some a) (k : K a) : onS o K := ⟨a, h, k⟩

theorem vop_mono {P : Program} {n : Nat} {o : Oper} {K K' : VQ} {e : Env} {ds : List Deferred} {A : View} (h : ∀ e ds A, K e ds A → K' e ds A) (k : vop P n o K e ds A) : vop P n o K' e ds A := by
  refine vp_mono _ _ ?_ k
  intro nx A' hn
  cases nx <;> first | exact h _ _ _ hn | exact hn.mono fun _ _ => h _ _ _ | exact hn
def isConv : Op → Bool
  | .convert _ _ _ => true
  | .binOp _ _ _ _ _ => true
  | _ => false
/-- What is reckoned, or else what is left to be shown. -/
def ocv {α : Type} (o : Option α) (K : α → Prop) (X : Prop) : Prop :=
  match o with
  | some a => K a
  | none => X
@[congr] theorem ocv_congr {α : Type} {o o' : Option α} {K : α → Prop} {X : Prop} (h : o = o') : ocv o K X = ocv o' K X := by rw [h]
@[go_sem] theorem ocv_some {α : Type} (a : α) (K : α → Prop) (X : Prop) : ocv (some a) K X = K a := _root_.id rfl
@[go_sem] theorem ocv_none {α : Type} (K : α → Prop) (X : Prop) : ocv (none : Option α) K X = X := _root_.id rfl
def xop (P : Program) (n : Nat) (o : Oper) (K : VQ) : VQ := fun e ds A =>
  match kind o.op with
  | .P => if isConv o.op then ocv (xval P o.op (ev n e) A) (fun v => K (putE e o.dst v) ds A) (vop P n o (dn K) e ds A)
    else onS (xval P o.op (ev n e) A) fun v => K (putE e o.dst v) ds A
  | .D => onS (xval P o.op (ev n e) A) fun v => K (putE e o.dst v) ds A
  | .L => onS (xnew P o.op (ev n e)) fun p => fresh A p.1 fun b A' => K (putE e o.dst (p.2 b)) ds A'
  | .H => xH P n o K e ds A
theorem xop_sound {P : Program} {n : Nat} {o : Oper} {K : VQ} {e : Env} {ds : List Deferred} {A : View} (h : xop P n o K e ds A) : vop P n o (dn K) e ds A := by
  unfold xop at h
  split at h
  · split at h
    · unfold ocv at h
      split at h
      · rename_i hv; exact xval_sound hv ⟨_, View.le_refl _, h⟩
      · exact h
    · obtain ⟨v, hv, hk⟩ := h; exact xval_sound hv ⟨_, View.le_refl _, hk⟩
  · obtain ⟨v, hv, hk⟩ := h; exact xval_sound hv ⟨_, View.le_refl _, hk⟩
  · obtain ⟨⟨ob, f⟩, hv, hk⟩ := h; exact xnew_sound hv fun b hb => ⟨_, View.le_refl _, hk b hb⟩
  · exact xH_sound h
def xops (P : Program) (n : Nat) (ops : Array Oper) (Q : VQ) : List Oper → Env → List Deferred → View → Prop
  | [], e, ds, A => Q e ds A
  | o :: r, e, ds, A => if vwant n ops e o then xop P n o (xops P n ops Q r) e ds A else xops P n ops Q r (putE e o.dst undef) ds A
theorem xops_sound {P : Program} {n : Nat} {ops : Array Oper} {Q : VQ} : ∀ (l : List Oper) {e : Env} {ds : List Deferred} {A : View}, xops P n ops Q l e ds A → vops P n ops Q l e ds A
  | [], _, _, _, h => h
  | o :: r, e, ds, A, h => by
    simp only [xops] at h
    simp only [vops]
    split
    · rename_i hw
      rw [if_pos hw] at h
      exact vop_mono (fun e ds A hd => let ⟨A', h1, h2⟩ := hd; ⟨A', h1, xops_sound r h2⟩) (xop_sound h)
    · rename_i hw
      rw [if_neg hw] at h
      exact xops_sound r h

/-- Code, taken apart as far as it has no loops and no regions that draw. -/
def cond2 (v : Value) (x y : Prop) : Prop :=
  match v with
  | .bool true => x
  | .bool false => y
  | _ => False
def xc (P : Program) (n : Nat) : Code → (Exit → VQ) → Env → List Deferred → View → Prop
  | .skip, Q, e, ds, A => Q .normal e ds A
  | .seq x y, Q, e, ds, A => xc P n x (thenQ (xc P n y Q) Q) e ds A
  | .cond c x y, Q, e, ds, A => cond2 (ev n e c) (xc P n x Q e ds A) (xc P n y Q e ds A)
  | .block id c, Q, e, ds, A => xc P n c (inB id Q) e ds A
  | .exit id, Q, e, ds, A => Q (.exit id) e ds A
  | .ret, Q, e, ds, A => Q .ret e ds A
  | .region id ops draw, Q, e, ds, A => if draw then VCode P n (.region id ops true) Q e ds A else xops P n ops (Q .normal) ops.toList e ds A
  | .loop c, Q, e, ds, A => VCode P n (.loop c) Q e ds A
  | c, Q, e, ds, A => VCode P n c Q e ds A
theorem xc_sound {P : Program} {n : Nat} (c : Code) : ∀ {Q : Exit → VQ} {e : Env} {ds : List Deferred} {A : View}, xc P n c Q e ds A → VCode P n c Q e ds A := by
  induction c with
  | skip => intro Q e ds A h; exact vskip h
  | region id ops draw =>
    intro Q e ds A h
    cases draw with
    | false => exact vregion (l := ops.toList) (xops_sound _ (by simpa [xc] using h))
    | true => simpa [xc] using h
  | seq x y ihx ihy =>
    intro Q e ds A h
    refine vseq (VCode.mono (ihx h) ?_)
    intro ex e ds A hq
    cases ex with
    | normal => exact ihy hq
    | _ => exact hq
  | cond c x y ihx ihy =>
    intro Q e ds A h
    simp only [xc, cond2] at h
    split at h
    · rename_i hc; exact vcond true hc (by simpa using ihx h)
    · rename_i hc; exact vcond false hc (by simpa using ihy h)
    · exact h.elim
  | block id c ih => intro Q e ds A h; exact vblock (ih h)
  | exit id => intro Q e ds A h; exact vexit h
  | ret => intro Q e ds A h; exact vret h
  | _ => intro Q e ds A h; exact h

/-- The result of a body, read off the frame. -/
def resV (P : Program) (n : Nat) (e : Env) (A : View) : List ResultVar → Option (List Value)
  | [] => some []
  | .tmp t :: r => (resV P n e A r).map fun l => (if t < n then e t else undef) :: l
  | .cell a t :: r => match (if a < n then e a else undef) with
    | .pointer (some p) => (vload P t p A).bind fun v => (resV P n e A r).map fun l => v :: l
    | _ => none
def tup : List Value → Value
  | [v] => v
  | l => .tuple l.toArray
theorem getD_ofFn (n : Nat) (e : Env) (t : Nat) : (Array.ofFn (n := n) fun i => e i).getD t undef = if t < n then e t else undef := by
  simp only [Array.getD_eq_getD_getElem?]
  by_cases h : t < n
  · simp [h]
  · simp [h]
theorem results_vp {P : Program} {fn : Func} {n : Nat} {e : Env} {A : View} {vs : List Value} {Q : Value → View → Prop} (h : resV P n e A fn.results.toList = some vs) (hq : Q (tup vs) A) :
    (results fn (frame n e []).tmps).vp P Q A := by
  unfold results
  rw [vp_bind, Array.mapM_eq_mapM_toList, vp_map]
  have key : ∀ (l : List ResultVar) (vs : List Value) (Q : List Value → View → Prop), resV P n e A l = some vs → Q vs A →
      (l.mapM fun (r : ResultVar) => match r with | .tmp t => (Pure.pure ((frame n e []).tmps.getD t undef) : Sem Value) | .cell a t => do loadVar t (← asAddr ((frame n e []).tmps.getD a undef))).vp P Q A := by
    intro l
    induction l with
    | nil => intro vs Q h hq; simp only [resV, Option.some.injEq] at h; subst h; rw [List.mapM_nil]; exact hq
    | cons r l ih =>
      intro vs Q h hq
      rw [List.mapM_cons, vp_bind]
      cases r with
      | tmp t =>
        simp only [resV] at h
        obtain ⟨l', hl', hv⟩ := Option.map_eq_some_iff.1 h
        subst hv
        rw [vp_pure, vp_bind]
        refine ih _ _ hl' ?_
        rw [vp_pure]
        simp only [frame, getD_ofFn]
        exact hq
      | cell a t =>
        simp only [resV] at h
        split at h
        · rename_i p hp
          obtain ⟨v, hv, h⟩ := Option.bind_eq_some_iff.1 h
          obtain ⟨l', hl', hv'⟩ := Option.map_eq_some_iff.1 h
          subst hv'
          simp only [vp_bind]
          have : (frame n e []).tmps.getD a undef = .pointer (some p) := by simp only [frame, getD_ofFn]; exact hp
          rw [this]
          simp only [asAddr, vp_pure]
          refine vp_loadVar hv ?_
          refine ih _ _ hl' ?_
          exact hq
        · cases h
  refine key _ vs _ h ?_
  rw [vp_pure]
  have : (if hs : vs.toArray.size = 1 then vs.toArray[0] else Value.tuple vs.toArray) = tup vs := by
    match vs with
    | [] => rfl
    | [v] => rfl
    | _ :: _ :: _ => simp [tup]
  rw [this]
  exact hq
/-- What is asked at a body's end. -/
def xend (P : Program) (n : Nat) (rs : List ResultVar) (R : Value → View → Prop) : Exit → VQ
  | .normal, e, ds, A | .ret, e, ds, A => ds = [] ∧ onS (resV P n e A rs) fun vs => R (tup vs) A
  | _, _, _, _ => False
theorem xcalls {P : Program} {f : FuncId} {fn : Func} {c : Code} {args : Array Value} {A : View} {R : Value → View → Prop}
    (hf : P.funcs[f]? = some fn) (hb : fn.body = some c) (hn : args.size ≤ fn.ntmps)
    (h : xc P fn.ntmps c (xend P fn.ntmps fn.results.toList R) (initE args) [] A) : VCalls P f args A R := by
  intro w hw
  refine calls_of_wp hf hb ?_
  rw [frame_init _ _ hn]
  refine wp_mono (xc_sound c h w hw) ?_
  rintro x a w' ⟨e, ds, rfl, A', hq, hh, hk⟩
  have key : ds = [] → onS (resV P fn.ntmps e A' fn.results.toList) (fun vs => R (tup vs) A') →
      (frame fn.ntmps e ds).defers = [] ∧ ∃ v, (results fn (frame fn.ntmps e ds).tmps).run P w' = .ok v w' ∧ ∃ v', Ending.returned v = .returned v' ∧ Post (R v') A w w' := by
    rintro rfl ⟨vs, hvs, hR⟩
    obtain ⟨v, w2, hrun, A2, ⟨h1, h2⟩, _, _⟩ := vp_sound _ _ _ _ (results_vp (Q := fun v A2 => v = tup vs ∧ A2 = A') hvs ⟨rfl, rfl⟩) hh
    obtain rfl := (RO.results _ _).run _ _ _ hrun
    exact ⟨rfl, v, hrun, v, rfl, A', by rw [h1]; exact hR, hh, hk⟩
  cases x with
  | normal => exact key hq.1 hq.2
  | ret => exact key hq.1 hq.2
  | _ => exact hq.elim

/-! ## For simp -/
@[congr] theorem onS_congr {α : Type} {o o' : Option α} {K : α → Prop} (h : o = o') : onS o K = onS o' K := by rw [h]
@[congr] theorem cond2_congr {v v' : Value} {x y : Prop} (h : v = v') : cond2 v x y = cond2 v' x y := by rw [h]
theorem cond2_true (x y : Prop) : cond2 (.bool true) x y = x := _root_.id rfl
theorem cond2_false (x y : Prop) : cond2 (.bool false) x y = y := _root_.id rfl
theorem cond2_bool (b : Bool) (x y : Prop) : cond2 (.bool b) x y = if b then x else y := by cases b <;> rfl
theorem thenQ_normal (next : VQ) (Q : Exit → VQ) : thenQ next Q .normal = next := _root_.id rfl
theorem thenQ_ret (next : VQ) (Q : Exit → VQ) : thenQ next Q .ret = Q .ret := _root_.id rfl
theorem thenQ_exit (next : VQ) (Q : Exit → VQ) (i : Nat) : thenQ next Q (.exit i) = Q (.exit i) := _root_.id rfl
theorem inB_normal (id : Nat) (Q : Exit → VQ) : inB id Q .normal = Q .normal := _root_.id rfl
theorem inB_ret (id : Nat) (Q : Exit → VQ) : inB id Q .ret = Q .ret := _root_.id rfl
theorem inB_exit (id i : Nat) (Q : Exit → VQ) : inB id Q (.exit i) = if i = id then Q .normal else Q (.exit i) := _root_.id rfl
section
variable {P : Program} {n : Nat} {K : VQ} {e : Env} {ds : List Deferred} {A : View} (d : Option Tmp) (ty : TypeId) (p : String) (af : Array Edge) (g : Option (Nat × Bool))
@[go_sem] theorem xop_move (x : Operand) : xop P n ⟨d, .move x, ty, p, af, g⟩ K e ds A = K (putE e d (ev n e x)) ds A := by simp [xop, kind, isConv, xval, onS_some]
@[go_sem] theorem xop_assign (x : Operand) : xop P n ⟨d, .assign x, ty, p, af, g⟩ K e ds A = K (putE e d (ev n e x)) ds A := by simp [xop, kind, isConv, xval, onS_some]
@[go_sem] theorem xop_pick (c a b : Operand) : xop P n ⟨d, .pick c a b, ty, p, af, g⟩ K e ds A = onS (xval P (.pick c a b) (ev n e) A) (fun v => K (putE e d v) ds A) := _root_.id rfl
@[go_sem] theorem xop_load (t : TypeId) (x : Operand) : xop P n ⟨d, .load t x, ty, p, af, g⟩ K e ds A = onS (xval P (.load t x) (ev n e) A) (fun v => K (putE e d v) ds A) := _root_.id rfl
@[go_sem] theorem xop_nilCheck (x : Operand) : xop P n ⟨d, .nilCheck x, ty, p, af, g⟩ K e ds A = onS (xval P (.nilCheck x) (ev n e) A) (fun v => K (putE e d v) ds A) := _root_.id rfl
@[go_sem] theorem xop_binOp (op : BinOp) (t : TypeId) (x y : Operand) (u : TypeId) : xop P n ⟨d, .binOp op t x y u, ty, p, af, g⟩ K e ds A = ocv (xval P (.binOp op t x y u) (ev n e) A) (fun v => K (putE e d v) ds A) (vop P n ⟨d, .binOp op t x y u, ty, p, af, g⟩ (dn K) e ds A) := _root_.id rfl
@[go_sem] theorem xop_unOp (op : UnOp) (t : TypeId) (x : Operand) : xop P n ⟨d, .unOp op t x, ty, p, af, g⟩ K e ds A = onS (xval P (.unOp op t x) (ev n e) A) (fun v => K (putE e d v) ds A) := _root_.id rfl
@[go_sem] theorem xop_convert (s t : TypeId) (x : Operand) : xop P n ⟨d, .convert s t x, ty, p, af, g⟩ K e ds A = ocv (xval P (.convert s t x) (ev n e) A) (fun v => K (putE e d v) ds A) (vop P n ⟨d, .convert s t x, ty, p, af, g⟩ (dn K) e ds A) := _root_.id rfl
@[go_sem] theorem xop_makeInterface (t : TypeId) (x : Operand) : xop P n ⟨d, .makeInterface t x, ty, p, af, g⟩ K e ds A = onS (xval P (.makeInterface t x) (ev n e) A) (fun v => K (putE e d v) ds A) := _root_.id rfl
@[go_sem] theorem xop_makeFunc (f : Fn) (a b : Array Operand) : xop P n ⟨d, .makeFunc f a b, ty, p, af, g⟩ K e ds A = onS (xval P (.makeFunc f a b) (ev n e) A) (fun v => K (putE e d v) ds A) := _root_.id rfl
@[go_sem] theorem xop_slice (t : TypeId) (x : Operand) (l h : Option Operand) : xop P n ⟨d, .slice t x l h none, ty, p, af, g⟩ K e ds A = onS (xval P (.slice t x l h none) (ev n e) A) (fun v => K (putE e d v) ds A) := _root_.id rfl
@[go_sem] theorem xop_fieldAddr (t : TypeId) (x : Operand) (i : Nat) : xop P n ⟨d, .fieldAddr t x i, ty, p, af, g⟩ K e ds A = onS (xval P (.fieldAddr t x i) (ev n e) A) (fun v => K (putE e d v) ds A) := _root_.id rfl
@[go_sem] theorem xop_field (t : TypeId) (x : Operand) (i : Nat) : xop P n ⟨d, .field t x i, ty, p, af, g⟩ K e ds A = onS (xval P (.field t x i) (ev n e) A) (fun v => K (putE e d v) ds A) := _root_.id rfl
@[go_sem] theorem xop_indexAddr (t : TypeId) (x i : Operand) : xop P n ⟨d, .indexAddr t x i, ty, p, af, g⟩ K e ds A = onS (xval P (.indexAddr t x i) (ev n e) A) (fun v => K (putE e d v) ds A) := _root_.id rfl
@[go_sem] theorem xop_index (t : TypeId) (x i : Operand) : xop P n ⟨d, .index t x i, ty, p, af, g⟩ K e ds A = onS (xval P (.index t x i) (ev n e) A) (fun v => K (putE e d v) ds A) := _root_.id rfl
@[go_sem] theorem xop_lookup (t : TypeId) (x i : Operand) (b : Bool) : xop P n ⟨d, .lookup t x i b, ty, p, af, g⟩ K e ds A = onS (xval P (.lookup t x i b) (ev n e) A) (fun v => K (putE e d v) ds A) := _root_.id rfl
@[go_sem] theorem xop_typeAssert (x : Operand) (t u : TypeId) (b : Bool) : xop P n ⟨d, .typeAssert x t u b, ty, p, af, g⟩ K e ds A = onS (xval P (.typeAssert x t u b) (ev n e) A) (fun v => K (putE e d v) ds A) := _root_.id rfl
@[go_sem] theorem xop_extract (x : Operand) (i : Nat) : xop P n ⟨d, .extract x i, ty, p, af, g⟩ K e ds A = onS (xval P (.extract x i) (ev n e) A) (fun v => K (putE e d v) ds A) := _root_.id rfl
@[go_sem] theorem xop_build (t : TypeId) (ps : Array (Nat × Operand)) : xop P n ⟨d, .build t ps, ty, p, af, g⟩ K e ds A = onS (xval P (.build t ps) (ev n e) A) (fun v => K (putE e d v) ds A) := _root_.id rfl
@[go_sem] theorem xop_len (a : Array Operand) (ts : Array TypeId) : xop P n ⟨d, .call ⟨.builtin .len, a, ts⟩, ty, p, af, g⟩ K e ds A = onS (xval P (.call ⟨.builtin .len, a, ts⟩) (ev n e) A) (fun v => K (putE e d v) ds A) := _root_.id rfl
@[go_sem] theorem xop_min (a : Array Operand) (ts : Array TypeId) : xop P n ⟨d, .call ⟨.builtin .min, a, ts⟩, ty, p, af, g⟩ K e ds A = onS (xval P (.call ⟨.builtin .min, a, ts⟩) (ev n e) A) (fun v => K (putE e d v) ds A) := _root_.id rfl
@[go_sem] theorem xop_max (a : Array Operand) (ts : Array TypeId) : xop P n ⟨d, .call ⟨.builtin .max, a, ts⟩, ty, p, af, g⟩ K e ds A = onS (xval P (.call ⟨.builtin .max, a, ts⟩) (ev n e) A) (fun v => K (putE e d v) ds A) := _root_.id rfl
@[go_sem] theorem xop_alloc (t : TypeId) : xop P n ⟨d, .alloc t, ty, p, af, g⟩ K e ds A = onS (xnew P (.alloc t) (ev n e)) (fun q => fresh A q.1 fun b A' => K (putE e d (q.2 b)) ds A') := _root_.id rfl
@[go_sem] theorem xop_box (t : TypeId) (x : Operand) : xop P n ⟨d, .box t x, ty, p, af, g⟩ K e ds A = onS (xnew P (.box t x) (ev n e)) (fun q => fresh A q.1 fun b A' => K (putE e d (q.2 b)) ds A') := _root_.id rfl
@[go_sem] theorem xop_makeMap (t : TypeId) (r : Option Operand) : xop P n ⟨d, .makeMap t r, ty, p, af, g⟩ K e ds A = onS (xnew P (.makeMap t r) (ev n e)) (fun q => fresh A q.1 fun b A' => K (putE e d (q.2 b)) ds A') := _root_.id rfl
@[go_sem] theorem xop_buildSlice (t : TypeId) (k : Nat) (ps : Array (Nat × Operand)) : xop P n ⟨d, .buildSlice t k ps, ty, p, af, g⟩ K e ds A = onS (xnew P (.buildSlice t k ps) (ev n e)) (fun q => fresh A q.1 fun b A' => K (putE e d (q.2 b)) ds A') := _root_.id rfl
@[go_sem] theorem xop_store (t : TypeId) (a v : Operand) : xop P n ⟨d, .store t a v, ty, p, af, g⟩ K e ds A = (onS (xstore P t (ev n e a) (ev n e v) A) fun A' => K (putE e d undef) ds A') := _root_.id rfl
@[go_sem] theorem xop_mapUpdate (t : TypeId) (m k v : Operand) : xop P n ⟨d, .mapUpdate t m k v, ty, p, af, g⟩ K e ds A = (onS (xmapUpdate P t (ev n e m) (ev n e k) (ev n e v) A) fun A' => K (putE e d undef) ds A') := _root_.id rfl
@[go_sem] theorem xop_insert (t : TypeId) (m k v : Operand) : xop P n ⟨d, .insert t m k v, ty, p, af, g⟩ K e ds A = (onS (xmapUpdate P t (ev n e m) (ev n e k) (ev n e v) A) fun A' => K (putE e d undef) ds A') := _root_.id rfl
@[go_sem] theorem xop_callv (f : Operand) (a : Array Operand) (ts : Array TypeId) : xop P n ⟨d, .call ⟨.value f, a, ts⟩, ty, p, af, g⟩ K e ds A = (xcall P (ev n e f) (a.map (ev n e)) A fun v A' => K (putE e d v) ds A') := _root_.id rfl
@[go_sem] theorem xop_invoke (r : Operand) (m : String) (a : Array Operand) (ts : Array TypeId) : xop P n ⟨d, .call ⟨.invoke r m, a, ts⟩, ty, p, af, g⟩ K e ds A = (xinvoke P (ev n e r) m (a.map (ev n e)) A fun v A' => K (putE e d v) ds A') := _root_.id rfl
@[go_sem] theorem xop_append (s x : Operand) (t u : TypeId) : xop P n ⟨d, .call ⟨.builtin .append, #[s, x], #[t, u]⟩, ty, p, af, g⟩ K e ds A = (xappend P t u (ev n e s) (ev n e x) A fun v A' => K (putE e d v) ds A') := _root_.id rfl
@[go_sem] theorem xop_delete (m k : Operand) (t u : TypeId) : xop P n ⟨d, .call ⟨.builtin .delete, #[m, k], #[t, u]⟩, ty, p, af, g⟩ K e ds A = (onS (xdelete P t (ev n e m) (ev n e k) A) fun A' => K (putE e d (.tuple #[])) ds A') := _root_.id rfl
@[go_sem] theorem xop_defer (f : Operand) (a : Array Operand) (ts : Array TypeId) : xop P n ⟨d, .defer ⟨.value f, a, ts⟩, ty, p, af, g⟩ K e ds A = (onS (toDefer (ev n e f) (a.map (ev n e))) fun q => K (putE e d undef) (q :: ds) A) := _root_.id rfl
theorem xop_copy (a : Array Operand) (ts : Array TypeId) : xop P n ⟨d, .call ⟨.builtin .copy, a, ts⟩, ty, p, af, g⟩ K e ds A = vop P n ⟨d, .call ⟨.builtin .copy, a, ts⟩, ty, p, af, g⟩ (dn K) e ds A := rfl
theorem xop_range (t : TypeId) (x : Operand) : xop P n ⟨d, .range t x, ty, p, af, g⟩ K e ds A = vop P n ⟨d, .range t x, ty, p, af, g⟩ (dn K) e ds A := rfl
theorem xop_next (x : Operand) (b : Bool) : xop P n ⟨d, .next x b, ty, p, af, g⟩ K e ds A = vop P n ⟨d, .next x b, ty, p, af, g⟩ (dn K) e ds A := rfl
theorem xop_entry (x : Operand) : xop P n ⟨d, .entry x, ty, p, af, g⟩ K e ds A = vop P n ⟨d, .entry x, ty, p, af, g⟩ (dn K) e ds A := rfl
theorem xop_makeSlice (t : TypeId) (a b : Operand) : xop P n ⟨d, .makeSlice t a b, ty, p, af, g⟩ K e ds A = vop P n ⟨d, .makeSlice t a b, ty, p, af, g⟩ (dn K) e ds A := rfl
end
@[congr] theorem gif_congr {b b' : Bool} {x y : Prop} (h : b = b') : gif b x y = gif b' x y := by rw [h]
@[go_sem] theorem gif_true (x y : Prop) : gif true x y = x := by simp [gif]
@[go_sem] theorem gif_false (x y : Prop) : gif false x y = y := by simp [gif]
@[go_sem] theorem xops_nil {P : Program} {n : Nat} {ops : Array Oper} {Q : VQ} {e : Env} {ds : List Deferred} {A : View} : xops P n ops Q [] e ds A = Q e ds A := _root_.id rfl
@[go_sem] theorem xops_cons {P : Program} {n : Nat} {ops : Array Oper} {Q : VQ} {e : Env} {ds : List Deferred} {A : View} (d : Option Tmp) (op : Op) (ty : TypeId) (p : String) (af : Array Edge) (r : List Oper) :
    xops P n ops Q (⟨d, op, ty, p, af, none⟩ :: r) e ds A = xop P n ⟨d, op, ty, p, af, none⟩ (xops P n ops Q r) e ds A := by simp [xops, vwant, Region.wanted]
@[go_sem] theorem xops_consg {P : Program} {n : Nat} {ops : Array Oper} {Q : VQ} {e : Env} {ds : List Deferred} {A : View} (d : Option Tmp) (op : Op) (ty : TypeId) (p : String) (af : Array Edge) (r : List Oper) (j : Nat) (b : Bool) :
    xops P n ops Q (⟨d, op, ty, p, af, some (j, b)⟩ :: r) e ds A =
      gif (gval n ops e j == some b) (xop P n ⟨d, op, ty, p, af, some (j, b)⟩ (xops P n ops Q r) e ds A) (xops P n ops Q r (putE e d undef) ds A) := by
  simp [xops, vwant, Region.wanted, gif]
section
variable {P : Program} {n : Nat} {Q : Exit → VQ} {e : Env} {ds : List Deferred} {A : View}
@[go_sem] theorem xc_skip : xc P n .skip Q e ds A = Q .normal e ds A := _root_.id rfl
@[go_sem] theorem xc_seq (x y : Code) : xc P n (.seq x y) Q e ds A = xc P n x (thenQ (xc P n y Q) Q) e ds A := _root_.id rfl
@[go_sem] theorem xc_cond (c : Operand) (x y : Code) : xc P n (.cond c x y) Q e ds A = cond2 (ev n e c) (xc P n x Q e ds A) (xc P n y Q e ds A) := _root_.id rfl
@[go_sem] theorem xc_block (i : Nat) (x : Code) : xc P n (.block i x) Q e ds A = xc P n x (inB i Q) e ds A := _root_.id rfl
@[go_sem] theorem xc_exit (i : Nat) : xc P n (.exit i) Q e ds A = Q (.exit i) e ds A := _root_.id rfl
@[go_sem] theorem xc_ret : xc P n .ret Q e ds A = Q .ret e ds A := _root_.id rfl
@[go_sem] theorem xc_region (i : Nat) (l : List Oper) : xc P n (.region i l.toArray false) Q e ds A = xops P n l.toArray (Q .normal) l e ds A := by simp [xc]
@[go_sem] theorem xc_draws (i : Nat) (l : Array Oper) : xc P n (.region i l true) Q e ds A = VCode P n (.region i l true) Q e ds A := by simp [xc]
@[go_sem] theorem xc_loop (x : Code) : xc P n (.loop x) Q e ds A = VCode P n (.loop x) Q e ds A := _root_.id rfl
theorem ev_tmp (t : Nat) (h : t < n) : ev n e (.tmp t) = e t := if_pos h
@[go_sem] theorem ev_const (v : Value) : ev n e (.const v) = v := _root_.id rfl
@[go_sem] theorem ev_global (g : Nat) : ev n e (.global g) = .pointer (some ⟨g, 0, none⟩) := _root_.id rfl
@[go_sem] theorem ev_func (f : Nat) : ev n e (.func f) = .func (.func f) #[] #[] := _root_.id rfl
@[go_sem] theorem putE_some (d : Nat) (v : Value) : putE e (some d) v = upd e d v := _root_.id rfl
@[go_sem] theorem putE_none (v : Value) : putE e none v = e := _root_.id rfl
theorem upd_same (d : Nat) (v : Value) : upd e d v d = v := if_pos rfl
theorem upd_ne (d t : Nat) (v : Value) (h : (t == d) = false) : upd e d v t = e t := if_neg (by simpa using h)
end
@[go_sem] theorem xcall_fn {P : Program} (k : FuncId) (first cap args : Array Value) (A : View) (K : Value → View → Prop) :
    xcall P (.func (.func k) first cap) args A K = gif (goodFn P k) (VCalls P k (first ++ args ++ cap) A K) False := _root_.id rfl
attribute [go_sem] xval onS_some onS_none cond2_true cond2_false thenQ_normal thenQ_ret thenQ_exit inB_normal inB_ret inB_exit ev_tmp upd_same upd_ne initE xend resV tup
end Go.Proofs.YtpinamipjddobaaV

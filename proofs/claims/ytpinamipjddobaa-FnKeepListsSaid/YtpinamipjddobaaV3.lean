/- The logic of views: what an operation tells (xval), makes (xnew) or does (xop). -/
import Derived.Test.YtpinamipjddobaaV2
namespace Go.Proofs.YtpinamipjddobaaV
open Go.RowKit
set_option linter.unusedSimpArgs false
set_option linter.unusedVariables false

def isStr : Value → Bool
  | .string _ => true
  | _ => false
def strKeysB (es : List MapEntry) : Bool := es.all fun e => isStr e.key
theorem strKeysB_spec {es : List MapEntry} (h : strKeysB es = true) : strKeys es := by
  intro e he
  have := List.all_eq_true.1 h e he
  cases hk : e.key <;> simp [isStr, hk] at this
  exact ⟨_, rfl⟩
def isConst : Operand → Bool
  | .const _ => true
  | _ => false
def xlookup (P : Program) (t : TypeId) (m k : Value) (ok : Bool) (A : View) : Option Value :=
  match tinfo P t, k with
  | some ⟨.map kt et, _, _, _⟩, .string s =>
    match tinfo P kt with
    | some ⟨.string, _, _, _⟩ =>
      match mapAt A m with
      | some es => if strKeysB es then (zeroOf P et).map fun z =>
          if ok then .tuple #[((sfind s es 0).map (·.2)).getD z, .bool (sfind s es 0).isSome] else ((sfind s es 0).map (·.2)).getD z
        else none
      | none => none
    | _ => none
  | _, _ => none
theorem xlookup_sound {P : Program} {A : View} {t : TypeId} {m k u : Value} {ok : Bool} {Q : Value → View → Prop} (h : xlookup P t m k ok A = some u) (hq : Q u A) :
    (Instr.lookup t m k ok).vp P Q A := by
  unfold xlookup at h
  split at h
  · rename_i kt et _ _ _ s hti
    obtain ⟨d, hd, hk⟩ := tinfo_under hti
    cases d <;> simp only [TK.of, reduceCtorEq, TK.map.injEq] at hk
    obtain ⟨rfl, rfl⟩ := hk
    split at h
    · rename_i hkt
      obtain ⟨d2, hd2, hk2⟩ := tinfo_under hkt
      cases d2 <;> simp only [TK.of, reduceCtorEq] at hk2
      split at h
      · rename_i es hes
        split at h
        · rename_i hs
          obtain ⟨z, hz, hu⟩ := Option.map_eq_some_iff.1 h
          exact lookup_string hd hd2 hes (strKeysB_spec hs) hz (by rw [hu]; exact hq)
        · cases h
      · cases h
    · cases h
  · cases h
def xnil (v : Value) : Option Value :=
  match v with
  | .pointer (some _) => some v
  | .iface _ _ => some v
  | .func (.func _) _ _ => some v
  | .map _ => some v
  | _ => none
def xunop (op : UnOp) (v : Value) : Option Value :=
  match op, v with
  | .not, .bool b => some (.bool !b)
  | .neg, .int k n => some (.int k (k.wrap (0 - n)))
  | _, _ => none
def xconv (P : Program) (s d : TypeId) (v : Value) : Option Value :=
  match tinfo P s, tinfo P d, v with
  | some _, some ⟨.int k, _, _, _⟩, .int _ n => some (.int k (k.wrap n))
  | some _, some ⟨.string, _, _, _⟩, .string b => some (.string b)
  | some _, some ⟨.string, _, _, _⟩, .int _ n => some (.string (Utf8.encode n))
  | _, _, _ => none
theorem xconv_sound {P : Program} {A : View} {s d : TypeId} {v u : Value} {Q : Value → View → Prop} (h : xconv P s d v = some u) (hq : Q u A) : (convert s d v).vp P Q A := by
  unfold xconv at h
  split at h
  · rename_i ts k n1 n2 n3 k' n hs hd
    obtain ⟨ds, hds, hks⟩ := tinfo_under hs
    obtain ⟨dd, hdd, hkd⟩ := tinfo_under hd
    cases dd <;> simp only [TK.of, reduceCtorEq, TK.int.injEq] at hkd
    subst hkd
    simp only [Option.some.injEq] at h; subst h
    unfold convert
    rw [vp_bind]
    refine vp_underlying hds _ ?_
    rw [vp_bind]
    refine vp_underlying hdd _ ?_
    cases ds <;> exact hq
  · rename_i ts n1 n2 n3 b hs hd
    obtain ⟨ds, hds, hks⟩ := tinfo_under hs
    obtain ⟨dd, hdd, hkd⟩ := tinfo_under hd
    cases dd <;> simp only [TK.of, reduceCtorEq] at hkd
    simp only [Option.some.injEq] at h; subst h
    unfold convert
    rw [vp_bind]
    refine vp_underlying hds _ ?_
    rw [vp_bind]
    refine vp_underlying hdd _ ?_
    cases ds <;> exact hq
  · rename_i ts n1 n2 n3 k' n hs hd
    obtain ⟨ds, hds, hks⟩ := tinfo_under hs
    obtain ⟨dd, hdd, hkd⟩ := tinfo_under hd
    cases dd <;> simp only [TK.of, reduceCtorEq] at hkd
    simp only [Option.some.injEq] at h; subst h
    unfold convert
    rw [vp_bind]
    refine vp_underlying hds _ ?_
    rw [vp_bind]
    refine vp_underlying hdd _ ?_
    cases ds <;> exact hq
  · cases h
def xmkIface (P : Program) (t : TypeId) (v : Value) : Option Value :=
  match tinfo P t with
  | some ⟨.iface _, _, _, _⟩ => none
  | some _ => some (.iface t v)
  | none => none
theorem xmkIface_sound {P : Program} {A : View} {t : TypeId} {v u : Value} {Q : Value → View → Prop} (h : xmkIface P t v = some u) (hq : Q u A) : (Instr.makeInterface t v).vp P Q A := by
  unfold xmkIface at h
  split at h
  · cases h
  · rename_i ti hn hti
    obtain ⟨d, hd, hk⟩ := tinfo_under hti
    simp only [Option.some.injEq] at h; subst h
    unfold Instr.makeInterface
    rw [vp_bind]
    refine vp_underlying hd _ ?_
    obtain ⟨k1, s1, b1, z1⟩ := ti
    cases d <;> first
      | exact hq
      | (exact (hn _ s1 b1 z1 (by rw [show k1 = _ from hk.symm]; rfl)).elim)
  · cases h
def xlen (P : Program) (t : TypeId) (v : Value) (A : View) : Option Value :=
  match tinfo P t, v with
  | some ⟨.string, _, _, _⟩, .string s => some (.int .i64 s.size)
  | some ⟨.slice _, _, _, _⟩, .slice _ n _ => some (.int .i64 n)
  | some ⟨.map _ _, _, _, _⟩, m => (mapAt A m).map fun es => .int .i64 es.length
  | _, _ => none
theorem xlen_sound {P : Program} {A : View} {ts : Array TypeId} {t ty : TypeId} {v u : Value} {Q : Value → View → Prop} (ht : ts[0]? = some t) (h : xlen P t v A = some u) (hq : Q u A) :
    (Builtin.len_ ts ty #[v]).vp P Q A := by
  unfold xlen at h
  unfold Builtin.len_
  simp only [ht, List.getElem?_toArray, List.getElem?_cons_zero]
  split at h
  · rename_i _ _ _ s hti
    obtain ⟨d, hd, hk⟩ := tinfo_under hti
    cases d <;> simp only [TK.of, reduceCtorEq] at hk
    simp only [Option.some.injEq] at h; subst h
    rw [vp_bind]
    refine vp_underlying hd _ ?_
    exact hq
  · rename_i hti
    obtain ⟨d, hd, hk⟩ := tinfo_under hti
    cases d <;> simp only [TK.of, reduceCtorEq] at hk
    simp only [Option.some.injEq] at h; subst h
    rw [vp_bind]
    refine vp_underlying hd _ ?_
    exact hq
  · rename_i hti
    obtain ⟨d, hd, hk⟩ := tinfo_under hti
    cases d <;> simp only [TK.of, reduceCtorEq] at hk
    obtain ⟨es, hes, hu⟩ := Option.map_eq_some_iff.1 h
    rw [vp_bind]
    refine vp_underlying hd _ ?_
    unfold mapAt at hes
    split at hes
    · simp only [Option.some.injEq] at hes
      subst hes
      simpa [← hu, goInt] using hq
    · rename_i r
      split at hes
      · rename_i es' c hA
        simp only [Option.some.injEq] at hes
        simp only [vp_bind]
        refine ⟨_, hA, trivial, ?_⟩
        simp only [vp_pure', vp_pure]
        subst hes
        simpa [← hu, goInt] using hq
      · cases hes
    · cases hes
  · cases h
theorem vp_map {α β : Type} {P : Program} {A : View} (s : Sem α) (f : α → β) (Q : β → View → Prop) : (f <$> s).vp P Q A = s.vp P (fun a A' => Q (f a) A') A := by
  show (s >>= fun a => Pure.pure (f a)).vp P Q A = _
  rw [vp_bind]
  rfl
theorem eqGuard_const {P : Program} {A : View} {op : BinOp} {t : TypeId} {Q : Unit → View → Prop} (x y : Operand) (hc : (isConst x || isConst y) = true) (hq : Q () A) :
    (eqGuard op t x y .nilIface .nilIface).vp P Q A := by
  cases x <;> cases y <;> first | (cases hc; done) | (cases op <;> exact hq)
def xfill (place : Nat → Option (Nat × Nat)) (zero : Array Value) (ps : Array (Nat × Value)) : Option (Array Value) := Instr.fill place zero ps.toList
def fieldsOk (P : Program) (t : TypeId) : Bool :=
  match P.underlying t with
  | some (.struct fs) => fs.toList.all fun f => (tinfo P f.type).isSome
  | _ => false
def xbuild (P : Program) (t : TypeId) (ps : Array (Nat × Value)) : Option Value :=
  match tinfo P t with
  | some ⟨.struct _, _, _, some z⟩ => if fieldsOk P t then (Instr.fill (fun i => (fieldOf P t i).map fun f => (f.off, f.size)) z.cells ps.toList).map .agg else none
  | _ => none
theorem mapM_places {P : Program} {A : View} (t : TypeId) (fs0 : Array Field) (hu : P.underlying t = some (.struct fs0)) (Q : Array (Nat × Nat) → View → Prop) :
    ∀ (l : List Field) (k : Nat), (∀ j, fs0[k + j]? = l[j]?) → (∀ f ∈ l, (tinfo P f.type).isSome) →
    ∀ (Q : List (Nat × Nat) → View → Prop), (∀ r : List (Nat × Nat), (∀ j, r[j]? = (fieldOf P t (k + j)).map fun f => (f.off, f.size)) → Q r A) →
      (l.mapM fun f => (do pure (f.offset, ← sizeOf f.type) : Sem (Nat × Nat))).vp P Q A
  | [], k, hl, _, Q, hq => by
    rw [List.mapM_nil]
    refine hq [] fun j => ?_
    have : fs0[k + j]? = none := by rw [hl j]; rfl
    unfold fieldOf
    rw [hu]
    simp [this]
  | f :: l, k, hl, ht, Q, hq => by
    rw [List.mapM_cons, vp_bind, vp_bind]
    obtain ⟨ti, hti⟩ := Option.isSome_iff_exists.1 (ht f List.mem_cons_self)
    refine vp_sizeOf hti _ ?_
    rw [vp_pure, vp_bind]
    refine mapM_places t fs0 hu (fun _ _ => True) l (k + 1) (fun j => by have := hl (j + 1); simpa [Nat.add_assoc, Nat.add_comm 1 j] using this) (fun g hg => ht g (List.mem_cons_of_mem _ hg)) _ fun r hr => ?_
    rw [vp_pure]
    refine hq _ fun j => ?_
    cases j with
    | zero =>
      have h0 : fs0[k]? = some f := by simpa using hl 0
      unfold fieldOf
      rw [hu]
      simp [h0, hti]
    | succ j =>
      have := hr j
      rw [List.getElem?_cons_succ, this]
      congr 2
      omega
theorem xbuild_sound {P : Program} {A : View} {t : TypeId} {ps : Array (Nat × Value)} {u : Value} {Q : Value → View → Prop} (h : xbuild P t ps = some u) (hq : Q u A) : (Instr.build t ps).vp P Q A := by
  unfold xbuild at h
  split at h
  · rename_i fs _ _ z hti
    obtain ⟨d, hd, hk⟩ := tinfo_under hti
    cases d <;> simp only [TK.of, reduceCtorEq] at hk
    rename_i fs0
    have hf : ∀ f ∈ fs0.toList, (tinfo P f.type).isSome := by
      split at h
      · rename_i hok
        unfold fieldsOk at hok
        rw [hd] at hok
        exact fun f hf => List.all_eq_true.1 hok f hf
      · cases h
    rw [if_pos (by unfold fieldsOk; rw [hd]; exact List.all_eq_true.2 hf)] at h
    obtain ⟨cs, hcs, hu⟩ := Option.map_eq_some_iff.1 h
    unfold Instr.build
    simp only [vp_bind]
    refine vp_zeroValue hti rfl _ ?_
    refine vp_underlying hd _ ?_
    simp only [vp_bind]
    rw [Array.mapM_eq_mapM_toList]
    rw [vp_map]
    refine mapM_places t fs0 hd (fun _ _ => True) fs0.toList 0 (fun j => by simp) hf _ fun r hr => ?_
    have hpl : (fun i => (fieldOf P t i).map fun f => (f.off, f.size)) = fun x => r.toArray[x]? := by
      funext i
      have := hr i
      simp only [Nat.zero_add] at this
      rw [List.getElem?_toArray, this]
    rw [hpl] at hcs
    rw [hcs]
    have hq' : Q (.agg cs) A := by rw [hu]; exact hq
    exact hq'
  · cases h

/-! ## What an operation that only looks tells -/
def eqPlain (op : BinOp) (a b : Value) : Bool :=
  match op, a, b with
  | .eql, .nilIface, .nilIface | .neq, .nilIface, .nilIface | .eql, .agg _, .agg _ | .neq, .agg _, .agg _ => false
  | _, _, _ => true
def xmin (x y : Value) : Option Value :=
  match x, y with
  | .int k a, .int _ b => some (.int k (if b < a then b else a))
  | _, _ => none
def xmax (x y : Value) : Option Value :=
  match x, y with
  | .int k a, .int _ b => some (.int k (if b > a then b else a))
  | _, _ => none
theorem xmin_sound {P : Program} {A : View} {ts : Array TypeId} {ty : TypeId} {x y u : Value} {Q : Value → View → Prop} (h : xmin x y = some u) (hq : Q u A) : (Builtin.min_ ts ty #[x, y]).vp P Q A := by
  unfold xmin at h
  split at h
  · simp only [Option.some.injEq] at h; subst h
    exact hq
  · cases h
theorem xmax_sound {P : Program} {A : View} {ts : Array TypeId} {ty : TypeId} {x y u : Value} {Q : Value → View → Prop} (h : xmax x y = some u) (hq : Q u A) : (Builtin.max_ ts ty #[x, y]).vp P Q A := by
  unfold xmax at h
  split at h
  · simp only [Option.some.injEq] at h; subst h
    exact hq
  · cases h
def eqF (P : Program) (xs ys : Array Value) : List Field → Option Bool
  | [] => some true
  | f :: fs => if f.name = "_" then eqF P xs ys fs else match (tinfo P f.type).map TI.k, xs[f.offset]?, ys[f.offset]? with
    | some .string, some (.string a), some (.string b) => if a.toList == b.toList then eqF P xs ys fs else some false
    | some .bool, some (.bool a), some (.bool b) => if a == b then eqF P xs ys fs else some false
    | _, _, _ => none
theorem part_vp {P : Program} {A : View} {t : TypeId} {xs : Array Value} {i : Nat} {x : Value} {Q : Value → View → Prop} {ti : TI} (ht : tinfo P t = some ti) (hk : ti.k.agg = false) (hx : xs[i]? = some x) (hq : Q x A) : (part t xs i).vp P Q A := by
  unfold part
  rw [vp_bind]
  refine vp_isAgg ht _ ?_
  rw [hk]
  simp only [Bool.false_eq_true, if_false, hx]
  exact hq
theorem eqStr_vp {P : Program} {A : View} {t : TypeId} {ti : TI} {a b : ByteArray} {Q : Bool → View → Prop} (d : Nat) (ht : tinfo P t = some ti) (hk : ti.k = .string) (hq : Q (a.toList == b.toList) A) : (Op.equalIn (d + 1) t (.string a) (.string b)).vp P Q A := by
  obtain ⟨u, hu, he⟩ := tinfo_under ht
  rw [hk] at he
  cases u <;> simp only [TK.of, reduceCtorEq] at he
  simp only [Op.equalIn, vp_bind]
  refine vp_underlying hu _ ?_
  show Q (a == b) A
  rw [beq_toListBytes]
  exact hq
theorem eqBool_vp {P : Program} {A : View} {t : TypeId} {ti : TI} {a b : Bool} {Q : Bool → View → Prop} (d : Nat) (ht : tinfo P t = some ti) (hk : ti.k = .bool) (hq : Q (a == b) A) : (Op.equalIn (d + 1) t (.bool a) (.bool b)).vp P Q A := by
  obtain ⟨u, hu, he⟩ := tinfo_under ht
  rw [hk] at he
  cases u <;> simp only [TK.of, reduceCtorEq] at he
  simp only [Op.equalIn, vp_bind]
  refine vp_underlying hu _ ?_
  exact hq
theorem eqStruct_vp {P : Program} {A : View} {t : TypeId} {fs : Array Field} {xs ys : Array Value} {b : Bool} {Q : Bool → View → Prop} (d e : Nat) (hde : e = d + 1) (ht : P.underlying t = some (.struct fs)) (hs : P.stoodInHeld t = false) (h : eqF P xs ys fs.toList = some b) (hq : Q b A) : (Op.equalIn (e + 1) t (.agg xs) (.agg ys)).vp P Q A := by
  simp only [Op.equalIn, vp_bind]
  refine vp_underlying ht _ ?_
  simp only [vp_bind, vp_program, hs, Bool.false_eq_true, if_false]
  rw [← Array.forIn_toList]
  generalize fs.toList = l at h ⊢
  clear ht
  induction l with
  | nil =>
    simp only [eqF, Option.some.injEq] at h
    subst h
    exact hq
  | cons f l ih =>
    simp only [List.forIn_cons, vp_bind]
    unfold eqF at h
    split at h
    · rename_i hn
      rw [if_neg (by simp [hn])]
      exact ih h
    · rename_i hn
      rw [if_pos hn]
      split at h
      · rename_i a b' h1 h2 h3
        obtain ⟨ti, ht, hk⟩ := Option.map_eq_some_iff.1 h1
        simp only [vp_bind]
        refine part_vp ht (by rw [hk]; rfl) h2 ?_
        refine part_vp ht (by rw [hk]; rfl) h3 ?_
        subst hde
        refine eqStr_vp d ht hk ?_
        cases hb : a.toList == b'.toList with
        | true =>
          rw [hb] at h
          exact ih h
        | false =>
          rw [hb] at h
          simp only [Bool.false_eq_true, if_false, Option.some.injEq] at h
          subst h
          exact hq
      · rename_i a b' h1 h2 h3
        obtain ⟨ti, ht, hk⟩ := Option.map_eq_some_iff.1 h1
        simp only [vp_bind]
        refine part_vp ht (by rw [hk]; rfl) h2 ?_
        refine part_vp ht (by rw [hk]; rfl) h3 ?_
        subst hde
        refine eqBool_vp d ht hk ?_
        cases hb : a == b' with
        | true =>
          rw [hb] at h
          exact ih h
        | false =>
          rw [hb] at h
          simp only [Bool.false_eq_true, if_false, Option.some.injEq] at h
          subst h
          exact hq
      · cases h
def xeqS (P : Program) (t : TypeId) (xs ys : Array Value) : Option Bool := match P.underlying t with
  | some (.struct fs) => if P.stoodInHeld t || P.eqGuardType P.depth t then none else eqF P xs ys fs.toList
  | _ => none
theorem xeqS_vp {P : Program} {A : View} {op : BinOp} {t : TypeId} {x y : Operand} {xs ys : Array Value} {b : Bool} {Q : Bool → View → Prop} (h : xeqS P t xs ys = some b) (hop : op = .eql ∨ op = .neq) (hq : Q b A) :
    (eqGuard op t x y (.agg xs) (.agg ys)).vp P (fun _ A' => (Op.equal t (.agg xs) (.agg ys)).vp P Q A') A := by
  unfold xeqS at h
  split at h
  · rename_i fs hf
    split at h
    · cases h
    · rename_i hn
      rw [Bool.or_eq_true, not_or] at hn
      have h1 : P.stoodInHeld t = false := by simpa using hn.1
      have h2 : P.eqGuardType P.depth t = false := by simpa using hn.2
      have h3 : (Op.equal t (.agg xs) (.agg ys)).vp P Q A := eqStruct_vp 9998 9999 rfl hf h1 h hq
      unfold eqGuard
      rcases hop with rfl | rfl
      · simp [vp_bind, vp_program, h2]
        exact h3
      · simp [vp_bind, vp_program, h2]
        exact h3
  · cases h
def xval (P : Program) (op : Op) (ρ : Operand → Value) (A : View) : Option Value :=
  match op with
  | .move x => some (ρ x)
  | .assign x => some (ρ x)
  | .pick c a b => match ρ c with
    | .bool true => some (ρ a)
    | .bool false => some (ρ b)
    | _ => none
  | .load t a => match ρ a with
    | .pointer (some p) => vload P t p A
    | _ => none
  | .nilCheck x => xnil (ρ x)
  | .binOp op t x y _ => if eqPlain op (ρ x) (ρ y) then xbin P op t A (ρ x) (ρ y)
    else match op, ρ x, ρ y, isConst x || isConst y, tinfo P t with
      | .eql, .nilIface, .nilIface, true, some ⟨.iface _, _, _, _⟩ => some (.bool true)
      | .neq, .nilIface, .nilIface, true, some ⟨.iface _, _, _, _⟩ => some (.bool false)
      | .eql, .agg xs, .agg ys, _, _ => (xeqS P t xs ys).map fun b => .bool b
      | .neq, .agg xs, .agg ys, _, _ => (xeqS P t xs ys).map fun b => .bool !b
      | _, _, _, _, _ => none
  | .unOp op _ x => xunop op (ρ x)
  | .convert s d x => xconv P s d (ρ x)
  | .makeInterface t x => xmkIface P t (ρ x)
  | .makeFunc fn first captured => some (.func fn (first.map ρ) (captured.map ρ))
  | .slice t x lo hi none => xslice P t (ρ x) (lo.map ρ) (hi.map ρ)
  | .fieldAddr s x f => xfieldAt P s (ρ x) f
  | .field t x f => xfield P t (ρ x) f
  | .indexAddr t x i => xindexAt P t (ρ x) (ρ i)
  | .index t x i => xindex P t (ρ x) (ρ i)
  | .lookup t x k ok => xlookup P t (ρ x) (ρ k) ok A
  | .typeAssert x xt t ok => xassert P (ρ x) xt t ok
  | .extract t i => match ρ t with
    | .tuple vs => vs[i]?
    | _ => none
  | .build t ps => xbuild P t (ps.map fun (i, x) => (i, ρ x))
  | .call c => match c.callee, c.args.toList, c.argTypes.toList with
    | .builtin .len, [x], [t] => xlen P t (ρ x) A
    | .builtin .min, [x, y], _ => xmin (ρ x) (ρ y)
    | .builtin .max, [x, y], _ => xmax (ρ x) (ρ y)
    | _, _, _ => none
  | _ => none

theorem eqGuard_vp {P : Program} {A : View} {op : BinOp} {t : TypeId} {x y : Operand} {a b : Value} {Q : Unit → View → Prop} (h : eqPlain op a b = true) (hq : Q () A) :
    (eqGuard op t x y a b).vp P Q A := by
  unfold eqGuard
  cases op <;> simp only [eqPlain] at h <;> first
    | exact hq
    | (cases a <;> first | exact hq | (cases b <;> first | exact hq | cases h))

theorem xval_sound {P : Program} {op : Op} {ρ : Operand → Value} {A : View} {u : Value} {Q : Next → View → Prop} {dst : Option Tmp} {ty : TypeId} {pos : String} {af : Array Edge} {g : Option (Nat × Bool)}
    (h : xval P op ρ A = some u) (hq : Q (.value u) A) : (execOp ρ ⟨dst, op, ty, pos, af, g⟩).vp P Q A := by
  unfold xval at h
  split at h
  · simp only [Option.some.injEq] at h; subst h; exact hq
  · simp only [Option.some.injEq] at h; subst h; exact hq
  · rename_i c a b
    simp only [execOp, vp_bind]
    split at h
    · rename_i hc; simp only [Option.some.injEq] at h; subst h; rw [hc]; exact hq
    · rename_i hc; simp only [Option.some.injEq] at h; subst h; rw [hc]; exact hq
    · cases h
  · rename_i t a
    simp only [execOp, vp_bind]
    split at h
    · rename_i p hp
      rw [hp]
      unfold Instr.loadAt
      simp only [vp_bind, Instr.sureAddr, vp_pure]
      exact vp_loadVar h hq
    · cases h
  · rename_i x
    simp only [execOp]
    unfold xnil at h
    split at h <;> (try cases h) <;> (rename_i hx; rw [hx]; first | exact hq | (rw [hx] at hq; exact hq))
  · rename_i o t x y b
    simp only [execOp, vp_bind]
    split at h
    · rename_i hp
      exact eqGuard_vp hp (xbin_sound h hq)
    · split at h
      · rename_i hx hy hc hti hnp
        obtain ⟨d, hd, hk⟩ := tinfo_under hti
        cases d <;> simp only [TK.of, reduceCtorEq] at hk
        simp only [Option.some.injEq] at h; subst h
        rw [hx, hy]
        refine eqGuard_const x y hc ?_
        simp only [binOp, vp_bind]
        refine equal_vp fun dd => ?_
        simp only [Op.equalIn, vp_bind]
        refine vp_underlying hd _ ?_
        exact hq
      · rename_i hx hy hc hti hnp
        obtain ⟨d, hd, hk⟩ := tinfo_under hti
        cases d <;> simp only [TK.of, reduceCtorEq] at hk
        simp only [Option.some.injEq] at h; subst h
        rw [hx, hy]
        refine eqGuard_const x y hc ?_
        simp only [binOp, vp_bind]
        refine equal_vp fun dd => ?_
        simp only [Op.equalIn, vp_bind]
        refine vp_underlying hd _ ?_
        exact hq
      · rename_i hx hy hnp
        obtain ⟨b, hb, rfl⟩ := Option.map_eq_some_iff.1 h
        rw [hx, hy]
        simp only [binOp, vp_bind]
        exact xeqS_vp hb (.inl rfl) hq
      · rename_i hx hy hnp
        obtain ⟨b, hb, rfl⟩ := Option.map_eq_some_iff.1 h
        rw [hx, hy]
        simp only [binOp, vp_bind]
        exact xeqS_vp hb (.inr rfl) hq
      · cases h
  · rename_i o t x
    simp only [execOp, vp_bind]
    unfold xunop at h
    split at h
    · rename_i hx; simp only [Option.some.injEq] at h; subst h; rw [hx]; exact hq
    · rename_i hx; simp only [Option.some.injEq] at h; subst h; rw [hx]; exact hq
    · cases h
  · simp only [execOp, vp_bind]; exact xconv_sound h hq
  · simp only [execOp, vp_bind]; exact xmkIface_sound h hq
  · simp only [Option.some.injEq] at h; subst h; exact hq
  · simp only [execOp, vp_bind]; exact xslice_sound h hq
  · simp only [execOp, vp_bind]; exact xfieldAt_sound h hq
  · simp only [execOp, vp_bind]; exact xfield_sound h hq
  · simp only [execOp, vp_bind]; exact xindexAt_sound h hq
  · simp only [execOp, vp_bind]; exact xindex_sound h hq
  · simp only [execOp, vp_bind]; exact xlookup_sound h hq
  · simp only [execOp, vp_bind]; exact xassert_sound h hq
  · rename_i t i
    simp only [execOp, vp_bind]
    split at h
    · rename_i vs hx
      rw [hx]
      simp only [Instr.extract, h]
      exact hq
    · cases h
  · simp only [execOp, vp_bind]; exact xbuild_sound h hq
  · rename_i c
    split at h
    · rename_i x t hc hx ht
      obtain ⟨ce, ar, ts⟩ := c
      simp only at hc hx ht
      subst hc
      have har : ar = #[x] := Array.toList_inj.1 hx
      have hts : ts = #[t] := Array.toList_inj.1 ht
      subst har hts
      simp only [execOp, vp_bind, resolve, vp_pure, invoke, builtin]
      have hm : Array.map ρ #[x] = #[ρ x] := by simp
      rw [hm]
      refine xlen_sound (ts := #[t]) (t := t) rfl h ?_
      exact hq
    · rename_i tl x y hc hx
      obtain ⟨ce, ar, ts⟩ := c
      simp only at hc hx
      subst hc
      have har : ar = #[x, y] := Array.toList_inj.1 hx
      subst har
      simp only [execOp, vp_bind, resolve, vp_pure, invoke, builtin]
      have hm : Array.map ρ #[x, y] = #[ρ x, ρ y] := by simp
      rw [hm]
      refine xmin_sound h ?_
      exact hq
    · rename_i tl x y hc hx
      obtain ⟨ce, ar, ts⟩ := c
      simp only at hc hx
      subst hc
      have har : ar = #[x, y] := Array.toList_inj.1 hx
      subst har
      simp only [execOp, vp_bind, resolve, vp_pure, invoke, builtin]
      have hm : Array.map ρ #[x, y] = #[ρ x, ρ y] := by simp
      rw [hm]
      refine xmax_sound h ?_
      exact hq
    · cases h
  · cases h

/-! ## What is made new -/
def zerosB (zero : Array Value) (n : Nat) : Array Value := (Array.range n).map (zero[· % zero.size]!)
def xnew (P : Program) (op : Op) (ρ : Operand → Value) : Option (Obj × (Nat → Value)) :=
  match op with
  | .alloc e => (zeroOf P e).map fun z => (.cells z.cells e, fun b => .pointer (some ⟨b, 0, none⟩))
  | .box e x => some (.cells (ρ x).cells e, fun b => .pointer (some ⟨b, 0, none⟩))
  | .makeMap t none => some (.map #[] 0, fun b => .map (some b))
  | .makeMap t (some r) => match tinfo P t, ρ r with
    | some ⟨.map _ _, _, _, _⟩, .int _ _ => some (.map #[] 0, fun b => .map (some b))
    | _, _ => none
  | .buildSlice t len ps => match tinfo P t with
    | some ⟨.slice e, _, _, _⟩ => match tinfo P e with
      | some ⟨_, size, _, some z⟩ =>
        if len * size ≤ 2 ^ 24 then
          (Instr.fill (fun i => some (i * size, size)) (zerosB (if len * size = 0 then #[] else z.cells) (len * size)) (ps.map fun (i, x) => (i, ρ x)).toList).map
            fun cs => (.cells cs e, fun b => .slice (some ⟨b, 0, none⟩) len len)
        else none
      | _ => none
    | _ => none
  | .range t x => match tinfo P t, ρ x with
    | some ⟨.string, _, _, _⟩, .string s => some (.stringIter s 0, fun b => .pointer (some ⟨b, 0, none⟩))
    | _, _ => none
  | _ => none
theorem vp_newObj {P : Program} {A : View} {o : Obj} {Q : Nat → View → Prop} (h : ∀ b, A b = none → Q b (A.set b o)) : (newObj o).vp P Q A := h
theorem xnew_sound {P : Program} {op : Op} {ρ : Operand → Value} {A : View} {o : Obj} {f : Nat → Value} {Q : Next → View → Prop} {dst : Option Tmp} {ty : TypeId} {pos : String} {af : Array Edge} {g : Option (Nat × Bool)}
    (h : xnew P op ρ = some (o, f)) (hq : ∀ b, A b = none → Q (.value (f b)) (A.set b o)) : (execOp ρ ⟨dst, op, ty, pos, af, g⟩).vp P Q A := by
  unfold xnew at h
  split at h
  · rename_i e
    obtain ⟨z, hz, hu⟩ := Option.map_eq_some_iff.1 h
    simp only [Prod.mk.injEq] at hu
    obtain ⟨rfl, rfl⟩ := hu
    obtain ⟨ti, hti, hzz⟩ := Option.bind_eq_some_iff.1 hz
    simp only [execOp, vp_bind]
    unfold Instr.alloc
    rw [vp_bind]
    refine vp_zeroValue hti hzz _ ?_
    simp only [newVar, newRow, vp_bind]
    exact vp_newObj fun b hb => hq b hb
  · rename_i e x
    simp only [Option.some.injEq, Prod.mk.injEq] at h
    obtain ⟨rfl, rfl⟩ := h
    simp only [execOp, vp_bind, Instr.box, newVar, newRow]
    exact vp_newObj fun b hb => hq b hb
  · simp only [Option.some.injEq, Prod.mk.injEq] at h
    obtain ⟨rfl, rfl⟩ := h
    simp only [execOp, vp_bind, Instr.makeMap, Option.map_none, vp_pure]
    exact vp_newObj fun b hb => hq b hb
  · rename_i t r
    split at h
    · rename_i _ _ _ _ _ k n hti hr
      obtain ⟨d, hd, hk⟩ := tinfo_under hti
      cases d <;> simp only [TK.of, reduceCtorEq] at hk
      simp only [Option.some.injEq, Prod.mk.injEq] at h
      obtain ⟨rfl, rfl⟩ := h
      simp only [execOp, vp_bind, Instr.makeMap, Option.map_some, hr]
      refine vp_underlying hd _ ?_
      simp only [asInt, asIntOf, vp_bind, vp_pure]
      exact vp_newObj fun b hb => hq b hb
    · cases h
  · rename_i t len ps
    split at h
    · rename_i hti
      obtain ⟨d, hd, hk⟩ := tinfo_under hti
      cases d <;> simp only [TK.of, reduceCtorEq, TK.slice.injEq] at hk
      subst hk
      split at h
      · rename_i hte
        split at h
        · rename_i hsz
          obtain ⟨cs, hcs, hu⟩ := Option.map_eq_some_iff.1 h
          simp only [Prod.mk.injEq] at hu
          obtain ⟨rfl, rfl⟩ := hu
          simp only [execOp, vp_bind]
          unfold Instr.buildSlice
          rw [vp_bind]
          refine vp_underlying hd _ ?_
          simp only [vp_bind]
          refine vp_sizeOf hte _ ?_
          rw [if_neg (Nat.not_lt.2 hsz)]
          simp only [vp_bind, vp_pure]
          split
          · rename_i h0
            rw [if_pos h0] at hcs
            simp only [vp_bind, vp_pure]
            unfold zerosB at hcs
            rw [hcs]
            simp only [newRow, vp_bind]
            exact vp_newObj fun b hb => hq b hb
          · rename_i h0
            rw [if_neg h0] at hcs
            simp only [vp_bind, vp_pure]
            refine vp_zeroValue hte rfl _ ?_
            unfold zerosB at hcs
            rw [hcs]
            simp only [newRow, vp_bind]
            exact vp_newObj fun b hb => hq b hb
        · cases h
      · cases h
    · cases h
  · rename_i t x
    split at h
    · rename_i s hti hx
      obtain ⟨d, hd, hk⟩ := tinfo_under hti
      cases d <;> simp only [TK.of, reduceCtorEq] at hk
      simp only [Option.some.injEq, Prod.mk.injEq] at h
      obtain ⟨rfl, rfl⟩ := h
      simp only [execOp, vp_bind, Instr.range, hx]
      refine vp_underlying hd _ ?_
      simp only [vp_pure, vp_bind]
      exact vp_newObj fun b hb => hq b hb
    · cases h
  · cases h
end Go.Proofs.YtpinamipjddobaaV

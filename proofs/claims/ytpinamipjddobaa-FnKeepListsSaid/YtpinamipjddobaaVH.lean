/- The logic of views: operations that write, call, grow. -/
import Derived.Test.YtpinamipjddobaaV3
import Derived.Laws.Append
namespace Go.Proofs.YtpinamipjddobaaV
open Go.RowKit
set_option linter.unusedSimpArgs false
set_option linter.unusedVariables false

def onS {α : Type} (o : Option α) (K : α → Prop) : Prop := ∃ a, o = some a ∧ K a
def gif (b : Bool) (x y : Prop) : Prop := if b then x else y
/-- What is asked of a new block. -/
def fresh (A : View) (o : Obj) (K : Nat → View → Prop) : Prop := ∀ b, A b = none → K b (A.set b o)

/-! ## Stores -/
def storeAll (A : View) (a : Addr) (i : Nat) : List Value → Option View
  | [] => some A
  | v :: r => if one v = true ∧ (A.cell? (a.add i)).isSome = true ∧ A.frozen? (a.add i) = false then storeAll (A.setCell (a.add i) v) a (i + 1) r else none
theorem vp_storeCells {P : Program} {a : Addr} : ∀ (vs : List Value) (i : Nat) (A A' : View) (Q : Unit → View → Prop), storeAll A a i vs = some A' → Q () A' → (storeCells a vs i).vp P Q A
  | [], i, A, A', Q, h, hq => by
    simp only [storeAll, Option.some.injEq] at h
    subst h
    exact hq
  | v :: r, i, A, A', Q, h, hq => by
    simp only [storeAll] at h
    split at h
    · rename_i hc
      unfold storeCells
      rw [vp_bind]
      exact ⟨hc.1, hc.2.1, hc.2.2, vp_storeCells r (i + 1) _ A' Q h hq⟩
    · cases h
def xstore (P : Program) (t : TypeId) (a v : Value) (A : View) : Option View :=
  match a, tinfo P t with
  | .pointer (some p), some ti => if v.cells.size = ti.size then storeAll A p 0 v.cells.toList else none
  | _, _ => none
theorem xstore_sound {P : Program} {t : TypeId} {a v : Value} {A A' : View} {Q : Unit → View → Prop} (h : xstore P t a v A = some A') (hq : Q () A') : (Instr.storeAt t a v).vp P Q A := by
  unfold xstore at h
  split at h
  · rename_i p ti hti
    split at h
    · rename_i hs
      unfold Instr.storeAt
      simp only [vp_bind, Instr.sureAddr, vp_pure]
      unfold storeVar
      rw [vp_bind]
      refine vp_sizeOf hti _ ?_
      simp only [hs, ne_eq, not_true_eq_false, if_false]
      exact vp_storeCells _ _ _ _ _ h hq
    · cases h
  · cases h

/-! ## Calls -/
def goodFn (P : Program) (k : FuncId) : Bool :=
  match P.funcs[k]? with
  | some fn => !fn.body.isNone && !(fn.name == "runtime.NumGoroutine")
  | none => false
def xcall (P : Program) (f : Value) (args : Array Value) (A : View) (K : Value → View → Prop) : Prop :=
  match f with
  | .func (.func k) first cap => gif (goodFn P k) (VCalls P k (first ++ args ++ cap) A K) False
  | _ => False
theorem callFunc_vp {P : Program} {k : FuncId} {args : Array Value} {A : View} {Q : Next → View → Prop} (h : goodFn P k = true) (hq : Q (.enter k args) A) : (callFunc k args).vp P Q A := by
  unfold goodFn at h
  split at h
  · rename_i fn hf
    simp only [Bool.and_eq_true, Bool.not_eq_true'] at h
    unfold callFunc
    simp only [vp_bind, vp_program, hf, h.1, h.2, Bool.false_eq_true, if_false, vp_pure]
    exact hq
  · cases h
structure MI where
  f : FuncId
  deref : Option TypeId
def meth (P : Program) (t : TypeId) (m : String) : Option MI :=
  match P.info? t, P.underlying t with
  | some i, some d =>
    match i.methods.find? (·.name == m) with
    | some me => if me.path.toList.isEmpty then match me.func with
      | some (f, ptr) => match d, ptr with
        | .pointer _, true => some ⟨f, none⟩
        | .pointer e, false => some ⟨f, some e⟩
        | _, false => some ⟨f, none⟩
        | _, true => none
      | none => none
      else none
    | none => none
  | _, _ => none
def xinvoke (P : Program) (r : Value) (m : String) (args : Array Value) (A : View) (K : Value → View → Prop) : Prop :=
  match r with
  | .iface t v => match meth P t m with
    | some ⟨f, none⟩ => gif (goodFn P f) (VCalls P f (#[v] ++ args) A K) False
    | some ⟨f, some e⟩ => match v with
      | .pointer (some p) => onS (vload P e p A) fun u => gif (goodFn P f) (VCalls P f (#[u] ++ args) A K) False
      | _ => False
    | none => False
  | _ => False
theorem method_vp {P : Program} {t : TypeId} {v : Value} {name : String} {A : View} {mi : MI} {Q : FuncId × Value → View → Prop} {k : Nat} (h : meth P t name = some mi)
    (hq : match mi.deref with | none => Q (mi.f, v) A | some e => ∃ p u, v = .pointer (some p) ∧ vload P e p A = some u ∧ Q (mi.f, u) A) : (method (k + 1) t v name).vp P Q A := by
  unfold meth at h
  split at h
  · rename_i i d hi hd
    split at h
    · rename_i me hme
      split at h
      · rename_i hp
        have hpl : me.path.toList = [] := by simpa using hp
        unfold method
        simp only [typeInfo, vp_bind, vp_program, hi, vp_pure, hme, hpl, follow]
        split at h
        · rename_i f ptr hf
          simp only [hf, vp_bind]
          unfold receiverAt
          rw [vp_bind]
          refine vp_underlying hd _ ?_
          split at h
          · simp only [Option.some.injEq] at h; subst h
            simp only [Place.get, vp_pure, vp_bind]; exact hq
          · simp only [Option.some.injEq] at h; subst h
            obtain ⟨p, u, rfl, hu, hq⟩ := hq
            have he : me.path.isEmpty = true := by
              cases hm : me.path with
              | mk l => rw [hm] at hpl; simp only at hpl; subst hpl; rfl
            simp only [Place.get, vp_pure, vp_bind, he, if_true]
            show ((Pure.pure (Value.pointer (some p)) : Sem Value).vp P _ A)
            simp only [vp_pure, asAddr]
            exact vp_loadVar hu hq
          · rename_i hd'
            simp only [Option.some.injEq] at h; subst h
            cases d <;> first | exact (hd' _ rfl).elim | (simp only [Place.get, vp_pure, vp_bind]; exact hq)
          · cases h
        · cases h
      · cases h
    · cases h
  · cases h
def toDefer (f : Value) (args : Array Value) : Option Deferred :=
  match f with
  | .func fn first cap => some { target := .fn fn cap, args := first ++ args }
  | _ => none

/-! ## Maps of texts -/
def mset (es : Array MapEntry) (clock : Nat) (s : ByteArray) (v : Value) : Obj :=
  match sfind s es.toList 0 with
  | some (i, _) => .map (es.modify i fun e => { e with key := .string s, val := v }) clock
  | none => .map (es.push { key := .string s, val := v, born := clock }) (clock + 1)
def mdel (es : Array MapEntry) (clock : Nat) (s : ByteArray) : Obj :=
  match sfind s es.toList 0 with
  | some (i, _) => .map (es.eraseIdxIfInBounds i) clock
  | none => .map es clock
def strMap (P : Program) (t : TypeId) : Bool :=
  match tinfo P t with
  | some ⟨.map kt _, _, _, _⟩ => match tinfo P kt with
    | some ⟨.string, _, _, _⟩ => true
    | _ => false
  | _ => false
theorem strMap_spec {P : Program} {t : TypeId} (h : strMap P t = true) : ∃ kt et, P.underlying t = some (.map kt et) ∧ P.underlying kt = some .string := by
  unfold strMap at h
  split at h
  · rename_i kt et _ _ _ hti
    obtain ⟨d, hd, hk⟩ := tinfo_under hti
    cases d <;> simp only [TK.of, reduceCtorEq, TK.map.injEq] at hk
    obtain ⟨rfl, rfl⟩ := hk
    split at h
    · rename_i hkt
      obtain ⟨d2, hd2, hk2⟩ := tinfo_under hkt
      cases d2 <;> simp only [TK.of, reduceCtorEq] at hk2
      exact ⟨_, _, hd, hd2⟩
    · cases h
  · cases h
def xmapUpdate (P : Program) (t : TypeId) (m k v : Value) (A : View) : Option View :=
  match m, k with
  | .map (some r), .string s => match A r with
    | some (.map es c) => if strMap P t && strKeysB es.toList then some (A.set r (mset es c s v)) else none
    | _ => none
  | _, _ => none
theorem sfind_key (s : ByteArray) : ∀ (es : List MapEntry) (k i : Nat) (v : Value), sfind s es k = some (i, v) → k ≤ i ∧ ∃ e, es[i - k]? = some e ∧ e.key = .string s ∧ e.val = v
  | [], k, i, v, h => by cases h
  | e :: es, k, i, v, h => by
    simp only [sfind] at h
    split at h
    · rename_i s' hk
      split at h
      · rename_i h2
        simp only [Option.some.injEq, Prod.mk.injEq] at h
        obtain ⟨rfl, rfl⟩ := h
        exact ⟨Nat.le_refl _, e, by simp, by rw [hk, h2], rfl⟩
      · obtain ⟨h1, e', he, h2, h3⟩ := sfind_key s es (k + 1) i v h
        refine ⟨by omega, e', ?_, h2, h3⟩
        have : i - k = (i - (k + 1)) + 1 := by omega
        rw [this, List.getElem?_cons_succ]
        exact he
    · cases h
theorem xmapUpdate_sound {P : Program} {t : TypeId} {m k v : Value} {A A' : View} {Q : Unit → View → Prop} (h : xmapUpdate P t m k v A = some A') (hq : Q () A') : (Instr.mapUpdate t m k v).vp P Q A := by
  unfold xmapUpdate at h
  split at h
  · rename_i r s
    split at h
    · rename_i es c hA
      split at h
      · rename_i hc
        simp only [Bool.and_eq_true] at hc
        obtain ⟨kt, et, hd, hk⟩ := strMap_spec hc.1
        simp only [Option.some.injEq] at h
        subst h
        unfold Instr.mapUpdate
        rw [vp_bind]
        refine vp_underlying hd _ ?_
        simp only [vp_bind]
        refine ⟨_, hA, trivial, ?_⟩
        simp only [vp_pure', vp_bind]
        refine checkKey_string hk ?_
        refine findKey_string hk (strKeysB_spec hc.2) ?_
        unfold mset at hq
        cases hf : sfind s es.toList 0 with
        | none =>
          rw [hf] at hq
          exact ⟨_, hA, trivial, hq⟩
        | some p =>
          obtain ⟨i, w⟩ := p
          rw [hf] at hq
          obtain ⟨_, e, he, hke, _⟩ := sfind_key s es.toList 0 i w hf
          have he' : es[i]? = some e := by simpa using he
          simp only [vp_bind, he', Option.map_some, Option.getD_some, hke, Instr.keyThatStays]
          rw [if_pos (by simp only [Instr.sameBits]; exact (ba_beq s s).2 rfl)]
          exact ⟨_, hA, trivial, hq⟩
      · cases h
    · cases h
  · cases h
def xdelete (P : Program) (t : TypeId) (m k : Value) (A : View) : Option View :=
  match m, k with
  | .map none, .string _ => if strMap P t then some A else none
  | .map (some r), .string s => match A r with
    | some (.map es c) => if strMap P t && strKeysB es.toList then some (A.set r (mdel es c s)) else none
    | _ => none
  | _, _ => none
theorem xdelete_sound {P : Program} {t ty : TypeId} {m k : Value} {A A' : View} {Q : Value → View → Prop} (h : xdelete P t m k A = some A') (hq : Q (.tuple #[]) A') :
    (Builtin.delete_ #[t] ty #[m, k]).vp P Q A := by
  unfold Builtin.delete_
  simp only [List.getElem?_toArray, List.getElem?_cons_zero, List.getElem?_cons_succ]
  unfold xdelete at h
  split at h
  · split at h
    · rename_i hc
      obtain ⟨kt, et, hd, hk⟩ := strMap_spec hc
      simp only [Option.some.injEq] at h
      subst h
      rw [vp_bind]
      refine vp_underlying hd _ ?_
      simp only [vp_bind]
      exact checkKey_string hk hq
    · cases h
  · rename_i r s
    split at h
    · rename_i es c hA
      split at h
      · rename_i hc
        simp only [Bool.and_eq_true] at hc
        obtain ⟨kt, et, hd, hk⟩ := strMap_spec hc.1
        simp only [Option.some.injEq] at h
        subst h
        rw [vp_bind]
        refine vp_underlying hd _ ?_
        simp only [vp_bind]
        refine ⟨_, hA, trivial, ?_⟩
        simp only [vp_pure', vp_bind]
        refine checkKey_string hk ?_
        refine findKey_string hk (strKeysB_spec hc.2) ?_
        unfold mdel at hq
        cases hf : sfind s es.toList 0 with
        | none =>
          rw [hf] at hq
          exact ⟨_, hA, trivial, hq⟩
        | some p =>
          obtain ⟨i, w⟩ := p
          rw [hf] at hq
          exact ⟨_, hA, trivial, hq⟩
      · cases h
    · cases h
  · cases h

/-! ## append -/
def View.erase (A : View) (b : Nat) : View := fun k => if k = b then none else A k
def eraseO (A : View) : Option Addr → View
  | some a => A.erase a.block
  | none => A
/-- The first m elements of what is appended. -/
def appended (P : Program) (A : View) (size : Nat) (x : Value) : Option (List Value × Nat) :=
  match x with
  | .slice (some a) m _ => (A.cells? a 0 (m * size)).map fun cs => (cs, m)
  | .slice none m _ => if m = 0 then some ([], 0) else none
  | .string s => some ((s.data.map fun b => Value.int .u8 b.toNat).toList, s.size)
  | _ => none
/-- What becomes of a slice: in one block, which is the old one or new, there lie the old cells and the new ones. -/
def grown (A : View) (e : TypeId) (size : Nat) (base : Option Addr) (old cs : List Value) (need : Nat) (K : Value → View → Prop) : Prop :=
  ∀ (b off cap : Nat) (c : Array Value), (eraseO A base) b = none → need ≤ cap → off + cap * size ≤ c.size → (∀ j, j < (old ++ cs).length → c[off + j]? = (old ++ cs)[j]?) →
    K (.slice (some ⟨b, off, none⟩) need cap) ((eraseO A base).set b (.cells c e (0, 0)))
/-- A slice that may be grown: its block is known whole, and has room for its capacity. -/
def sliceIn (A : View) (e : TypeId) (size : Nat) : Value → Option (List Value)
  | .slice (some a) n cap => match A a.block with
    | some (.cells c e' (0, 0)) => if e' = e ∧ a.spot = none ∧ n ≤ cap ∧ a.off + cap * size ≤ c.size then A.cells? a 0 (n * size) else none
    | _ => none
  | .slice none 0 0 => some []
  | _ => none
theorem cells?_length {A : View} {a : Addr} : ∀ (n i : Nat) (cs : List Value), A.cells? a i n = some cs → cs.length = n
  | 0, i, cs, h => by simp only [View.cells?, Option.some.injEq] at h; subst h; rfl
  | n + 1, i, cs, h => by
    simp only [View.cells?] at h
    obtain ⟨v, hv, h⟩ := Option.bind_eq_some_iff.1 h
    obtain ⟨vs, hvs, h⟩ := Option.map_eq_some_iff.1 h
    subst h
    simp [cells?_length n (i + 1) vs hvs]
theorem cells?_get {A : View} {a : Addr} : ∀ (n i : Nat) (cs : List Value), A.cells? a i n = some cs → ∀ j, j < n → A.cell? (a.add (i + j)) = cs[j]?
  | 0, i, cs, h, j, hj => by omega
  | n + 1, i, cs, h, j, hj => by
    simp only [View.cells?] at h
    obtain ⟨v, hv, h⟩ := Option.bind_eq_some_iff.1 h
    obtain ⟨vs, hvs, h⟩ := Option.map_eq_some_iff.1 h
    subst h
    cases j with
    | zero => simpa using hv
    | succ j =>
      have := cells?_get n (i + 1) vs hvs j (by omega)
      rw [List.getElem?_cons_succ, ← this]
      congr 2
      omega
theorem cells?_intro {A : View} {a : Addr} : ∀ (n i : Nat) (cs : List Value), cs.length = n → (∀ j, j < n → A.cell? (a.add (i + j)) = cs[j]?) → A.cells? a i n = some cs
  | 0, i, cs, h, _ => by
    have : cs = [] := List.length_eq_zero_iff.1 h
    subst this; rfl
  | n + 1, i, cs, h, hc => by
    cases cs with
    | nil => simp at h
    | cons v vs =>
      simp only [View.cells?]
      have h0 := hc 0 (by omega)
      simp only [Nat.add_zero, List.getElem?_cons_zero] at h0
      rw [h0]
      simp only [Option.bind_some]
      rw [cells?_intro n (i + 1) vs (by simpa using h) fun j hj => by
        have := hc (j + 1) (by omega)
        rw [List.getElem?_cons_succ] at this
        rw [← this]; congr 2; omega]
      rfl
theorem add_block (a : Addr) (k : Nat) : (a.add k).block = a.block := by unfold Addr.add; split <;> rfl
theorem add_off (a : Addr) (k : Nat) : (a.add k).off = a.off + k := by
  unfold Addr.add
  split
  · rename_i h; rw [h]; rfl
  · rfl
theorem add_spot (a : Addr) (k : Nat) (h : a.spot = none) : (a.add k).spot = none := by unfold Addr.add; split <;> first | exact h | rfl
theorem add_add (a : Addr) (k l : Nat) (h : a.spot = none) : (a.add k).add l = a.add (k + l) := by
  obtain ⟨b, o, s⟩ := a
  simp only at h
  subst h
  unfold Addr.add
  by_cases hk : k = 0 <;> by_cases hl : l = 0 <;> simp [hk, hl, Nat.add_assoc]
def splice (c : Array Value) (k : Nat) : List Value → Array Value
  | [] => c
  | v :: r => splice (c.setIfInBounds k v) (k + 1) r
theorem splice_size : ∀ (vs : List Value) (c : Array Value) (k : Nat), (splice c k vs).size = c.size
  | [], c, k => rfl
  | v :: r, c, k => by simp [splice, splice_size r]
theorem splice_get : ∀ (vs : List Value) (c : Array Value) (k : Nat), k + vs.length ≤ c.size → ∀ j, (splice c k vs)[j]? = if k ≤ j ∧ j < k + vs.length then vs[j - k]? else c[j]?
  | [], c, k, h, j => by
    simp only [splice, List.length_nil, Nat.add_zero]
    rw [if_neg (by omega)]
  | v :: r, c, k, h, j => by
    simp only [List.length_cons] at h
    simp only [splice]
    rw [splice_get r _ (k + 1) (by simp; omega) j]
    by_cases h1 : k + 1 ≤ j ∧ j < k + 1 + r.length
    · rw [if_pos h1, if_pos (by simp only [List.length_cons]; omega)]
      have : j - k = (j - (k + 1)) + 1 := by omega
      rw [this, List.getElem?_cons_succ]
    · rw [if_neg h1]
      by_cases h2 : j = k
      · subst h2
        rw [if_pos (by simp only [List.length_cons]; omega)]
        simp [Array.getElem?_setIfInBounds]
        omega
      · rw [if_neg (by simp only [List.length_cons]; omega)]
        rw [Array.getElem?_setIfInBounds_ne (fun e => h2 e.symm)]
theorem set_set (A : View) (b : Nat) (o o' : Obj) : (A.set b o).set b o' = A.set b o' := by
  funext k
  unfold View.set
  split <;> rfl
theorem set_at (A : View) (b : Nat) (o : Obj) : A.set b o b = some o := if_pos rfl
theorem storeAll_block {e : TypeId} : ∀ (vs : List Value) (A : View) (a : Addr) (i : Nat) (c : Array Value), A a.block = some (.cells c e (0, 0)) → a.spot = none → a.off + i + vs.length ≤ c.size →
    (∀ v ∈ vs, one v = true) → storeAll A a i vs = some (A.set a.block (.cells (splice c (a.off + i) vs) e (0, 0)))
  | [], A, a, i, c, h, hs, hl, ho => by
    simp only [storeAll, splice, Option.some.injEq]
    funext k
    unfold View.set
    split
    · rename_i hk; rw [hk]; exact h
    · rfl
  | v :: r, A, a, i, c, h, hs, hl, ho => by
    simp only [List.length_cons] at hl
    simp only [storeAll]
    have hb := add_block a i
    have hof := add_off a i
    have hsp := add_spot a i hs
    have hcell : A.cell? (a.add i) = c[a.off + i]? := by
      unfold View.cell?
      rw [hb, h]
      simp [hsp, hof]
    have hset : A.setCell (a.add i) v = A.set a.block (.cells (c.setIfInBounds (a.off + i) v) e (0, 0)) := by
      unfold View.setCell
      rw [hb, h]
      simp [hsp, hof]
    rw [if_pos ⟨ho v List.mem_cons_self, by rw [hcell]; simp; omega, by unfold View.frozen?; rw [hb, h]; simp⟩, hset]
    rw [storeAll_block r _ a (i + 1) (c.setIfInBounds (a.off + i) v) (set_at _ _ _) hs (by simp; omega) fun x hx => ho x (List.mem_cons_of_mem _ hx)]
    rw [set_set]
    rfl

def xappend (P : Program) (t u : TypeId) (s x : Value) (A : View) (K : Value → View → Prop) : Prop :=
  match tinfo P t, tinfo P u with
  | some ⟨.slice e, _, _, _⟩, some tu =>
    match tinfo P e, tu.k with
    | _, .int _ => False
    | some ⟨_, size, bytes, some z⟩, _ =>
      match s with
      | .slice base n _ => onS (sliceIn A e size s) fun old => onS (appended P A size x) fun cm =>
          ((n + cm.2) * bytes ≤ 140737488355328 ∧ 0 < bytes ∧ z.cells.size = size ∧ (isStr x = true → size = 1) ∧ (∀ v ∈ cm.1, one v = true)) ∧
          (if base = none ∧ n + cm.2 = 0 then K (.slice none 0 0) A else grown A e size base old cm.1 (n + cm.2) K)
      | _ => False
    | _, _ => False
  | _, _ => False
theorem appended_length {P : Program} {A : View} {size : Nat} {x : Value} {cm : List Value × Nat} (h : appended P A size x = some cm) (hs : ∀ s, x = .string s → size = 1) : cm.1.length = cm.2 * size := by
  unfold appended at h
  split at h
  · obtain ⟨cs, hcs, hu⟩ := Option.map_eq_some_iff.1 h
    subst hu
    exact cells?_length _ _ _ hcs
  · split at h
    · simp only [Option.some.injEq] at h; subst h; exact (Nat.zero_mul size).symm
    · cases h
  · rename_i s
    simp only [Option.some.injEq] at h; subst h
    rw [hs s rfl]
    simp only [Array.length_toList, Array.size_map, Nat.mul_one]
    rfl
  · cases h
theorem erase_le (A : View) (b : Nat) : A.erase b ≤ A := by
  intro k o hk
  unfold View.erase at hk
  split at hk
  · cases hk
  · exact hk
theorem eraseO_le (A : View) (b : Option Addr) : eraseO A b ≤ A := by
  cases b with
  | none => exact View.le_refl _
  | some a => exact erase_le _ _
theorem set_le {A B : View} (h : A ≤ B) (b : Nat) (o : Obj) : A.set b o ≤ B.set b o := by
  intro k x hk
  unfold View.set at hk ⊢
  split
  · rename_i hb; rw [if_pos hb] at hk; exact hk
  · rename_i hb; rw [if_neg hb] at hk; exact h k x hk
theorem firstCells_vp {P : Program} {A : View} {size m : Nat} {x : Value} {cs : List Value} {Q : Array Value → View → Prop} (h : appended P A size x = some (cs, m)) (hq : Q cs.toArray A) :
    (Builtin.firstCells size m x).vp P Q A := by
  unfold appended at h
  split at h
  · rename_i a k c
    obtain ⟨cs', hcs, hu⟩ := Option.map_eq_some_iff.1 h
    simp only [Prod.mk.injEq] at hu
    obtain ⟨rfl, rfl⟩ := hu
    unfold Builtin.firstCells loadCells
    exact vp_loadCellsFrom _ _ _ _ _ hcs (by simpa using hq)
  · split at h
    · simp only [Option.some.injEq, Prod.mk.injEq] at h
      obtain ⟨rfl, rfl⟩ := h
      exact hq
    · cases h
  · rename_i s
    simp only [Option.some.injEq, Prod.mk.injEq] at h
    obtain ⟨rfl, rfl⟩ := h
    unfold Builtin.firstCells
    have : s.extract 0 s.size = s := by
      apply ByteArray.ext
      simp
    simp only [this]
    rw [Array.toArray_toList] at hq
    exact hq
  · cases h
theorem lenOf_vp {P : Program} {A : View} {size m : Nat} {x : Value} {cs : List Value} {Q : Nat → View → Prop} (h : appended P A size x = some (cs, m)) (hq : Q m A) :
    (Builtin.lenOf x).vp P Q A := by
  unfold appended at h
  split at h
  · obtain ⟨cs', hcs, hu⟩ := Option.map_eq_some_iff.1 h
    simp only [Prod.mk.injEq] at hu
    obtain ⟨rfl, rfl⟩ := hu
    exact hq
  · split at h
    · rename_i h0
      simp only [Option.some.injEq, Prod.mk.injEq] at h
      obtain ⟨rfl, rfl⟩ := h
      subst h0
      exact hq
    · cases h
  · simp only [Option.some.injEq, Prod.mk.injEq] at h
    obtain ⟨rfl, rfl⟩ := h
    exact hq
  · cases h
theorem old_vp {P : Program} {A : View} {size n cap : Nat} {base : Option Addr} {e : TypeId} {old : List Value} {Q : Array Value → View → Prop} (h : sliceIn A e size (.slice base n cap) = some old) (hq : Q old.toArray A) :
    (Builtin.firstCells size n (.slice base n cap)).vp P Q A := by
  cases base with
  | none =>
    unfold sliceIn at h
    split at h
    · rename_i hx; cases hx
    · simp only [Option.some.injEq] at h; subst h; exact hq
    · cases h
  | some a =>
    simp only [sliceIn] at h
    split at h
    · split at h
      · unfold Builtin.firstCells loadCells
        exact vp_loadCellsFrom _ _ _ _ _ h (by simpa using hq)
      · cases h
    · cases h
theorem sliceIn_length {A : View} {e : TypeId} {size n cap : Nat} {base : Option Addr} {old : List Value} (h : sliceIn A e size (.slice base n cap) = some old) : old.length = n * size := by
  cases base with
  | none =>
    unfold sliceIn at h
    split at h
    · rename_i hx; cases hx
    · rename_i hx
      simp only [Value.slice.injEq, true_and] at hx
      simp only [Option.some.injEq] at h
      subst h
      rw [hx.1]
      exact (Nat.zero_mul size).symm
    · cases h
  | some a =>
    simp only [sliceIn] at h
    split at h
    · split at h
      · exact cells?_length _ _ _ h
      · cases h
    · cases h
theorem sliceIn_block {A : View} {e : TypeId} {size n cap : Nat} {a : Addr} {old : List Value} (h : sliceIn A e size (.slice (some a) n cap) = some old) :
    ∃ c, A a.block = some (.cells c e (0, 0)) ∧ a.spot = none ∧ n ≤ cap ∧ a.off + cap * size ≤ c.size ∧ A.cells? a 0 (n * size) = some old := by
  simp only [sliceIn] at h
  split at h
  · rename_i c e' hA
    split at h
    · rename_i hc
      obtain ⟨rfl, h1, h2, h3⟩ := hc
      exact ⟨c, hA, h1, h2, h3, h⟩
    · cases h
  · cases h
theorem vp_askRoom {P : Program} {A : View} {k : Nat} {Q : Unit → View → Prop} (hq : Q () A) : (askRoom k).vp P Q A := by
  unfold askRoom
  split <;> exact hq
theorem zeroCells_size (z : Array Value) (k : Nat) : (Builtin.zeroCells z k).size = k * z.size := by simp [Builtin.zeroCells]
theorem xappend_sound {P : Program} {t u ty : TypeId} {s x : Value} {A : View} {K : Value → View → Prop} (h : xappend P t u s x A K) :
    (Builtin.append_ #[t, u] ty #[s, x]).vp P (fun v A' => ∃ A'', A'' ≤ A' ∧ K v A'') A := by
  unfold xappend at h
  split at h
  · rename_i e _ _ _ tu hti htu
    obtain ⟨d, hd, hk⟩ := tinfo_under hti
    cases d <;> simp only [TK.of, reduceCtorEq, TK.slice.injEq] at hk
    rename_i elem
    subst hk
    obtain ⟨du, hdu, hku⟩ := tinfo_under htu
    split at h
    · exact h.elim
    · rename_i x1 x2 kk size bytes z hte hnint
      split at h
      · rename_i base n cap
        obtain ⟨old, hold, ⟨cs, m⟩, hcm, ⟨hb, hpos, hz, hstr, hone⟩, h⟩ := h
        simp only at hb hone h
        have hni : Builtin.append_.match_1 (fun _ => Bool) du (fun _ => true) (fun _ => false) = false := by
          cases du <;> first | rfl | exact (hnint _ hku.symm).elim
        unfold Builtin.append_
        simp only [List.getElem?_toArray, List.getElem?_cons_zero, List.getElem?_cons_succ]
        rw [vp_bind]
        refine vp_underlying hd _ ?_
        simp only [vp_bind]
        refine vp_sizeOf hte _ ?_
        refine vp_underlying hdu _ ?_
        simp only [vp_pure, hni, Bool.false_eq_true, if_false, Bool.not_false, if_true, false_or]
        rw [vp_bind]
        refine lenOf_vp hcm ?_
        have hlen : cs.length = m * size := appended_length hcm fun s hs => hstr (by rw [hs]; rfl)
        have holdl : old.length = n * size := sliceIn_length hold
        split
        · rename_i hroom
          simp only [vp_bind]
          refine firstCells_vp hcm ?_
          cases base with
          | none =>
            have hn0 : n = 0 ∧ cap = 0 := by
              unfold sliceIn at hold
              split at hold
              · rename_i hx; cases hx
              · rename_i hx; simp only [Value.slice.injEq, true_and] at hx; exact hx
              · cases hold
            have hm0 : m = 0 := by omega
            rw [if_pos ⟨rfl, by omega⟩] at h
            simp only [vp_pure]
            refine ⟨A, View.le_refl _, ?_⟩
            rw [hn0.1, hn0.2, hm0]
            exact h
          | some a =>
            obtain ⟨c, hA, hsp, hle, hcap, hcells⟩ := sliceIn_block hold
            rw [if_neg (by simp)] at h
            have hms : n * size + m * size ≤ cap * size := by rw [← Nat.add_mul]; exact Nat.mul_le_mul_right _ hroom
            have hst := storeAll_block (e := elem) cs A (a.add (n * size)) 0 c (by rw [add_block]; exact hA) (add_spot _ _ hsp) (by rw [add_off, hlen]; omega) hone
            rw [add_block, add_off] at hst
            simp only [Nat.add_zero] at hst
            rw [vp_bind]
            refine vp_storeCells _ _ _ _ _ hst ?_
            refine ⟨(A.erase a.block).set a.block (.cells (splice c (a.off + n * size) cs) elem (0, 0)), set_le (erase_le _ _) _ _, ?_⟩
            have ha : (⟨a.block, a.off, none⟩ : Addr) = a := by obtain ⟨b, o, s⟩ := a; simp only at hsp; subst hsp; rfl
            have := h a.block a.off cap (splice c (a.off + n * size) cs) (if_pos rfl) hroom (by rw [splice_size]; exact hcap) fun j hj => by
              rw [List.length_append, hlen, holdl] at hj
              rw [splice_get _ _ _ (by rw [hlen]; omega)]
              by_cases hj2 : n * size ≤ j
              · rw [if_pos (by rw [hlen]; omega), List.getElem?_append_right (by rw [holdl]; exact hj2), holdl]
                congr 1
                omega
              · rw [if_neg (by omega), List.getElem?_append_left (by rw [holdl]; omega)]
                rw [← cells?_get _ _ _ hcells j (by omega)]
                unfold View.cell?
                rw [add_block, hA, add_off]
                simp [add_spot _ _ hsp]
            rw [ha] at this
            exact this
        · rename_i hgrow
          have hneed : ¬ ((n + m : Nat) : Int) > IntKind.i64.max := by
            have : n + m ≤ 140737488355328 := Nat.le_trans (Nat.le_mul_of_pos_right _ hpos) hb
            simp [IntKind.max, IntKind.signed, IntKind.bits]
            omega
          have hn1 : ¬ (base = none ∧ n + m = 0) := by omega
          rw [if_neg hn1] at h
          rw [vp_bind]
          refine vp_typeInfo hte _ fun i _ hib _ => ?_
          simp only at hib
          have hb0 : ¬ i.bytes = 0 := by omega
          simp only [hb0, and_false, if_false]
          rw [vp_bind]
          refine vp_typeInfo hte _ fun i _ hib _ => ?_
          simp only at hib
          have hfit := growslice_fits (need := n + m) (old := cap) (bytes := bytes) (by omega) hb
          rw [if_neg (by rw [hib]; omega)]
          rw [vp_bind]
          show (if _ then _ else _)
          rw [if_neg (by simp [Question.forced])]
          intro tt
          rw [vp_pure', vp_bind]
          refine vp_typeInfo hte _ fun i _ hib _ => ?_
          rw [vp_bind]
          refine vp_askRoom ?_
          rw [vp_bind]
          refine old_vp hold ?_
          rw [vp_bind]
          refine firstCells_vp hcm ?_
          rw [vp_bind]
          refine vp_zeroValue hte rfl _ ?_
          simp only [newRow, vp_bind, vp_pure]
          refine vp_newObj fun b hbn => ?_
          have hcap : n + m ≤ (Question.appendCap (n + m) cap elem).cut tt := Nat.le_add_right _ _
          generalize (Question.appendCap (n + m) cap elem).cut tt = nc at hcap ⊢
          refine ⟨(eraseO A base).set b (.cells (old.toArray ++ cs.toArray ++ Builtin.zeroCells z.cells (nc - (n + m))) elem), set_le (eraseO_le _ _) _ _, ?_⟩
          refine h b 0 nc _ ?_ hcap ?_ ?_
          · cases hx : (eraseO A base) b with
            | none => rfl
            | some o => rw [eraseO_le A base b o hx] at hbn; cases hbn
          · simp only [Array.size_append, List.size_toArray, zeroCells_size, hlen, holdl, hz, Nat.zero_add]
            rw [← Nat.add_mul, ← Nat.add_mul]
            exact Nat.mul_le_mul_right _ (by omega)
          · intro j hj
            rw [Nat.zero_add, Array.getElem?_append_left (by simpa using hj)]
            simp only [List.append_toArray, List.getElem?_toArray]
      · exact h.elim
    · exact h.elim
  · exact h.elim

/-! ## All of them -/
def xH (P : Program) (n : Nat) (o : Oper) (K : VQ) (e : Env) (ds : List Deferred) (A : View) : Prop :=
  match o.op with
  | .store t a v => onS (xstore P t (ev n e a) (ev n e v) A) fun A' => K (putE e o.dst undef) ds A'
  | .mapUpdate t m k v => onS (xmapUpdate P t (ev n e m) (ev n e k) (ev n e v) A) fun A' => K (putE e o.dst undef) ds A'
  | .insert t m k v => onS (xmapUpdate P t (ev n e m) (ev n e k) (ev n e v) A) fun A' => K (putE e o.dst undef) ds A'
  | .defer c => match c.callee with
    | .value f => onS (toDefer (ev n e f) (c.args.map (ev n e))) fun d => K (putE e o.dst undef) (d :: ds) A
    | _ => vop P n o (dn K) e ds A
  | .call c => match c.callee with
    | .value f => xcall P (ev n e f) (c.args.map (ev n e)) A fun v A' => K (putE e o.dst v) ds A'
    | .invoke r m => xinvoke P (ev n e r) m (c.args.map (ev n e)) A fun v A' => K (putE e o.dst v) ds A'
    | .builtin .append => match c.args.toList, c.argTypes.toList with
      | [s, x], [t, u] => xappend P t u (ev n e s) (ev n e x) A fun v A' => K (putE e o.dst v) ds A'
      | _, _ => False
    | .builtin .delete => match c.args.toList, c.argTypes.toList with
      | [m, k], [t] => onS (xdelete P t (ev n e m) (ev n e k) A) fun A' => K (putE e o.dst (.tuple #[])) ds A'
      | [m, k], [t, _] => onS (xdelete P t (ev n e m) (ev n e k) A) fun A' => K (putE e o.dst (.tuple #[])) ds A'
      | _, _ => False
    | _ => vop P n o (dn K) e ds A
  | _ => vop P n o (dn K) e ds A
theorem dn_intro {K : VQ} {e : Env} {ds : List Deferred} {A : View} (h : K e ds A) : dn K e ds A := ⟨A, View.le_refl _, h⟩
theorem delete_types {P : Program} {ts : Array TypeId} {t ty : TypeId} {m k : Value} {A : View} {Q : Value → View → Prop} (ht : ts[0]? = some t) (h : (Builtin.delete_ #[t] ty #[m, k]).vp P Q A) :
    (Builtin.delete_ ts ty #[m, k]).vp P Q A := by
  unfold Builtin.delete_ at h ⊢
  simp only [List.getElem?_toArray, List.getElem?_cons_zero, List.getElem?_cons_succ] at h
  rw [ht]
  simp only [List.getElem?_toArray, List.getElem?_cons_zero, List.getElem?_cons_succ]
  exact h
theorem xH_sound {P : Program} {n : Nat} {o : Oper} {K : VQ} {e : Env} {ds : List Deferred} {A : View} (h : xH P n o K e ds A) : vop P n o (dn K) e ds A := by
  obtain ⟨dst, op, ty, pos, af, g⟩ := o
  unfold xH at h
  simp only at h
  split at h
  · obtain ⟨A', hA, hk⟩ := h
    simp only [vop, execOp, vp_bind]
    exact xstore_sound hA (dn_intro hk)
  · obtain ⟨A', hA, hk⟩ := h
    simp only [vop, execOp, vp_bind]
    exact xmapUpdate_sound hA (dn_intro hk)
  · obtain ⟨A', hA, hk⟩ := h
    simp only [vop, execOp, vp_bind]
    exact xmapUpdate_sound hA (dn_intro hk)
  · rename_i c
    obtain ⟨ce, ar, ts⟩ := c
    simp only at h
    split at h
    · rename_i f
      obtain ⟨d, hd, hk⟩ := h
      unfold toDefer at hd
      split at hd
      · rename_i fn first cap hf
        simp only [Option.some.injEq] at hd
        subst hd
        simp only [vop, execOp, resolve, vp_bind, hf, Deferred.ofValue, vp_pure]
        exact dn_intro hk
      · cases hd
    · exact h
  · rename_i c
    obtain ⟨ce, ar, ts⟩ := c
    simp only at h
    split at h
    · rename_i f
      unfold xcall at h
      split at h
      · rename_i k first cap hf
        unfold gif at h
        split at h
        · rename_i hg
          simp only [vop, execOp, resolve, vp_bind, hf, Deferred.ofValue, vp_pure, invoke]
          refine callFunc_vp hg ?_
          exact h.mono fun v A' hk => dn_intro hk
        · exact h.elim
      · exact h.elim
    · rename_i r m
      have key : ∀ (t : TypeId) (v u : Value) (f : FuncId) (dr : Option TypeId), ev n e r = .iface t v → meth P t m = some ⟨f, dr⟩ →
          (match dr with | none => u = v | some el => ∃ p, v = .pointer (some p) ∧ vload P el p A = some u) → goodFn P f = true →
          VCalls P f (#[u] ++ ar.map (ev n e)) A (fun v A' => K (putE e dst v) ds A') → vop P n ⟨dst, .call ⟨.invoke r m, ar, ts⟩, ty, pos, af, g⟩ (dn K) e ds A := by
        intro t v u f dr hr hm hu hg hc
        simp only [vop, execOp, resolve, vp_bind, hr, vp_pure, invoke]
        have h0 : (#[Value.iface t v] ++ ar.map (ev n e))[0]? = some (.iface t v) := by
          rw [Array.getElem?_append_left (by simp)]
          rfl
        have h1 : (#[Value.iface t v] ++ ar.map (ev n e)).extract 1 (#[Value.iface t v] ++ ar.map (ev n e)).size = ar.map (ev n e) := by
          apply Array.ext'
          simp [List.take_of_length_le]
        rw [h0]
        simp only [h1, callMethod, vp_bind, vp_program]
        have hdep : ∃ k, P.types.size + Made.depth = k + 1 := ⟨P.types.size + (Made.depth - 1), by unfold Made.depth; omega⟩
        obtain ⟨k, hk⟩ := hdep
        rw [hk]
        refine method_vp hm ?_
        cases dr with
        | none => subst hu; exact callFunc_vp hg (hc.mono fun v A' hk => dn_intro hk)
        | some el =>
          obtain ⟨p, hv, hl⟩ := hu
          exact ⟨p, u, hv, hl, callFunc_vp hg (hc.mono fun v A' hk => dn_intro hk)⟩
      unfold xinvoke at h
      split at h
      · rename_i t v hr
        split at h
        · rename_i f hm
          unfold gif at h
          split at h
          · rename_i hg; exact key t v v f none hr hm rfl hg h
          · exact h.elim
        · rename_i f el hm
          split at h
          · rename_i p
            obtain ⟨u, hu, h⟩ := h
            unfold gif at h
            split at h
            · rename_i hg; exact key t _ u f (some el) hr hm ⟨p, rfl, hu⟩ hg h
            · exact h.elim
          · exact h.elim
        · exact h.elim
      · exact h.elim
    · split at h
      · rename_i s x t u ha ht
        have har : ar = #[s, x] := Array.toList_inj.1 ha
        have hts : ts = #[t, u] := Array.toList_inj.1 ht
        subst har hts
        simp only [vop, execOp, resolve, vp_bind, vp_pure, invoke, builtin]
        have hm : Array.map (ev n e) #[s, x] = #[ev n e s, ev n e x] := by simp
        rw [hm]
        refine vp_mono _ _ ?_ (xappend_sound h)
        intro v A' hv
        exact hv
      · exact h.elim
    · split at h
      · rename_i m k t ha ht
        have har : ar = #[m, k] := Array.toList_inj.1 ha
        have hts : ts = #[t] := Array.toList_inj.1 ht
        subst har hts
        obtain ⟨A', hA, hk⟩ := h
        simp only [vop, execOp, resolve, vp_bind, vp_pure, invoke, builtin]
        have hm : Array.map (ev n e) #[m, k] = #[ev n e m, ev n e k] := by simp
        rw [hm]
        refine xdelete_sound hA ?_
        exact dn_intro hk
      · rename_i m k t u ha ht
        have har : ar = #[m, k] := Array.toList_inj.1 ha
        have hts : ts = #[t, u] := Array.toList_inj.1 ht
        subst har hts
        obtain ⟨A', hA, hk⟩ := h
        simp only [vop, execOp, resolve, vp_bind, vp_pure, invoke, builtin]
        have hm : Array.map (ev n e) #[m, k] = #[ev n e m, ev n e k] := by simp
        rw [hm]
        refine delete_types rfl (xdelete_sound hA ?_)
        exact dn_intro hk
      · exact h.elim
    · exact h
  · exact h
end Go.Proofs.YtpinamipjddobaaV

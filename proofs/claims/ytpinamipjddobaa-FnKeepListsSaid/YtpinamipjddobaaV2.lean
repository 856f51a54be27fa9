/- The logic of views, operation by operation: those that only look and compute. -/
import Derived.Test.YtpinamipjddobaaV1
import Derived.Laws.StructEq
import Derived.Lib.SlicesS
namespace Go.Proofs.YtpinamipjddobaaV
open Go.RowKit
set_option linter.unusedSimpArgs false
set_option linter.unusedVariables false

/-! ## Types, as far as an operation asks -/
inductive TK where
  | bool | int (k : IntKind) | float (k : FloatKind) | string | pointer (e : TypeId) | slice (e : TypeId) | array (n : Nat) (e : TypeId)
  | map (k e : TypeId) | struct (fs : List (TypeId × Nat)) | iface (ms : List (String × TypeId)) | func | other
def TK.of : TypeDesc → TK
  | .bool => .bool | .int k => .int k | .float k => .float k | .string => .string | .pointer e => .pointer e | .slice e => .slice e
  | .array n e => .array n e | .map k e => .map k e | .struct fs => .struct (fs.toList.map fun f => (f.type, f.offset))
  | .interface ms => .iface ms.toList | .func .. => .func | _ => .other
def TK.agg : TK → Bool
  | .struct _ | .array .. => true
  | _ => false
structure TI where
  k : TK
  size : Nat
  bytes : Nat
  zero : Option Value
def tinfo (P : Program) (t : TypeId) : Option TI :=
  match P.underlying t, P.info? t with
  | some d, some i => some ⟨TK.of d, i.size, i.bytes, i.zero⟩
  | _, _ => none
structure FI where
  type : TypeId
  off : Nat
  size : Nat
  agg : Bool
def fieldOf (P : Program) (t : TypeId) (i : Nat) : Option FI :=
  match P.underlying t with
  | some (.struct fs) => match fs[i]? with
    | some f => match tinfo P f.type with
      | some ti => some ⟨f.type, f.offset, ti.size, ti.k.agg⟩
      | none => none
    | none => none
  | _ => none

section
variable {P : Program} {t : TypeId} {ti : TI}
theorem tinfo_info (h : tinfo P t = some ti) : ∃ i, P.info? t = some i ∧ i.size = ti.size ∧ i.bytes = ti.bytes ∧ i.zero = ti.zero := by
  unfold tinfo at h
  split at h
  · rename_i d i hd hi
    simp only [Option.some.injEq] at h
    subst h
    exact ⟨i, hi, rfl, rfl, rfl⟩
  · cases h
theorem tinfo_under (h : tinfo P t = some ti) : ∃ d, P.underlying t = some d ∧ TK.of d = ti.k := by
  unfold tinfo at h
  split at h
  · rename_i d i hd hi
    simp only [Option.some.injEq] at h
    subst h
    exact ⟨d, hd, rfl⟩
  · cases h
end

section
variable {P : Program} {A : View} {α : Type}
@[simp] theorem vp_pure (a : α) (Q : α → View → Prop) : (Pure.pure a : Sem α).vp P Q A = Q a A := rfl
@[simp] theorem vp_pure' (a : α) (Q : α → View → Prop) : (Sem.pure a : Sem α).vp P Q A = Q a A := rfl
attribute [simp] vp_bind
@[simp] theorem vp_program (Q : Program → View → Prop) : program.vp P Q A = Q P A := rfl
@[simp] theorem vp_load (a : Addr) (m : Mode) (Q : Value → View → Prop) : (load a m).vp P Q A = ∃ v, A.cell? a = some v ∧ Q v A := rfl
theorem vp_typeInfo {t : TypeId} {ti : TI} (h : tinfo P t = some ti) (Q : TypeInfo → View → Prop) (hq : ∀ i : TypeInfo, i.size = ti.size → i.bytes = ti.bytes → i.zero = ti.zero → Q i A) : (typeInfo t).vp P Q A := by
  obtain ⟨i, hi, h1, h2, h3⟩ := tinfo_info h
  unfold typeInfo
  simp only [vp_bind, vp_program, hi, vp_pure]
  exact hq i h1 h2 h3
theorem vp_sizeOf {t : TypeId} {ti : TI} (h : tinfo P t = some ti) (Q : Nat → View → Prop) (hq : Q ti.size A) : (sizeOf t).vp P Q A := by
  unfold sizeOf
  rw [vp_bind]
  exact vp_typeInfo h _ fun i h1 _ _ => by rw [h1]; exact hq
theorem vp_zeroValue {t : TypeId} {ti : TI} {z : Value} (h : tinfo P t = some ti) (hz : ti.zero = some z) (Q : Value → View → Prop) (hq : Q z A) : (zeroValue t).vp P Q A := by
  unfold zeroValue
  rw [vp_bind]
  refine vp_typeInfo h _ fun i _ _ h3 => ?_
  rw [h3, hz]
  exact hq
theorem vp_underlying {t : TypeId} {d : TypeDesc} (h : P.underlying t = some d) (Q : TypeDesc → View → Prop) (hq : Q d A) : (underlying t).vp P Q A := by
  unfold underlying
  simp only [vp_bind, vp_program, h, vp_pure]
  exact hq
theorem TK.agg_of (d : TypeDesc) : (TK.of d).agg = (match d with | .struct _ => true | .array _ _ => true | _ => false) := by cases d <;> rfl
theorem vp_isAgg {t : TypeId} {ti : TI} (h : tinfo P t = some ti) (Q : Bool → View → Prop) (hq : Q ti.k.agg A) : (isAgg t).vp P Q A := by
  obtain ⟨d, hd, hk⟩ := tinfo_under h
  unfold isAgg
  rw [vp_bind]
  refine vp_underlying hd _ ?_
  rw [← hk, TK.agg_of] at hq
  cases d <;> exact hq
end

/-! ## Looking -/
def View.cells? (A : View) (a : Addr) (i : Nat) : Nat → Option (List Value)
  | 0 => some []
  | n + 1 => (A.cell? (a.add i)).bind fun v => (A.cells? a (i + 1) n).map (v :: ·)
theorem vp_loadCellsFrom {P : Program} {A : View} {a : Addr} : ∀ (n i : Nat) (acc : Array Value) (cs : List Value) (Q : Array Value → View → Prop),
    A.cells? a i n = some cs → Q (acc ++ cs.toArray) A → (loadCellsFrom a i n acc).vp P Q A
  | 0, i, acc, cs, Q, h, hq => by
    simp only [View.cells?, Option.some.injEq] at h
    subst h
    simpa [loadCellsFrom] using hq
  | n + 1, i, acc, cs, Q, h, hq => by
    simp only [View.cells?] at h
    obtain ⟨v, hv, h⟩ := Option.bind_eq_some_iff.1 h
    obtain ⟨vs, hvs, h⟩ := Option.map_eq_some_iff.1 h
    subst h
    unfold loadCellsFrom
    rw [vp_bind, vp_load]
    refine ⟨v, hv, vp_loadCellsFrom n (i + 1) (acc.push v) vs Q hvs ?_⟩
    have : acc.push v ++ vs.toArray = acc ++ (v :: vs).toArray := by
      apply Array.ext'; simp
    rw [this]
    exact hq
def vload (P : Program) (t : TypeId) (a : Addr) (A : View) : Option Value :=
  match tinfo P t with
  | some ⟨.struct _, n, _, _⟩ => (A.cells? a 0 n).map fun cs => .agg cs.toArray
  | some ⟨.array _ _, n, _, _⟩ => (A.cells? a 0 n).map fun cs => .agg cs.toArray
  | some _ => A.cell? a
  | none => none
theorem vp_loadVar {P : Program} {A : View} {t : TypeId} {a : Addr} {v : Value} {Q : Value → View → Prop} (h : vload P t a A = some v) (hq : Q v A) : (loadVar t a).vp P Q A := by
  unfold vload at h
  unfold loadVar
  rw [vp_bind]
  have hagg : ∀ {n : Nat} {ti : TI}, tinfo P t = some ti → ti.size = n → ((A.cells? a 0 n).map fun cs => Value.agg cs.toArray) = some v →
      (do pure (Value.agg (← loadCells a (← sizeOf t))) : Sem Value).vp P Q A := by
    intro n ti hti hn hc
    obtain ⟨cs, hcs, hv⟩ := Option.map_eq_some_iff.1 hc
    rw [vp_bind]
    refine vp_sizeOf hti _ ?_
    rw [vp_bind, hn]
    unfold loadCells
    refine vp_loadCellsFrom _ _ _ _ _ hcs ?_
    simpa [hv] using hq
  split at h
  · rename_i hti
    refine vp_isAgg hti _ ?_
    exact hagg hti rfl h
  · rename_i hti
    refine vp_isAgg hti _ ?_
    exact hagg hti rfl h
  · rename_i ti hn1 hn2 hti
    refine vp_isAgg hti _ ?_
    have : ti.k.agg = false := by
      obtain ⟨k, n, b, z⟩ := ti
      cases k <;> first | rfl | exact (hn1 _ _ _ _ rfl).elim | exact (hn2 _ _ _ _ _ rfl).elim
    rw [this]
    exact ⟨v, h, hq⟩
  · cases h

def asN : Value → Option (IntKind × Int)
  | .int k n => some (k, n)
  | _ => none
def partV (f : FI) (cs : Array Value) : Option Value :=
  if f.agg then some (.agg (cs.extract f.off (f.off + f.size))) else cs[f.off]?

def xbin (P : Program) (op : BinOp) (t : TypeId) (A : View) : Value → Value → Option Value
  | .int k a, .int k' b => if k = k' then (match op with
    | .add => some (.int k (k.wrap (a + b)))
    | .sub => some (.int k (k.wrap (a - b)))
    | .mul => some (.int k (k.wrap (a * b)))
    | .and => some (.int k (k.wrap (BitVec.ofInt k.bits a &&& BitVec.ofInt k.bits b).toNat))
    | .or => some (.int k (k.wrap (BitVec.ofInt k.bits a ||| BitVec.ofInt k.bits b).toNat))
    | .rem => if b = 0 then none else some (.int k (a.tmod b))
    | .quo => if b = 0 then none else some (.int k (k.wrap (a.tdiv b)))
    | .eql => some (.bool (a == b))
    | .neq => some (.bool (a != b))
    | .lss => some (.bool (a < b))
    | .leq => some (.bool (a ≤ b))
    | .gtr => some (.bool (a > b))
    | .geq => some (.bool (a ≥ b))
    | _ => none) else none
  | .string a, .string b => match op with
    | .add => if a.size + b.size ≤ 9223372036854775807 then some (.string (a ++ b)) else none
    | .eql => some (.bool (a.toList == b.toList))
    | .neq => some (.bool !(a.toList == b.toList))
    | .lss => some (.bool (Op.bytesLess a.toList b.toList))
    | .leq => some (.bool (Op.bytesLess a.toList b.toList || a.toList == b.toList))
    | .gtr => some (.bool !(Op.bytesLess a.toList b.toList || a.toList == b.toList))
    | .geq => some (.bool !(Op.bytesLess a.toList b.toList))
    | _ => none
  | .bool a, .bool b => match op, tinfo P t with
    | .eql, some ⟨.bool, _, _, _⟩ => some (.bool (a == b))
    | .neq, some ⟨.bool, _, _, _⟩ => some (.bool !(a == b))
    | _, _ => none
  | .float k a, .float k' b => if k = k' then (match op with
    | .sub => (k.format.sub a b).map (.float k)
    | .eql => some (.bool (k.format.order a b == some .eq))
    | .neq => some (.bool (k.format.order a b != some .eq))
    | _ => none) else none
  | .pointer none, .pointer b => match op, tinfo P t with
    | .eql, some ⟨.pointer _, _, _, _⟩ => some (.bool b.isNone)
    | .neq, some ⟨.pointer _, _, _, _⟩ => some (.bool !b.isNone)
    | _, _ => none
  | .pointer (some a), .pointer none => match op, tinfo P t with
    | .eql, some ⟨.pointer _, _, _, _⟩ => some (.bool false)
    | .neq, some ⟨.pointer _, _, _, _⟩ => some (.bool true)
    | _, _ => none
  | .slice none _ _, .slice none _ _ => match op, tinfo P t with
    | .eql, some ⟨.slice _, _, _, _⟩ => some (.bool true)
    | .neq, some ⟨.slice _, _, _, _⟩ => some (.bool false)
    | _, _ => none
  | .slice (some _) _ _, .slice none _ _ => match op, tinfo P t with
    | .eql, some ⟨.slice _, _, _, _⟩ => some (.bool false)
    | .neq, some ⟨.slice _, _, _, _⟩ => some (.bool true)
    | _, _ => none
  | .map none, .map none => match op, tinfo P t with
    | .eql, some ⟨.map _ _, _, _, _⟩ => some (.bool true)
    | .neq, some ⟨.map _ _, _, _, _⟩ => some (.bool false)
    | _, _ => none
  | .map (some _), .map none => match op, tinfo P t with
    | .eql, some ⟨.map _ _, _, _, _⟩ => some (.bool false)
    | .neq, some ⟨.map _ _, _, _, _⟩ => some (.bool true)
    | _, _ => none
  | .iface _ _, .nilIface => match op, tinfo P t with
    | .eql, some ⟨.iface _, _, _, _⟩ => some (.bool false)
    | .neq, some ⟨.iface _, _, _, _⟩ => some (.bool true)
    | _, _ => none
  | .nilFunc, .nilFunc => match op, tinfo P t with
    | .eql, some ⟨.func, _, _, _⟩ => some (.bool true)
    | .neq, some ⟨.func, _, _, _⟩ => some (.bool false)
    | _, _ => none
  | .func _ _ _, .nilFunc => match op, tinfo P t with
    | .eql, some ⟨.func, _, _, _⟩ => some (.bool false)
    | .neq, some ⟨.func, _, _, _⟩ => some (.bool true)
    | _, _ => none
  | _, _ => none

theorem equal_vp {P : Program} {A : View} {t : TypeId} {x y : Value} {Q : Bool → View → Prop} (h : ∀ d, (Op.equalIn (d + 1) t x y).vp P Q A) : (Op.equal t x y).vp P Q A := h 9999

theorem xbin_sound {P : Program} {A : View} {op : BinOp} {t : TypeId} {x y u : Value} {Q : Value → View → Prop} (h : xbin P op t A x y = some u) (hq : Q u A) :
    (binOp op t x y).vp P Q A := by
  unfold xbin at h
  split at h
  · split at h
    · rename_i k a k' b hk
      subst hk
      cases op <;> simp only [Option.some.injEq, reduceCtorEq] at h <;> first
        | (subst h; simp [binOp, Op.intArith, Op.intCmp, Op.intBits]; exact hq)
        | (split at h
           · cases h
           · rename_i hb
             simp only [Option.some.injEq] at h
             subst h
             simp [binOp, Op.intDiv, hb]; exact hq)
    · cases h
  · rename_i a b
    cases op <;> simp only [Option.some.injEq, reduceCtorEq] at h <;> first
      | (subst h; simp only [binOp, Op.stringOp]; exact hq)
      | (split at h
         · rename_i hs
           simp only [Option.some.injEq] at h
           subst h
           have : ¬ ((a.size + b.size : Nat) : Int) > IntKind.i64.max := by simp [IntKind.max, IntKind.signed, IntKind.bits]; omega
           simp only [binOp, Op.stringOp]
           rw [if_neg this]
           exact hq
         · cases h)
  case h_14 => cases h
  case h_4 =>
    split at h
    · rename_i k a k' b hk
      subst hk
      cases op <;> (try simp only [Option.some.injEq, reduceCtorEq] at h) <;> first
        | (subst h; simp [binOp, Op.floatCmp]; exact hq)
        | (obtain ⟨r, hr, hu⟩ := Option.map_eq_some_iff.1 h; subst hu; simp [binOp, Op.floatArith, hr]; exact hq)
        | (cases h)
    · cases h
  all_goals
    split at h
    · rename_i hti
      obtain ⟨d, hd, hk⟩ := tinfo_under hti
      simp only [Option.some.injEq] at h
      subst h
      simp only [binOp, vp_bind]
      refine equal_vp fun dd => ?_
      simp only [Op.equalIn, vp_bind]
      refine vp_underlying hd _ ?_
      cases d <;> simp only [TK.of, reduceCtorEq] at hk
      first | exact hq | (simp only [vp_pure]; exact hq)
    · rename_i hti
      obtain ⟨d, hd, hk⟩ := tinfo_under hti
      simp only [Option.some.injEq] at h
      subst h
      simp only [binOp, vp_bind]
      refine equal_vp fun dd => ?_
      simp only [Op.equalIn, vp_bind]
      refine vp_underlying hd _ ?_
      cases d <;> simp only [TK.of, reduceCtorEq] at hk
      first | exact hq | (simp only [vp_pure]; exact hq)
    · cases h

/-! ## Reading operations -/
def xslice (P : Program) (t : TypeId) (x : Value) (lo hi : Option Value) : Option Value :=
  match x with
  | .string s =>
    match tinfo P t with
    | some ⟨.string, _, _, _⟩ =>
      match lo, hi with
      | none, none => some (.string (s.extract 0 s.size))
      | some (.int _ l), none => if 0 ≤ l ∧ l ≤ s.size then some (.string (s.extract l.toNat s.size)) else none
      | none, some (.int _ h) => if 0 ≤ h ∧ h ≤ s.size then some (.string (s.extract 0 h.toNat)) else none
      | some (.int _ l), some (.int _ h) => if (0 ≤ h ∧ h ≤ s.size) ∧ 0 ≤ l ∧ l ≤ h then some (.string (s.extract l.toNat h.toNat)) else none
      | _, _ => none
    | _ => none
  | .slice a n c =>
    match tinfo P t with
    | some ⟨.slice e, _, _, _⟩ => match tinfo P e with
      | some te =>
        let mk (l h : Nat) : Value := .slice (if c = l then a else a.map (·.add (l * te.size))) (h - l) (c - l)
        match lo, hi with
        | none, none => some (mk 0 n)
        | some (.int _ l), none => if 0 ≤ l ∧ l ≤ n then some (mk l.toNat n) else none
        | none, some (.int _ h) => if 0 ≤ h ∧ h ≤ c then some (mk 0 h.toNat) else none
        | some (.int _ l), some (.int _ h) => if (0 ≤ h ∧ h ≤ c) ∧ 0 ≤ l ∧ l ≤ h then some (mk l.toNat h.toNat) else none
        | _, _ => none
      | none => none
    | _ => none
  | _ => none
theorem sliceBound_vp {P : Program} {A : View} {k : IntKind} {i : Int} {y : Nat} {code : BoundsCode} {Q : Nat → View → Prop} (h : 0 ≤ i ∧ i ≤ y) (hq : Q i.toNat A) :
    (Instr.sliceBound (.int k i) y code).vp P Q A := by
  unfold Instr.sliceBound
  simp only [asIntOf, vp_bind, vp_pure, h, and_self, if_true]
  exact hq
theorem sliceBounds_vp {P : Program} {A : View} {sl : Bool} {n c : Nat} {lo hi : Option Value} {Q : Nat × Nat × Nat → View → Prop} {l h : Nat}
    (hh : match hi with | none => h = n | some (.int _ i) => (0 ≤ i ∧ i ≤ c) ∧ i.toNat = h | _ => False)
    (hl : match lo with | none => l = 0 | some (.int _ i) => (0 ≤ i ∧ i ≤ h) ∧ i.toNat = l | _ => False) (hq : Q (l, h, c) A) : (Instr.sliceBounds sl n c lo hi none).vp P Q A := by
  unfold Instr.sliceBounds
  rw [vp_bind]
  simp only [vp_pure]
  have hlo : ∀ (f : BoundsCode), (match lo with | some v => (do let l ← Instr.sliceBound v h f; pure (l, h, c) : Sem (Nat × Nat × Nat)) | none => (do let l ← pure 0; pure (l, h, c))).vp P Q A := by
    intro f
    split at hl
    · subst hl; simp only [vp_bind, vp_pure]; exact hq
    · obtain ⟨h1, h2⟩ := hl
      simp only [vp_bind, vp_pure]
      exact sliceBound_vp h1 (by rw [h2]; exact hq)
    · exact hl.elim
  split at hh
  · subst hh
    rw [vp_bind, vp_pure]
    have := hlo .sliceB
    revert this
    cases lo <;> exact id
  · obtain ⟨h1, h2⟩ := hh
    rw [vp_bind]
    refine sliceBound_vp h1 ?_
    rw [h2]
    have := hlo .sliceB
    revert this
    cases lo <;> exact id
  · exact hh.elim
theorem xslice_sound {P : Program} {A : View} {t : TypeId} {x u : Value} {lo hi : Option Value} {Q : Value → View → Prop} (h : xslice P t x lo hi = some u) (hq : Q u A) :
    (Instr.sliceAt t x lo hi none).vp P Q A := by
  unfold xslice at h
  split at h
  · rename_i s
    split at h
    · rename_i hti
      obtain ⟨d, hd, hk⟩ := tinfo_under hti
      cases d <;> simp only [TK.of, reduceCtorEq] at hk
      unfold Instr.sliceAt
      rw [vp_bind]
      refine vp_underlying hd _ ?_
      unfold Instr.slice
      rw [vp_bind]
      refine vp_underlying hd _ ?_
      simp only [Option.isSome_none, Bool.false_eq_true, if_false, vp_bind, vp_pure]
      split at h
      · simp only [Option.some.injEq] at h; subst h
        exact sliceBounds_vp (l := 0) (h := s.size) rfl rfl hq
      · rename_i l
        split at h
        · rename_i hc
          simp only [Option.some.injEq] at h; subst h
          exact sliceBounds_vp (l := l.toNat) (h := s.size) rfl ⟨hc, rfl⟩ hq
        · cases h
      · rename_i i
        split at h
        · rename_i hc
          simp only [Option.some.injEq] at h; subst h
          exact sliceBounds_vp (l := 0) (h := i.toNat) ⟨hc, rfl⟩ rfl hq
        · cases h
      · rename_i l k i
        split at h
        · rename_i hc
          simp only [Option.some.injEq] at h; subst h
          exact sliceBounds_vp (l := l.toNat) (h := i.toNat) ⟨hc.1, rfl⟩ ⟨⟨hc.2.1, by omega⟩, rfl⟩ hq
        · cases h
      · cases h
    · cases h
  · rename_i a n c
    split at h
    · rename_i e b1 b2 b3 hti
      obtain ⟨d, hd, hk⟩ := tinfo_under hti
      cases d <;> simp only [TK.of, reduceCtorEq, TK.slice.injEq] at hk
      subst hk
      split at h
      · rename_i te hte
        unfold Instr.sliceAt
        rw [vp_bind]
        refine vp_underlying hd _ ?_
        unfold Instr.slice
        rw [vp_bind]
        refine vp_underlying hd _ ?_
        simp only [vp_bind]
        have fin : ∀ (e : TypeId), tinfo P e = some te → ∀ l h : Nat, Q (.slice (if c = l then a else a.map (·.add (l * te.size))) (h - l) (c - l)) A →
            (sizeOf e).vp P (fun size A' => (Pure.pure (Value.slice (if c = l then a else a.map (·.add (l * size))) (h - l) (c - l)) : Sem Value).vp P Q A') A := by
          intro e hte l h hq
          refine vp_sizeOf hte _ ?_
          exact hq
        split at h
        · simp only [Option.some.injEq] at h; subst h
          exact sliceBounds_vp (l := 0) (h := n) rfl rfl (fin _ hte _ _ hq)
        · rename_i l
          split at h
          · rename_i hc
            simp only [Option.some.injEq] at h; subst h
            exact sliceBounds_vp (l := l.toNat) (h := n) rfl ⟨hc, rfl⟩ (fin _ hte _ _ hq)
          · cases h
        · rename_i i
          split at h
          · rename_i hc
            simp only [Option.some.injEq] at h; subst h
            exact sliceBounds_vp (l := 0) (h := i.toNat) ⟨hc, rfl⟩ rfl (fin _ hte _ _ hq)
          · cases h
        · rename_i l k i
          split at h
          · rename_i hc
            simp only [Option.some.injEq] at h; subst h
            exact sliceBounds_vp (l := l.toNat) (h := i.toNat) ⟨hc.1, rfl⟩ ⟨⟨hc.2.1, by omega⟩, rfl⟩ (fin _ hte _ _ hq)
          · cases h
        · cases h
      · cases h
    · cases h
  · cases h

def xindexAt (P : Program) (t : TypeId) (x i : Value) : Option Value :=
  match x, i with
  | .slice (some a) n _, .int _ i =>
    match tinfo P t with
    | some ⟨.slice e, _, _, _⟩ => match tinfo P e with
      | some te => if 0 ≤ i ∧ i < n then some (.pointer (some (a.add (i.toNat * te.size)))) else none
      | none => none
    | _ => none
  | _, _ => none
theorem xindexAt_sound {P : Program} {A : View} {t : TypeId} {x i u : Value} {Q : Value → View → Prop} (h : xindexAt P t x i = some u) (hq : Q u A) :
    (Instr.indexAt t x i).vp P Q A := by
  unfold xindexAt at h
  split at h
  · rename_i a n c k i
    split at h
    · rename_i hti
      obtain ⟨d, hd, hk⟩ := tinfo_under hti
      cases d <;> simp only [TK.of, reduceCtorEq, TK.slice.injEq] at hk
      subst hk
      split at h
      · rename_i te hte
        split at h
        · rename_i hc
          simp only [Option.some.injEq] at h; subst h
          unfold Instr.indexAt
          simp only [asIntOf, vp_bind, vp_pure]
          refine vp_underlying hd _ ?_
          simp only [vp_pure, vp_bind]
          refine vp_underlying hd _ ?_
          simp only [hc, and_self, if_true, vp_bind]
          refine vp_sizeOf hte _ ?_
          exact hq
        · cases h
      · cases h
    · cases h
  · cases h

def xindex (P : Program) (t : TypeId) (x i : Value) : Option Value :=
  match x, i with
  | .string s, .int _ i =>
    match tinfo P t with
    | some ⟨.string, _, _, _⟩ => if 0 ≤ i then (s[i.toNat]?).map fun b => .int .u8 b.toNat else none
    | _ => none
  | _, _ => none
theorem xindex_sound {P : Program} {A : View} {t : TypeId} {x i u : Value} {Q : Value → View → Prop} (h : xindex P t x i = some u) (hq : Q u A) :
    (Instr.index t x i).vp P Q A := by
  unfold xindex at h
  split at h
  · rename_i s k i
    split at h
    · rename_i hti
      obtain ⟨d, hd, hk⟩ := tinfo_under hti
      cases d <;> simp only [TK.of, reduceCtorEq] at hk
      split at h
      · rename_i hc
        obtain ⟨b, hb, hu⟩ := Option.map_eq_some_iff.1 h
        unfold Instr.index
        simp only [asIntOf, vp_bind, vp_pure]
        refine vp_underlying hd _ ?_
        simp only [hc, if_true, hb, vp_pure]
        rw [hu]; exact hq
      · cases h
    · cases h
  · cases h

def xfieldAt (P : Program) (s : TypeId) (x : Value) (i : Nat) : Option Value :=
  match x with
  | .pointer (some a) => match fieldOf P s i with
    | some ⟨_, off, _ + 1, _⟩ => some (.pointer (some (a.add off)))
    | _ => none
  | _ => none
theorem fieldOf_spec {P : Program} {s : TypeId} {i : Nat} {f : FI} (h : fieldOf P s i = some f) :
    ∃ fs g ti, P.underlying s = some (.struct fs) ∧ fs[i]? = some g ∧ tinfo P g.type = some ti ∧ g.type = f.type ∧ g.offset = f.off ∧ ti.size = f.size ∧ ti.k.agg = f.agg := by
  unfold fieldOf at h
  split at h
  · rename_i fs hfs
    split at h
    · rename_i g hg
      split at h
      · rename_i ti hti
        simp only [Option.some.injEq] at h
        subst h
        exact ⟨fs, g, ti, hfs, hg, hti, rfl, rfl, rfl, rfl⟩
      · cases h
    · cases h
  · cases h
theorem xfieldAt_sound {P : Program} {A : View} {s : TypeId} {x u : Value} {i : Nat} {Q : Value → View → Prop} (h : xfieldAt P s x i = some u) (hq : Q u A) :
    (Instr.fieldAt s x i).vp P Q A := by
  unfold xfieldAt at h
  split at h
  · rename_i a
    split at h
    · rename_i ft off sz ag hf
      obtain ⟨fs, g, ti, h1, h2, h3, h4, h5, h6, h7⟩ := fieldOf_spec hf
      simp only [Option.some.injEq] at h; subst h
      unfold Instr.fieldAt
      rw [vp_bind]
      refine vp_underlying h1 _ ?_
      simp only [h2, vp_bind, Instr.sureAddr, vp_pure]
      unfold fieldPlace
      rw [vp_bind]
      refine vp_sizeOf h3 _ ?_
      rw [h6]
      simp only [Nat.add_one_ne_zero, if_false, vp_pure]
      rw [h5]; exact hq
    · cases h
  · cases h
def xfield (P : Program) (s : TypeId) (x : Value) (i : Nat) : Option Value :=
  match x with
  | .agg cs => (fieldOf P s i).bind fun f => partV f cs
  | _ => none
theorem vp_part {P : Program} {A : View} {t : TypeId} {ti : TI} {cs : Array Value} {off : Nat} {u : Value} {Q : Value → View → Prop} (h : tinfo P t = some ti)
    (hu : partV ⟨t, off, ti.size, ti.k.agg⟩ cs = some u) (hq : Q u A) : (part t cs off).vp P Q A := by
  unfold part
  rw [vp_bind]
  refine vp_isAgg h _ ?_
  unfold partV at hu
  simp only at hu
  split
  · rename_i hg
    rw [if_pos hg] at hu
    simp only [Option.some.injEq] at hu; subst hu
    rw [vp_bind]
    refine vp_sizeOf h _ ?_
    exact hq
  · rename_i hg
    rw [if_neg hg] at hu
    rw [hu]
    exact hq
theorem xfield_sound {P : Program} {A : View} {s : TypeId} {x u : Value} {i : Nat} {Q : Value → View → Prop} (h : xfield P s x i = some u) (hq : Q u A) :
    (Instr.field s x i).vp P Q A := by
  unfold xfield at h
  split at h
  · rename_i cs
    obtain ⟨f, hf, hu⟩ := Option.bind_eq_some_iff.1 h
    obtain ⟨fs, g, ti, h1, h2, h3, h4, h5, h6, h7⟩ := fieldOf_spec hf
    unfold Instr.field
    rw [vp_bind]
    refine vp_underlying h1 _ ?_
    simp only [h2, asAgg, vp_bind, vp_pure]
    refine vp_part h3 (u := u) ?_ hq
    rw [h5, h6, h7]
    exact hu
  · cases h

/-! ## Maps -/
def mget (es : List MapEntry) (k : Value) : Option Value :=
  match k with
  | .string s => (es.find? fun e => match e.key with | .string s' => s == s' | _ => false).map (·.val)
  | .int _ n => (es.find? fun e => match e.key with | .int _ n' => n == n' | _ => false).map (·.val)
  | _ => none
/-- The keys of a map of texts. -/
def strKeys (es : List MapEntry) : Prop := ∀ e ∈ es, ∃ s, e.key = .string s
def sfind (s : ByteArray) : List MapEntry → Nat → Option (Nat × Value)
  | [], _ => none
  | e :: es, i => match e.key with
    | .string s' => if s = s' then some (i, e.val) else sfind s es (i + 1)
    | _ => none
theorem ba_beq (a b : ByteArray) : (a == b) = true ↔ a = b := by
  rw [beq_toListBytes]
  exact Lib.bytes_beq_iff a b
theorem findNow_string (s : ByteArray) : ∀ (es : List MapEntry) (i : Nat), strKeys es → Instr.findNow .string (.string s) es i = some (sfind s es i)
  | [], i, _ => rfl
  | e :: es, i, h => by
    obtain ⟨s', hs⟩ := h e (List.mem_cons_self)
    simp only [Instr.findNow, Instr.sameNow, hs, sfind]
    by_cases hc : s = s'
    · have hc' : (s == s') = true := (ba_beq s s').2 hc
      simp [hc, (ba_beq s' s').2 rfl]
    · have hc' : (s == s') = false := by
        cases h : (s == s') with
        | false => rfl
        | true => exact absurd ((ba_beq s s').1 h) hc
      simp only [hc', hc, if_false]
      rw [findNow_string s es (i + 1) fun x hx => h x (List.mem_cons_of_mem _ hx)]
theorem findKey_string {P : Program} {A : View} {kt : TypeId} {s : ByteArray} {es : List MapEntry} {Q : Option (Nat × Value) → View → Prop} (hk : P.underlying kt = some .string)
    (he : strKeys es) (hq : Q (sfind s es 0) A) : (Instr.findKey kt (.string s) es).vp P Q A := by
  unfold Instr.findKey
  rw [vp_bind]
  refine vp_underlying hk _ ?_
  rw [findNow_string s es 0 he]
  exact hq
theorem checkKey_string {P : Program} {A : View} {kt : TypeId} {s : ByteArray} {b : Bool} {n : Nat} {Q : Unit → View → Prop} (hk : P.underlying kt = some .string) (hq : Q () A) :
    (Instr.checkKey b (n + 1) kt (.string s)).vp P Q A := by
  unfold Instr.checkKey
  rw [vp_bind]
  refine vp_underlying hk _ ?_
  exact hq
def mapAt (A : View) : Value → Option (List MapEntry)
  | .map none => some []
  | .map (some r) => match A r with | some (.map es _) => some es.toList | _ => none
  | _ => none
def zeroOf (P : Program) (t : TypeId) : Option Value := (tinfo P t).bind (·.zero)
theorem lookup_string {P : Program} {A : View} {t kt et : TypeId} {m : Value} {s : ByteArray} {ok : Bool} {es : List MapEntry} {z : Value} {Q : Value → View → Prop}
    (ht : P.underlying t = some (.map kt et)) (hk : P.underlying kt = some .string) (hm : mapAt A m = some es) (he : strKeys es) (hz : zeroOf P et = some z)
    (hq : Q (if ok then .tuple #[((sfind s es 0).map (·.2)).getD z, .bool (sfind s es 0).isSome] else ((sfind s es 0).map (·.2)).getD z) A) :
    (Instr.lookup t m (.string s) ok).vp P Q A := by
  obtain ⟨ti, hti, hzz⟩ := Option.bind_eq_some_iff.1 hz
  unfold Instr.lookup
  rw [vp_bind]
  refine vp_underlying ht _ ?_
  unfold mapAt at hm
  split at hm
  · simp only [Option.some.injEq] at hm
    simp only [vp_bind, vp_pure]
    refine checkKey_string hk ?_
    subst hm
    refine findKey_string hk he ?_
    cases hf : sfind s [] 0 with
    | some p =>
      obtain ⟨i, v⟩ := p
      rw [hf] at hq
      simpa using hq
    | none =>
      rw [hf] at hq
      simp only [vp_bind]
      refine vp_zeroValue hti hzz _ ?_
      simpa using hq
  · rename_i r
    split at hm
    · rename_i es' c hA
      simp only [Option.some.injEq] at hm
      simp only [vp_bind]
      refine ⟨_, hA, trivial, ?_⟩
      simp only [vp_pure', vp_pure, vp_bind]
      refine checkKey_string hk ?_
      rw [hm]
      refine findKey_string hk he ?_
      cases hf : sfind s es 0 with
      | some p =>
        obtain ⟨i, v⟩ := p
        rw [hf] at hq
        simpa using hq
      | none =>
        rw [hf] at hq
        simp only [vp_bind]
        refine vp_zeroValue hti hzz _ ?_
        simpa using hq
    · cases hm
  · cases hm

def xassert (P : Program) (x : Value) (xt t : TypeId) (ok : Bool) : Option Value :=
  match tinfo P t with
  | some ⟨.iface want, _, _, z⟩ =>
    match x with
    | .nilIface => if ok then z.map fun z => .tuple #[z, .bool false] else none
    | .iface d _ => match P.info? d with
      | some i => match Instr.missingMethod want.toArray i.methods with
        | none => some (if ok then .tuple #[x, .bool true] else x)
        | some _ => if ok then z.map fun z => .tuple #[z, .bool false] else none
      | none => none
    | _ => none
  | some ⟨_, _, _, z⟩ =>
    match x with
    | .nilIface => if ok then z.map fun z => .tuple #[z, .bool false] else none
    | .iface d v => if d = t then some (if ok then .tuple #[v, .bool true] else v) else if ok then z.map fun z => .tuple #[z, .bool false] else none
    | _ => none
  | none => none
theorem xassert_sound {P : Program} {A : View} {x u : Value} {xt t : TypeId} {ok : Bool} {Q : Value → View → Prop} (h : xassert P x xt t ok = some u) (hq : Q u A) :
    (Instr.typeAssert x xt t ok).vp P Q A := by
  unfold xassert at h
  split at h
  · rename_i want _ _ z hti
    obtain ⟨d, hd, hk⟩ := tinfo_under hti
    cases d <;> simp only [TK.of, reduceCtorEq, TK.iface.injEq] at hk
    rename_i ms
    unfold Instr.typeAssert
    rw [vp_bind]
    refine vp_underlying hd _ ?_
    split at h
    · cases ok with
      | false => cases h
      | true =>
        simp only [if_true] at h
        obtain ⟨z', hz, hu⟩ := Option.map_eq_some_iff.1 h
        simp only [if_true, vp_bind]
        exact vp_zeroValue hti hz _ (by rw [hu]; exact hq)
    · rename_i d' v
      split at h
      · rename_i i hi
        have hms : want.toArray = ms := by rw [← hk]
        rw [hms] at h
        simp only [vp_bind, typeInfo, vp_program, hi, vp_pure]
        split at h
        · rename_i hm
          simp only [Option.some.injEq] at h; subst h
          simp only [hm, vp_pure]; exact hq
        · rename_i m hm
          cases ok with
          | false => cases h
          | true =>
            simp only [if_true] at h
            obtain ⟨z', hz, hu⟩ := Option.map_eq_some_iff.1 h
            simp only [hm, if_true, vp_bind]
            exact vp_zeroValue hti hz _ (by rw [hu]; exact hq)
      · cases h
    · cases h
  · rename_i k _ _ z hn hti
    obtain ⟨d, hd, hk⟩ := tinfo_under hti
    have hni : ∀ ms, d ≠ .interface ms := by
      intro ms hms
      subst hms
      exact hn ms.toList hk.symm
    unfold Instr.typeAssert
    rw [vp_bind]
    refine vp_underlying hd _ ?_
    split at h
    · cases ok with
      | false => cases h
      | true =>
        simp only [if_true] at h
        obtain ⟨z', hz, hu⟩ := Option.map_eq_some_iff.1 h
        cases d <;> first
          | exact absurd rfl (hni _)
          | (simp only [if_true, vp_bind]; exact vp_zeroValue hti hz _ (by rw [hu]; exact hq))
    · rename_i d' v
      split at h
      · rename_i hdt
        simp only [Option.some.injEq] at h; subst h
        cases d <;> first
          | exact absurd rfl (hni _)
          | (simp only [hdt, if_true, vp_pure]; exact hq)
      · rename_i hdt
        cases ok with
        | false => cases h
        | true =>
          simp only [if_true] at h
          obtain ⟨z', hz, hu⟩ := Option.map_eq_some_iff.1 h
          cases d <;> first
            | exact absurd rfl (hni _)
            | (simp only [hdt, if_false, if_true, vp_bind]; exact vp_zeroValue hti hz _ (by rw [hu]; exact hq))
    · cases h
  · cases h
end Go.Proofs.YtpinamipjddobaaV

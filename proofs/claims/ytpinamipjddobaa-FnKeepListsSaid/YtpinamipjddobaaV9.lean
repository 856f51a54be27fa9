/- The logic of views: contracts of the kit's taken over; bodies that defer what idles; texts and their bytes. -/
import Derived.Test.YtpinamipjddobaaV8
import Derived.Laws.BytesArg
import Derived.Below
namespace Go.Proofs.YtpinamipjddobaaV
open Go.RowKit
set_option linter.unusedSimpArgs false
set_option linter.unusedVariables false

/-! ## Contracts -/
theorem vcalls_of_below {P : Program} {f : FuncId} {args : Array Value} {A : View} {R : Value → Prop}
    (h : ∀ w, Holds A w → Calls P f args w fun e w' => ∃ v, e = .returned v ∧ R v ∧ Below w.heap.size w w') : VCalls P f args A fun v A' => R v ∧ A' = A := by
  intro w hw
  refine (h w hw).mono ?_
  rintro _ w' ⟨v, he, hR, hb⟩
  refine ⟨v, he, A, ⟨hR, rfl⟩, fun b o hbo => ?_, hb.os, hb.tape, hb.output, hb.size, fun b hlt _ => hb.block b hlt, fun b h => .inl h⟩
  rw [hb.block b (hw.lt (by rw [hbo]; simp))]
  exact hw b o hbo

/-! ## Bodies that defer -/
/-- What a deferred function does that finds nothing to recover: nothing. -/
def Idle (P : Program) (d : Deferred) : Prop := ∀ w, ∃ fv cap f args, d.target = .fn fv cap ∧ (invoke d.target d.args).run P w = .ok (.enter f args) w ∧
  CallsD P f args .returning w fun e u' w' => (∃ v, e = .returned v) ∧ u' = .returning ∧ w' = w
def xendD (P : Program) (n : Nat) (rs : List ResultVar) (R : Value → View → Prop) : Exit → VQ
  | .normal, e, ds, A | .ret, e, ds, A => (∀ d ∈ ds, Idle P d) ∧ onS (resV P n e A rs) fun vs => R (tup vs) A
  | _, _, _, _ => False
attribute [go_sem] xendD
theorem leaves_idle {P : Program} {fn : Func} {tmps : Array Value} {R : Ending → World → Prop} {w : World} : ∀ (ds : List Deferred), (∀ d ∈ ds, Idle P d) →
    (∃ v, (results fn tmps).run P w = .ok v w ∧ R (.returned v) w) → Leaves P fn tmps R ds .returning w
  | [], _, h => h
  | d :: ds, hd, h => by
    obtain ⟨fv, cap, f, args, h1, h2, h3⟩ := hd d List.mem_cons_self w
    refine ⟨by simp, fv, cap, f, args, h1, h2, h3.mono ?_⟩
    rintro e u' w' ⟨⟨v, rfl⟩, rfl, rfl⟩
    exact leaves_idle ds (fun d hx => hd d (List.mem_cons_of_mem _ hx)) h
theorem xcallsD {P : Program} {f : FuncId} {fn : Func} {c : Code} {args : Array Value} {A : View} {R : Value → View → Prop}
    (hf : P.funcs[f]? = some fn) (hb : fn.body = some c) (hn : args.size ≤ fn.ntmps)
    (h : xc P fn.ntmps c (xendD P fn.ntmps fn.results.toList R) (initE args) [] A) : VCalls P f args A R := by
  intro w hw
  refine calls_of_wp_defers hf hb ?_
  rw [frame_init _ _ hn]
  refine wp_mono (xc_sound c h w hw) ?_
  rintro x a w' ⟨e, ds, rfl, A', hq, hh, hk⟩
  have key : (∀ d ∈ ds, Idle P d) → onS (resV P fn.ntmps e A' fn.results.toList) (fun vs => R (tup vs) A') →
      Leaves P fn (frame fn.ntmps e ds).tmps (fun e w' => ∃ v, e = .returned v ∧ Post (R v) A w w') (frame fn.ntmps e ds).defers .returning w' := by
    rintro hd ⟨vs, hvs, hR⟩
    obtain ⟨v, w2, hrun, A2, ⟨h1, h2⟩, _, _⟩ := vp_sound _ _ _ _ (results_vp (Q := fun v A2 => v = tup vs ∧ A2 = A') hvs ⟨rfl, rfl⟩) hh
    obtain rfl := (RO.results _ _).run _ _ _ hrun
    exact leaves_idle ds hd ⟨v, hrun, v, rfl, A', by rw [h1]; exact hR, hh, hk⟩
  cases x with
  | normal => exact key hq.1 hq.2
  | ret => exact key hq.1 hq.2
  | _ => exact hq.elim

/-! ## Texts and bytes -/
def bv (b : UInt8) : Value := .int .u8 (b.toNat : Int)
theorem vp_forIn_bytes {P : Program} {A : View} (f : Value → ByteArray → Sem (ForInStep ByteArray))
    (hf : ∀ (b : UInt8) (r : ByteArray) (Q : ForInStep ByteArray → View → Prop), Q (.yield (r.push b)) A → (f (bv b) r).vp P Q A) :
    ∀ (l : List UInt8) (s : ByteArray) (Q : ByteArray → View → Prop), Q ⟨s.data ++ l.toArray⟩ A → (forIn (l.map bv) s f).vp P Q A
  | [], s, Q, h => by
    simp only [List.map_nil, List.forIn_nil]
    have : (⟨s.data ++ ([] : List UInt8).toArray⟩ : ByteArray) = s := by simp
    rw [this] at h
    exact h
  | b :: l, s, Q, h => by
    simp only [List.map_cons, List.forIn_cons]
    rw [vp_bind]
    refine hf b s _ ?_
    refine vp_forIn_bytes f hf l _ Q ?_
    have : (⟨(s.push b).data ++ l.toArray⟩ : ByteArray) = ⟨s.data ++ (b :: l).toArray⟩ := by
      congr 1
      apply Array.ext'
      simp [ByteArray.push]
    rw [this]
    exact h
theorem vp_bytesToString {P : Program} {A : View} {a : Addr} {len cap : Nat} {l : List UInt8} {Q : Value → View → Prop} (h : A.cells? a 0 len = some (l.map bv)) (hq : Q (.string ⟨l.toArray⟩) A) :
    (Conv.bytesToString (.slice (some a) len cap)).vp P Q A := by
  unfold Conv.bytesToString
  simp only [vp_bind]
  unfold loadCells
  refine vp_loadCellsFrom _ _ _ _ _ h ?_
  simp only [List.forIn_toArray, Array.empty_append, Array.append_empty]
  have : (#[] ++ (l.map bv).toArray : Array Value) = (l.map bv).toArray := by simp
  first
    | (refine vp_forIn_bytes _ ?_ l _ _ ?_
       · intro b r Q' hq'
         simp only [bv, vp_bind, vp_pure]
         simpa using hq'
       · simpa using hq)
theorem ev_eq {n : Nat} {e : Env} {x : Operand} {v : Value} (h : ev n e x = v) : ev n e x = v := h
section
variable {P : Program} {n : Nat} {K : VQ} {e : Env} {ds : List Deferred} {A : View} {d : Option Tmp} {ty : TypeId} {p : String} {af : Array Edge} {g : Option (Nat × Bool)}
/-- string(b). -/
theorem xb2s {s t el : TypeId} {x : Operand} {a : Addr} {len cap : Nat} {l : List UInt8} (hs : P.underlying s = some (.slice el)) (he : P.underlying el = some (.int .u8)) (ht : P.underlying t = some .string)
    (hx : ev n e x = .slice (some a) len cap) (hc : A.cells? a 0 len = some (l.map bv)) (h : K (putE e d (.string ⟨l.toArray⟩)) ds A) : vop P n ⟨d, .convert s t x, ty, p, af, g⟩ (dn K) e ds A := by
  unfold vop
  simp only [execOp, vp_bind, hx]
  unfold convert
  rw [vp_bind]
  refine vp_underlying hs _ ?_
  rw [vp_bind]
  refine vp_underlying ht _ ?_
  simp only [vp_bind]
  refine vp_underlying he _ ?_
  refine vp_bytesToString hc ?_
  exact ⟨A, View.le_refl _, h⟩
theorem xb2s_nil {s t el : TypeId} {x : Operand} {len cap : Nat} (hs : P.underlying s = some (.slice el)) (he : P.underlying el = some (.int .u8)) (ht : P.underlying t = some .string)
    (hx : ev n e x = .slice none len cap) (h : K (putE e d (.string ⟨#[]⟩)) ds A) : vop P n ⟨d, .convert s t x, ty, p, af, g⟩ (dn K) e ds A := by
  unfold vop
  simp only [execOp, vp_bind, hx]
  unfold convert
  rw [vp_bind]
  refine vp_underlying hs _ ?_
  rw [vp_bind]
  refine vp_underlying ht _ ?_
  simp only [vp_bind]
  refine vp_underlying he _ ?_
  exact ⟨A, View.le_refl _, h⟩
def byteCells (S : ByteArray) (cap : Nat) : Array Value := (S.data.map bv) ++ Array.replicate (cap - S.size) (.int .u8 0)
theorem byteCells_size {S : ByteArray} {cap : Nat} (h : S.size ≤ cap) : (byteCells S cap).size = cap := by
  have : S.data.size = S.size := rfl
  simp [byteCells]; omega
/-- []byte(s). -/
theorem xs2b {s t el : TypeId} {x : Operand} {S : ByteArray} (hs : P.underlying s = some .string) (ht : P.underlying t = some (.slice el)) (he : P.underlying el = some (.int .u8))
    (hx : ev n e x = .string S) (h : ∀ b, A b = none → ∀ cap, S.size ≤ cap → K (putE e d (.slice (some ⟨b, 0, none⟩) S.size cap)) ds (A.set b (.cells (byteCells S cap) el (cap, cap + 1)))) :
    vop P n ⟨d, .convert s t x, ty, p, af, g⟩ (dn K) e ds A := by
  unfold vop
  simp only [execOp, vp_bind, hx]
  unfold convert
  rw [vp_bind]
  refine vp_underlying hs _ ?_
  rw [vp_bind]
  refine vp_underlying ht _ ?_
  simp only [vp_bind]
  refine vp_underlying he _ ?_
  simp only [Conv.stringToBytes, vp_bind]
  show ∀ tp : Nat, _
  intro tp
  simp only [newRow, vp_bind, Question.cut, vp_pure]
  refine vp_newObj fun b hb => ?_
  have hcap : S.size ≤ S.size + tp % (2 ^ 63 - S.size) := Nat.le_add_right _ _
  have h0 := h b hb _ hcap
  generalize S.size + tp % (2 ^ 63 - S.size) = cap at hcap h0 ⊢
  have hz := byteCells_size hcap
  simp only [markStringish, vp_bind]
  refine ⟨_, set_at _ _ _, ?_⟩
  simp only [vp_pure, vp_pure']
  show Sem.vp P (.freeze _ _ _) _ _
  refine ⟨_, _, set_at _ _ _, Nat.one_pos, ?_⟩
  rw [set_set]
  have hz2 : (Array.map (fun (b : UInt8) => Value.int .u8 (b.toNat : Int)) S.data ++ Array.replicate (cap - S.size) (Value.int .u8 0)).size = cap := hz
  simp only [vp_pure, vp_pure', hz2]
  exact ⟨_, View.le_refl _, h0⟩
end
/-! ## One statement at a time -/
theorem xc_step {P : Program} {n : Nat} {c1 c2 : Code} {K : Exit → VQ} {e : Env} {ds : List Deferred} {A : View} (h : ∀ C, C = c2 → xc P n (c1.seq C) K e ds A) : xc P n (c1.seq c2) K e ds A := h c2 rfl

/-! ## Two slices that are owned -/
theorem cells?_congr {A B : View} {a : Addr} (h : A a.block = B a.block) : ∀ n i, A.cells? a i n = B.cells? a i n
  | 0, _ => rfl
  | n + 1, i => by
    have : A.cell? (a.add i) = B.cell? (a.add i) := by unfold View.cell?; rw [add_block, h]
    simp only [View.cells?, this, cells?_congr h n (i + 1)]
theorem sliceIn_congr {A B : View} {a : Addr} {e : TypeId} {size n c : Nat} (h : A a.block = B a.block) : sliceIn A e size (.slice (some a) n c) = sliceIn B e size (.slice (some a) n c) := by
  simp only [sliceIn, h, cells?_congr h]
def apart (v u : Value) : Prop := ∀ b, blockOf v = some b → blockOf u ≠ some b
theorem apart_nil {v : Value} : apart v (.slice none 0 0) := fun _ _ h => by cases h
theorem nil_apart {v : Value} : apart (.slice none 0 0) v := fun _ h => by cases h
theorem apart_symm {v u : Value} (h : apart v u) : apart u v := fun b hb hv => h b hv hb
theorem eraseB_apart {A : View} {v : Value} {b : Nat} (h : blockOf v ≠ some b) : eraseB A v b = A b := by
  unfold eraseB
  split
  · rename_i a n c
    exact if_neg fun hx => h (by rw [hx]; rfl)
  · rfl
theorem eraseB_some {A : View} {v : Value} {b : Nat} {o : Obj} (h : eraseB A v b = some o) : blockOf v ≠ some b ∧ A b = some o := by
  have h1 : blockOf v ≠ some b := by
    intro hx
    unfold blockOf at hx
    split at hx
    · simp only [Option.some.injEq] at hx
      rw [← hx] at h
      simp only [eraseB, View.erase, if_true] at h
      cases h
    · cases hx
  exact ⟨h1, (eraseB_apart h1).symm.trans h⟩
/-- Beside a slice that grows another one stays. -/
theorem own_side {A0 A A' : View} {e : TypeId} {size m : Nat} {v v' u : Value} {ds : List Value} (k : Own A0 A e size u m ds) (ha : apart v u) (h : eraseB A v ≤ eraseB A' v') : Own A0 A' e size u m ds ∧ apart v' u := by
  obtain ⟨h1, h2⟩ := k
  rcases h2 with ⟨rfl, rfl⟩ | ⟨a, cap, rfl, hn⟩
  · exact ⟨⟨h1, .inl ⟨rfl, rfl⟩⟩, apart_nil⟩
  · obtain ⟨c, h3, _⟩ := sliceIn_block h1
    have h4 : eraseB A v a.block = some (.cells c e (0, 0)) := by
      rw [eraseB_apart fun hx => ha _ hx rfl]; exact h3
    obtain ⟨h5, h6⟩ := eraseB_some (h _ _ h4)
    refine ⟨⟨?_, .inr ⟨a, cap, rfl, hn⟩⟩, fun b hb hb2 => ?_⟩
    · rw [← h1]
      exact sliceIn_congr (by rw [h6, h3])
    · simp only [blockOf, Option.some.injEq] at hb2
      rw [hb2] at h5
      exact h5 hb
theorem add_zero (a : Addr) : a.add 0 = a := by
  unfold Addr.add
  split <;> simp_all
theorem xstore_cell {P : Program} {t : TypeId} {k : TK} {b : Nat} {z : Option Value} {A : View} {a : Addr} {u w : Value} (ht : tinfo P t = some ⟨k, 1, b, z⟩) (hu : one u = true) (hc : A.cell? a = some w) (hf : A.frozen? a = false) :
    xstore P t (.pointer (some a)) u A = some (A.setCell a u) := by
  have h1 : u.cells = #[u] := by cases u <;> simp [one, Value.cells] at hu ⊢
  simp [xstore, ht, h1, storeAll, add_zero, hu, hc, hf]
/-! ## Blocks known whole: structs -/
theorem cell_of {A : View} {b i : Nat} {c : Array Value} {e : TypeId} {f : Nat × Nat} {u : Value} (hA : A b = some (.cells c e f)) (h : c[i]? = some u) : A.cell? ⟨b, i, none⟩ = some u := by
  unfold View.cell?
  rw [hA]
  exact h
theorem at_add (b o i : Nat) : (⟨b, o, none⟩ : Addr).add i = ⟨b, o + i, none⟩ := by simp [Addr.add]
theorem cells_block {A : View} {b n : Nat} {c : Array Value} {e : TypeId} {f : Nat × Nat} (hA : A b = some (.cells c e f)) (hn : c.size = n) : A.cells? ⟨b, 0, none⟩ 0 n = some c.toList := by
  refine cells?_intro _ _ _ (by simp [hn]) fun j hj => ?_
  rw [at_add, Nat.zero_add, Nat.zero_add]
  unfold View.cell?
  rw [hA]
  simp
theorem xstore_agg {P : Program} {t : TypeId} {ti : TI} {A : View} {b : Nat} {c vs : Array Value} {e : TypeId} (ht : tinfo P t = some ti) (hz : vs.size = ti.size) (hA : A b = some (.cells c e (0, 0))) (hc : c.size = vs.size)
    (hone : ∀ v ∈ vs.toList, one v = true) : xstore P t (.pointer (some ⟨b, 0, none⟩)) (.agg vs) A = some (A.set b (.cells vs e (0, 0))) := by
  have h1 := storeAll_block vs.toList A ⟨b, 0, none⟩ 0 c hA rfl (by simp [hc]) hone
  have h2 : splice c (0 + 0) vs.toList = vs := by
    apply Array.ext
    · rw [splice_size, hc]
    · intro i h1 h2
      have := splice_get vs.toList c (0 + 0) (by simp [hc]) i
      rw [Array.getElem?_eq_getElem h1] at this
      simp at this
      rw [if_pos h2, Array.getElem?_eq_getElem h2] at this
      exact Option.some.inj this
  rw [h2] at h1
  simp only [xstore, ht, Value.cells, hz, if_true]
  exact h1
theorem xstore_field {P : Program} {t : TypeId} {k : TK} {y : Nat} {z : Option Value} {A : View} {b i : Nat} {c : Array Value} {e : TypeId} {u : Value} (ht : tinfo P t = some ⟨k, 1, y, z⟩) (hA : A b = some (.cells c e (0, 0))) (hi : i < c.size)
    (hu : one u = true) : xstore P t (.pointer (some ⟨b, i, none⟩)) u A = some (A.set b (.cells (c.setIfInBounds i u) e (0, 0))) := by
  rw [xstore_cell ht hu (cell_of hA (Array.getElem?_eq_getElem hi)) (by unfold View.frozen?; rw [hA]; simp)]
  congr 1
  unfold View.setCell
  rw [hA]
  rfl
/-! ## A long region with guards, its guards looked up ahead -/
section
variable {P : Program} {n : Nat}
def seqX (P : Program) (n : Nat) (Q : VQ) : List RO1 → Env → List Deferred → View → Prop
  | [], e, ds, A => Q e ds A
  | r :: l, e, ds, A => gif (wantR n e r.g) (xop P n r.o (seqX P n Q l) e ds A) (seqX P n Q l (putE e r.o.dst undef) ds A)
theorem seqX_eq {ops : Array Oper} {Q : VQ} : ∀ (L : List Oper) (l : List (Nat × Bool)) (k : Nat), (∀ j, L[j]? = ops[k + j]?) → l.map (·.1) = List.range' k L.length → seqX P n Q (rslv ops l) = xops P n ops Q L
  | [], l, k, _, hl => by
    have : l = [] := by cases l with | nil => rfl | cons _ _ => simp at hl
    subst this
    rfl
  | o :: r, l, k, h, hl => by
    cases l with
    | nil => simp at hl
    | cons q l =>
      obtain ⟨i, b⟩ := q
      rw [List.length_cons, List.range'_succ, List.map_cons] at hl
      obtain ⟨h1, h2⟩ := List.cons.inj hl
      simp only at h1
      subst h1
      have ho : ops[i]? = some o := by have := h 0; simpa using this.symm
      have ih := seqX_eq (ops := ops) (Q := Q) r l (i + 1) (fun j => by have := h (j + 1); simp only [List.getElem?_cons_succ] at this; rw [this]; congr 1; omega) h2
      funext e ds A
      rw [rslv_cons, ho]
      simp only [seqX, xops, ih, want_eq, gif]
theorem xc_reg {id : Nat} {ops : Array Oper} {C : Code} {K : Exit → VQ} {e : Env} {ds : List Deferred} {A : View} (m : Nat) (hm : ops.size = m)
    (h : ∀ K' : VQ, (∀ e ds A, xc P n C K e ds A → K' e ds A) → seqX P n K' (rslv ops ((List.range m).map (·, true))) e ds A) : xc P n ((Code.region id ops false).seq C) K e ds A := by
  show xc P n (.region id ops false) (thenQ (xc P n C K) K) e ds A
  have h1 := h _ fun _ _ _ h => h
  rw [seqX_eq ops.toList _ 0 (fun j => by simp) (by simp [hm, List.range_eq_range', Function.comp_def])] at h1
  simpa [xc, thenQ_normal] using h1
theorem seqX_hide {Q : VQ} {r : RO1} {l : List RO1} {e : Env} {ds : List Deferred} {A : View} (h : ∀ R, R = l → seqX P n Q (r :: R) e ds A) : seqX P n Q (r :: l) e ds A := h l rfl
theorem rslv_append {ops : Array Oper} : ∀ (a b : List (Nat × Bool)), rslv ops (a ++ b) = rslv ops a ++ rslv ops b
  | [], b => rfl
  | (i, nd) :: a, b => by
    rw [List.cons_append, rslv_cons, rslv_cons, rslv_append a b]
    cases ops[i]? <;> rfl
theorem seqX_append {Q : VQ} : ∀ (a b : List RO1), seqX P n Q (a ++ b) = seqX P n (seqX P n Q b) a
  | [], b => rfl
  | r :: a, b => by
    funext e ds A
    rw [List.cons_append]
    simp only [seqX, seqX_append a b]
/-- A long region in two parts. -/
theorem seqX_parts {ops : Array Oper} {Q : VQ} {e : Env} {ds : List Deferred} {A : View} {l : List (Nat × Bool)} (l1 l2 : List (Nat × Bool)) (hl : l = l1 ++ l2)
    (h : ∀ K1 : VQ, (∀ e ds A, seqX P n Q (rslv ops l2) e ds A → K1 e ds A) → seqX P n K1 (rslv ops l1) e ds A) : seqX P n Q (rslv ops l) e ds A := by
  rw [hl, rslv_append, seqX_append]
  exact h _ fun _ _ _ h => h
@[go_sem] theorem seqX_nil {Q : VQ} {e : Env} {ds : List Deferred} {A : View} : seqX P n Q [] e ds A = Q e ds A := _root_.id rfl
@[go_sem] theorem seqX_cons {Q : VQ} {e : Env} {ds : List Deferred} {A : View} (o : Oper) (g : Option (Option Tmp × Bool)) (nd : Bool) (l : List RO1) :
    seqX P n Q (⟨o, g, nd⟩ :: l) e ds A = gif (wantR n e g) (xop P n o (seqX P n Q l) e ds A) (seqX P n Q l (putE e o.dst undef) ds A) := _root_.id rfl
end
/-! ## A loop of few rounds, round by round -/
def VR (P : Program) (n : Nat) (c : Code) (Q : Exit → VQ) : Nat → VQ
  | 0 => fun _ _ _ => False
  | k + 1 => VCode P n c (thenQ (VR P n c Q k) Q)
theorem vrounds {P : Program} {n : Nat} {c : Code} {Q : Exit → VQ} {e : Env} {ds : List Deferred} {A : View} (k : Nat) (h : VR P n c Q k e ds A) : VCode P n (.loop c) Q e ds A := by
  refine vloop (VR P n c Q) k h fun k e ds A hk => ?_
  cases k with
  | zero => exact hk.elim
  | succ k =>
    refine VCode.mono hk fun x e ds A hq => ?_
    cases x with
    | normal => exact ⟨k, Nat.lt_succ_self _, hq⟩
    | _ => exact hq
theorem vround {P : Program} {n k : Nat} {c : Code} {Q : Exit → VQ} {e : Env} {ds : List Deferred} {A : View}
    (h : ∀ (J : VQ) (X : Exit → VQ), (∀ e ds A, VR P n c Q k e ds A → J e ds A) → (∀ x e ds A, Q x e ds A → X x e ds A) → xc P n c (thenQ J X) e ds A) : VR P n c Q (k + 1) e ds A :=
  xc_sound _ (h _ _ (fun _ _ _ h => h) (fun _ _ _ _ h => h))
theorem xc_iftrue {P : Program} {n : Nat} {c : Operand} {x y : Code} {Q : Exit → VQ} {e : Env} {ds : List Deferred} {A : View} (hc : ev n e c = .bool true) (h : xc P n x Q e ds A) : xc P n (.cond c x y) Q e ds A := by
  rw [xc_cond, hc, cond2_true]; exact h
theorem xc_iffalse {P : Program} {n : Nat} {c : Operand} {x y : Code} {Q : Exit → VQ} {e : Env} {ds : List Deferred} {A : View} (hc : ev n e c = .bool false) (h : xc P n y Q e ds A) : xc P n (.cond c x y) Q e ds A := by
  rw [xc_cond, hc, cond2_false]; exact h
/-- A call at less: what it leaves lies beside what it did not know. -/
theorem calls_base {P : Program} {f : FuncId} {args : Array Value} {A B : View} {R : Value → View → Prop} (h : VCalls P f args A R) (hAB : A ≤ B) :
    VCalls P f args B fun v B' => ∃ D, R v D ∧ D ≤ B' ∧ ∀ k o, A k = none → B k = some o → D k = none ∧ B' k = some o := by
  refine (h.frame hAB).mono ?_
  rintro v B' ⟨D, hR, hd, rfl⟩
  refine ⟨D, hR, fun k o hk => by simp only [View.join, hk], fun k o hA hB => ?_⟩
  have hm : B.minus A k = some o := by simp only [View.minus, hA]; exact hB
  have hn := hd k (by rw [hm]; simp)
  exact ⟨hn, by simp only [View.join, hn]; exact hm⟩
end Go.Proofs.YtpinamipjddobaaV

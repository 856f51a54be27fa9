/- Trees of the thin package's nodes. -/
import Derived.Test.YtpinamipjddobaaV15
import Derived.Test.YtpinamipjddobaaV13
import Derived.Test.YtpinamipjddobaaVT
import Derived.Test.YtpinamipjddobaaV7
import Derived.SizedLaws
namespace Go.Proofs.YtpinamipjddobaaV
open Go.RowKit
set_option linter.unusedSimpArgs false
set_option linter.unusedVariables false
/-- All operations of a statement that stands alone, in their order. -/
def rall (ops : Array Oper) : List Oper → List RO1
  | [] => []
  | o :: l => ⟨o, gres ops o, true⟩ :: rall ops l
theorem rslv_all (ops : Array Oper) : ∀ (l : List Oper) (k : Nat), ops.toList.drop k = l → rslv ops ((List.range' k l.length).map (·, true)) = rall ops l
  | [], k, _ => rfl
  | o :: l, k, h => by
    have ho : ops[k]? = some o := by
      rw [← Array.getElem?_toList]
      have := congrArg (fun x => x[0]?) h
      simpa using this
    rw [List.length_cons, List.range'_succ, List.map_cons, rslv_cons, ho, rall, rslv_all ops l (k + 1) (by rw [← List.drop_drop, h]; rfl)]
theorem xc_reg2 {P : Program} {n id : Nat} {ops : Array Oper} {K : Exit → VQ} {e : Env} {ds : List Deferred} {A : View}
    (h : ∀ K' : VQ, (∀ e ds A, K .normal e ds A → K' e ds A) → seqX P n K' (rall ops ops.toList) e ds A) : xc P n (Code.region id ops false) K e ds A := by
  refine xc_reg1 ops.size rfl fun K' hK => ?_
  have h1 := rslv_all ops ops.toList 0 rfl
  rw [Array.length_toList, ← List.range_eq_range'] at h1
  rw [h1]
  exact h K' hK
theorem rsl : (∀ ops : Array Oper, rslv ops [] = []) ∧ (∀ (ops : Array Oper) (i : Nat) (nd : Bool) (l : List (Nat × Bool)), rslv ops ((i, nd) :: l) = match ops[i]? with | some o => ⟨o, gres ops o, nd⟩ :: rslv ops l | none => rslv ops l) ∧
    (∀ l : List Oper, l.toArray.toList = l) ∧ (∀ (l : List Oper) (i : Nat), l.toArray[i]? = l[i]?) ∧ (∀ (a : Oper) (l : List Oper), (a :: l)[0]? = some a) ∧ (∀ (a : Oper) (l : List Oper) (i : Nat), (a :: l)[i + 1]? = l[i]?) :=
  ⟨fun _ => rfl, fun _ _ _ _ => rfl, fun _ => rfl, fun _ _ => by simp, fun _ _ => rfl, fun _ _ _ => rfl⟩
theorem addr_add (b off j : Nat) : (Addr.mk b off none).add j = ⟨b, off + j, none⟩ := by
  unfold Addr.add
  split
  · rename_i h; subst h; rfl
  · rfl
theorem Own.shape {A0 A : View} {e : TypeId} {size n : Nat} {v : Value} {cs : List Value} (h : Own A0 A e size v n cs) : ∃ bs cp, v = .slice bs n cp := by
  rcases h.2 with ⟨rfl, rfl⟩ | ⟨a, cap, rfl, _⟩
  · exact ⟨_, _, rfl⟩
  · exact ⟨_, _, rfl⟩
theorem own_move {D B D' B' : View} {e : TypeId} {size n : Nat} {u : Value} {cs : List Value} (h : Own D B e size u n cs) (hk : ∀ k o, D k = none → blockOf u = some k → B k = some o → D' k = none ∧ B' k = some o) : Own D' B' e size u n cs := by
  obtain ⟨h1, ⟨rfl, rfl⟩ | ⟨a, cap, rfl, hn⟩⟩ := h
  · exact ⟨h1, .inl ⟨rfl, rfl⟩⟩
  · obtain ⟨c, h3, _⟩ := sliceIn_block h1
    obtain ⟨h4, h5⟩ := hk _ _ hn rfl h3
    exact ⟨by rw [← h1]; exact sliceIn_congr (by rw [h5, h3]), .inr ⟨a, cap, rfl, h4⟩⟩
/-- A slice of structs of k cells. -/
def Elems (A : View) (k : Nat) (v : Value) {α : Type} (l : List α) (Q : View → α → Array Value → Prop) : Prop :=
  ∃ bs cap, v = .slice bs l.length cap ∧ ∀ j (h : j < l.length), ∃ a c, bs = some a ∧ A.cells? (a.add (j * k)) 0 k = some c.toList ∧ Q A l[j] c
theorem Elems.le {A B : View} {k : Nat} {v : Value} {α : Type} {l : List α} {Q : View → α → Array Value → Prop} (hQ : ∀ x c, Q A x c → Q B x c) (h : A ≤ B) (e : Elems A k v l Q) : Elems B k v l Q := by
  obtain ⟨bs, cap, h1, h2⟩ := e
  exact ⟨bs, cap, h1, fun j hj => let ⟨a, c, g1, g2, g3⟩ := h2 j hj; ⟨a, c, g1, le_cells h _ _ _ g2, hQ _ _ g3⟩⟩
theorem Elems.slice {A : View} {k : Nat} {v : Value} {α : Type} {l : List α} {Q : View → α → Array Value → Prop} (e : Elems A k v l Q) : ∃ bs cap, v = .slice bs l.length cap := let ⟨bs, cap, h, _⟩ := e; ⟨bs, cap, h⟩
theorem Elems.nil (A : View) (k : Nat) {α : Type} (Q : View → α → Array Value → Prop) : Elems A k (.slice none 0 0) ([] : List α) Q := ⟨none, 0, rfl, fun j h => absurd h (Nat.not_lt_zero _)⟩
def Parts (k : Nat) (cs : List Value) {α : Type} (l : List α) (Q : α → Array Value → Prop) : Prop := ∀ j (h : j < l.length), ∃ c : Array Value, (cs.drop (j * k)).take k = c.toList ∧ c.size = k ∧ Q l[j] c
theorem Parts.nil (k : Nat) {α : Type} (Q : α → Array Value → Prop) : Parts k [] ([] : List α) Q := fun j h => absurd h (Nat.not_lt_zero _)
theorem tdk_left {k : Nat} {vs cs : List Value} {i j : Nat} (h : vs.length = j * k) (hi : i < j) : ((vs ++ cs).drop (i * k)).take k = (vs.drop (i * k)).take k := by
  have : i * k + k ≤ j * k := by rw [← Nat.succ_mul]; exact Nat.mul_le_mul_right _ hi
  rw [List.drop_append_of_le_length (by omega), List.take_append_of_le_length (by rw [List.length_drop]; omega)]
theorem tdk_right {k : Nat} {vs cs : List Value} {j : Nat} (h : vs.length = j * k) (hc : cs.length = k) : ((vs ++ cs).drop (j * k)).take k = cs := by
  rw [← h, List.drop_left, List.take_of_length_le (by omega)]
theorem Parts.push {k : Nat} {cs : List Value} {α : Type} {l : List α} {Q : α → Array Value → Prop} {x : α} {c : Array Value} (h : Parts k cs l Q) (hl : cs.length = l.length * k) (hc : c.size = k) (hx : Q x c) : Parts k (cs ++ c.toList) (l ++ [x]) Q := by
  intro j hj
  by_cases h1 : j < l.length
  · obtain ⟨c', g1, g2, g3⟩ := h j h1
    exact ⟨c', by rw [tdk_left hl h1]; exact g1, g2, by rw [List.getElem_append_left h1]; exact g3⟩
  · have h2 : j = l.length := by simp at hj; omega
    subst h2
    exact ⟨c, tdk_right hl (by rw [Array.length_toList]; exact hc), hc, by simpa using hx⟩
theorem cells_partk {A : View} {k b off N i : Nat} {vs : List Value} (h : A.cells? ⟨b, off, none⟩ 0 N = some vs) (hi : i * k + k ≤ N) : A.cells? ((Addr.mk b off none).add (i * k)) 0 k = some ((vs.drop (i * k)).take k) := by
  have hl := cells?_length _ _ _ h
  refine cells?_intro _ _ _ (by rw [List.length_take, List.length_drop]; omega) fun j hj => ?_
  have := cells?_get _ _ _ h (i * k + j) (by omega)
  rw [Nat.zero_add, addr_add] at this
  rw [addr_add, Nat.zero_add, addr_add, Nat.add_assoc, this, List.getElem?_take_of_lt hj, List.getElem?_drop]
theorem Own.elems {D0 D : View} {t : TypeId} {k : Nat} {v : Value} {α : Type} {l : List α} {cs : List Value} {Q : View → α → Array Value → Prop} (h : Own D0 D t k v l.length cs) (hp : Parts k cs l (Q D)) : Elems D k v l Q := by
  obtain ⟨hs, ⟨rfl, h0⟩ | ⟨a, cap, rfl, hn⟩⟩ := h
  · exact ⟨none, 0, by rw [h0], fun j hj => by omega⟩
  · refine ⟨some a, cap, rfl, fun j hj => ?_⟩
    obtain ⟨c, _, hsp, _, _, hcs⟩ := sliceIn_block hs
    obtain ⟨blk, off, sp⟩ := a
    simp only at hsp
    subst hsp
    obtain ⟨ci, h1, h2, h3⟩ := hp j hj
    refine ⟨_, ci, rfl, ?_, h3⟩
    rw [← h1]
    have : j * k + k ≤ l.length * k := by rw [← Nat.succ_mul]; exact Nat.mul_le_mul_right _ hj
    exact cells_partk hcs this
theorem Parts.le {k : Nat} {cs : List Value} {α : Type} {l : List α} {Q Q' : α → Array Value → Prop} (h : Parts k cs l Q) (hQ : ∀ x c, Q x c → Q' x c) : Parts k cs l Q' := fun j hj => let ⟨c, g1, g2, g3⟩ := h j hj; ⟨c, g1, g2, hQ _ _ g3⟩
theorem Own.clen {A0 A : View} {e : TypeId} {size n : Nat} {v : Value} {cs : List Value} (h : Own A0 A e size v n cs) : cs.length = n * size := by
  obtain ⟨b, c, rfl⟩ := h.shape
  exact sliceIn_length h.1
theorem own_block {A0 A : View} {e : TypeId} {size n : Nat} {u : Value} {cs : List Value} (h : Own A0 A e size u n cs) {b : Nat} (hb : A b = none) : blockOf u ≠ some b := by
  obtain ⟨h1, ⟨rfl, rfl⟩ | ⟨a, cap, rfl, hn⟩⟩ := h
  · simp [blockOf]
  · obtain ⟨c', h3, _⟩ := sliceIn_block h1
    intro hx
    simp only [blockOf, Option.some.injEq] at hx
    rw [hx, hb] at h3
    cases h3
theorem keep_erase {A0 D E D3 : View} {e : TypeId} {size n : Nat} {uv : Value} {cs : List Value} (hO : Own A0 D e size uv n cs) (hED : E ≤ D3) (hK : Keep (eraseB D uv) D E D3) : E ≤ eraseB D3 uv := fun b o hb => by
  by_cases hx : blockOf uv = some b
  · exfalso
    have h1 : eraseB D uv b = none := by
      cases he : eraseB D uv b with
      | none => rfl
      | some o' => exact absurd hx (eraseB_some he).1
    cases hd : D b with
    | none => exact own_block hO hd hx
    | some o' =>
      have := (hK b o' h1 hd).1
      rw [this] at hb; cases hb
  · rw [eraseB_apart hx]; exact hED _ _ hb

/-- A node and what lies in it. -/
inductive Tr where
  | mk (kind style : Int) (tag value anchor head line foot : ByteArray) (row col alias : Int) (kids : List Tr)
abbrev trc (k st : Int) (tag val an h l f : ByteArray) (row col al : Int) (kv : Value) : Array Value := #[.int .i64 k, .int .i64 st, .string tag, .string val, .string an, .string h, .string l, .string f, .int .i64 row, .int .i64 col, .int .i64 al, kv]
def Tr.kids : Tr → List Tr
  | .mk _ _ _ _ _ _ _ _ _ _ _ l => l
def Tr.kind : Tr → Int
  | .mk k _ _ _ _ _ _ _ _ _ _ _ => k
def Tr.tag : Tr → ByteArray
  | .mk _ _ t _ _ _ _ _ _ _ _ _ => t
def Tr.value : Tr → ByteArray
  | .mk _ _ _ v _ _ _ _ _ _ _ _ => v
/-- A node of the thin package's, in its twelve cells. -/
def IsTr (A : View) : Tr → Array Value → Prop
  | .mk k st tag val an h l f row col al kids, c => ∃ bs cap, c = trc k st tag val an h l f row col al (.slice bs kids.length cap) ∧
      ∀ j (hj : j < kids.length), ∃ a c', bs = some a ∧ A.cells? (a.add (j * 12)) 0 12 = some c'.toList ∧ IsTr A (kids[j]) c'
termination_by v => SizeOf.sizeOf v
decreasing_by
  have := List.sizeOf_lt_of_mem (List.getElem_mem hj)
  simp
  omega
theorem IsTr.le {A B : View} (hle : A ≤ B) : ∀ (v : Tr) (c : Array Value), IsTr A v c → IsTr B v c
  | .mk k st tag val an h l f row col al kids, c, hh => by
    rw [IsTr] at hh ⊢
    obtain ⟨bs, cap, h1, h2⟩ := hh
    refine ⟨bs, cap, h1, fun j hj => ?_⟩
    obtain ⟨a, c', h5, h6, h7⟩ := h2 j hj
    exact ⟨a, c', h5, le_cells hle _ _ _ h6, IsTr.le hle _ _ h7⟩
termination_by v => SizeOf.sizeOf v
decreasing_by
  have := List.sizeOf_lt_of_mem (List.getElem_mem hj)
  simp
  omega
abbrev Trs (A : View) (v : Value) (l : List Tr) : Prop := Elems A 12 v l IsTr
theorem Trs.le {A B : View} (h : A ≤ B) {v : Value} {l : List Tr} (e : Trs A v l) : Trs B v l := Elems.le (fun _ _ g => IsTr.le h _ _ g) h e
theorem IsTr.open {A : View} {k st : Int} {tag val an h l f : ByteArray} {row col al : Int} {kids : List Tr} {c : Array Value} (e : IsTr A (.mk k st tag val an h l f row col al kids) c) :
    ∃ bs cap, c = trc k st tag val an h l f row col al (.slice bs kids.length cap) ∧ Trs A (.slice bs kids.length cap) kids := by
  rw [IsTr] at e
  obtain ⟨bs, cap, h1, h2⟩ := e
  exact ⟨bs, cap, h1, bs, cap, rfl, h2⟩
theorem IsTr.of {A : View} {k st : Int} {tag val an h l f : ByteArray} {row col al : Int} {kids : List Tr} {kv : Value} (e : Trs A kv kids) : IsTr A (.mk k st tag val an h l f row col al kids) (trc k st tag val an h l f row col al kv) := by
  obtain ⟨bs, cap, rfl, h2⟩ := e
  rw [IsTr]
  exact ⟨bs, cap, rfl, h2⟩
theorem IsTr.size {A : View} {t : Tr} {c : Array Value} (e : IsTr A t c) : c.size = 12 := by
  obtain ⟨k, st, tag, val, an, h, l, f, row, col, al, kids⟩ := t
  obtain ⟨bs, cap, rfl, -⟩ := e.open
  rfl
theorem IsTr.ones {A : View} {t : Tr} {c : Array Value} (e : IsTr A t c) : ones c = true := by
  obtain ⟨k, st, tag, val, an, h, l, f, row, col, al, kids⟩ := t
  obtain ⟨bs, cap, rfl, -⟩ := e.open
  rfl
/-- All texts and lists of a tree are of such a size. -/
def SB : Tr → Prop
  | .mk k st tag val an h l f row col al kids => (tag.size ≤ 1125899906842624 ∧ val.size ≤ 1125899906842624 ∧ an.size ≤ 1125899906842624 ∧ h.size ≤ 1125899906842624 ∧ l.size ≤ 1125899906842624 ∧ f.size ≤ 1125899906842624) ∧ (∀ j (hj : j < kids.length), SB (kids[j])) ∧ kids.length ≤ 1125899906842624
termination_by v => SizeOf.sizeOf v
decreasing_by
  have := List.sizeOf_lt_of_mem (List.getElem_mem hj)
  simp
  omega
theorem SB.open {k st : Int} {tag val an h l f : ByteArray} {row col al : Int} {kids : List Tr} (e : SB (.mk k st tag val an h l f row col al kids)) : (tag.size ≤ 1125899906842624 ∧ val.size ≤ 1125899906842624 ∧ an.size ≤ 1125899906842624 ∧ h.size ≤ 1125899906842624 ∧ l.size ≤ 1125899906842624 ∧ f.size ≤ 1125899906842624) ∧ ∀ x ∈ kids, SB x := by
  rw [SB] at e
  refine ⟨e.1, fun x hx => ?_⟩
  obtain ⟨j, hj, rfl⟩ := List.getElem_of_mem hx
  exact e.2.1 j hj
theorem SB.mk' {k st : Int} {tag val an h l f : ByteArray} {row col al : Int} {kids : List Tr} (e : tag.size ≤ 1125899906842624 ∧ val.size ≤ 1125899906842624 ∧ an.size ≤ 1125899906842624 ∧ h.size ≤ 1125899906842624 ∧ l.size ≤ 1125899906842624 ∧ f.size ≤ 1125899906842624) (hk : ∀ x ∈ kids, SB x) (hl : kids.length ≤ 1125899906842624) : SB (.mk k st tag val an h l f row col al kids) := by
  rw [SB]
  exact ⟨e, fun j hj => hk _ (List.getElem_mem hj), hl⟩
theorem SB.len {t : Tr} (e : SB t) : t.kids.length ≤ 1125899906842624 := by
  obtain ⟨k, st, tag, val, an, h, l, f, row, col, al, kids⟩ := t
  rw [SB] at e
  exact e.2.2
theorem SB.kid {t x : Tr} (e : SB t) (h : x ∈ t.kids) : SB x := by
  obtain ⟨k, st, tag, val, an, h, l, f, row, col, al, kids⟩ := t
  exact e.open.2 x h
section
variable {H : Type} {enc : TypeId × Value → H} {W : World} {base : Nat} {spare : Nat → Bool} {held : Bool}
theorem weightsAll_mem {P : Program} {e : TypeId} {n : Nat} : ∀ {l : List (DataW H)} {d : DataW H}, d ∈ l → n ∈ d.weights P e → n ∈ DataW.weightsAll P e l
  | [], _, h, _ => by cases h
  | a :: l, d, h, hn => by
    rw [DataW.weightsAll, List.mem_append]
    rcases List.mem_cons.1 h with h | h
    · subst h; exact .inl hn
    · exact .inr (weightsAll_mem h hn)
theorem list12 {α : Type} {l : List α} (h : l.length = 12) : ∃ c0 c1 c2 c3 c4 c5 c6 c7 c8 c9 c10 c11, l = [c0, c1, c2, c3, c4, c5, c6, c7, c8, c9, c10, c11] := by
  match l, h with
  | [c0, c1, c2, c3, c4, c5, c6, c7, c8, c9, c10, c11], _ => exact ⟨c0, c1, c2, c3, c4, c5, c6, c7, c8, c9, c10, c11, rfl⟩
theorem opn_textk {P : Program} {t : TypeId} (ht : P.underlying t = some .string) {fuel : Nat} {c : Value} {x : DataW H × List MemPlace} (h : DataW.trod enc P W base spare held fuel t [c] = some x) (hz : ∀ n ∈ x.1.weights P t, n ≤ reachBytes) : ∃ s, c = .string s ∧ s.size ≤ 1125899906842624 := by
  obtain ⟨s, e, e8, _⟩ := DataW.trod_string ht h
  refine ⟨s, (List.cons.inj e).1, ?_⟩
  have h7 := hz s.data.toList.length (by rw [e8]; simp [DataW.weights])
  have : s.data.toList.length = s.size := by rw [Array.length_toList]; rfl
  rw [this] at h7
  exact Nat.le_trans h7 (by decide)
theorem opn_tr : ∀ (fuel : Nat) (cs : List Value) (x : DataW H × List MemPlace), DataW.trod enc Try.prog W base spare held fuel 24 cs = some x → (∀ n ∈ x.1.weights Try.prog 24, n ≤ reachBytes) → ∃ y : Tr, IsTr (full W) y cs.toArray ∧ SB y := by
  intro fuel
  induction fuel using Nat.strongRecOn with
  | _ fuel ih =>
  intro cs x h hz
  obtain ⟨xs, n, hf, hxe, hl, hxl, hx⟩ := DataW.trod_struct Try.underlying24 h
  rw [show Try.prog.cellsOf 24 = 12 by kernel_rfl] at hl
  have hxl : xs.length = 12 := hxl
  obtain ⟨c0, c1, c2, c3, c4, c5, c6, c7, c8, c9, c10, c11, rfl⟩ := list12 hl
  have sm : ∀ (i : Nat) (t : TypeId) (c : Value) (hi : i < xs.length), DataW.trod enc Try.prog W base spare held n t [c] = xs[i]? → DataW.trod enc Try.prog W base spare held n t [c] = some xs[i] := fun i t c hi h => h.trans (List.getElem?_eq_getElem hi)
  have z3 : Try.prog.cellsOf 3 = 1 := by kernel_rfl
  have z9 : Try.prog.cellsOf 9 = 1 := by kernel_rfl
  have zk : Try.prog.cellsOf 22 = 1 := by kernel_rfl
  have h0 := sm 0 3 c0 (by omega) (by have := hx 0 _ rfl; simpa [z3, z9, zk] using this)
  have h1 := sm 1 3 c1 (by omega) (by have := hx 1 _ rfl; simpa [z3, z9, zk] using this)
  have h2 := sm 2 9 c2 (by omega) (by have := hx 2 _ rfl; simpa [z3, z9, zk] using this)
  have h3 := sm 3 9 c3 (by omega) (by have := hx 3 _ rfl; simpa [z3, z9, zk] using this)
  have h4 := sm 4 9 c4 (by omega) (by have := hx 4 _ rfl; simpa [z3, z9, zk] using this)
  have h5 := sm 5 9 c5 (by omega) (by have := hx 5 _ rfl; simpa [z3, z9, zk] using this)
  have h6 := sm 6 9 c6 (by omega) (by have := hx 6 _ rfl; simpa [z3, z9, zk] using this)
  have h7 := sm 7 9 c7 (by omega) (by have := hx 7 _ rfl; simpa [z3, z9, zk] using this)
  have h8 := sm 8 3 c8 (by omega) (by have := hx 8 _ rfl; simpa [z3, z9, zk] using this)
  have h9 := sm 9 3 c9 (by omega) (by have := hx 9 _ rfl; simpa [z3, z9, zk] using this)
  have h10 := sm 10 3 c10 (by omega) (by have := hx 10 _ rfl; simpa [z3, z9, zk] using this)
  have h11 := sm 11 22 c11 (by omega) (by have := hx 11 _ rfl; simpa [z3, z9, zk] using this)
  have wt : ∀ (i : Nat) (t : TypeId) (hi : i < xs.length), ([3, 3, 9, 9, 9, 9, 9, 9, 3, 3, 3, 22] : List TypeId)[i]? = some t → ∀ n ∈ xs[i].1.weights Try.prog t, n ≤ reachBytes := fun i t hi ht n hn => by
    refine hz n ?_
    rw [hxe]
    simp only [DataW.weights, Try.underlying24]
    exact DataW.weights_mem_each (j := i) (t := t) (d := xs[i].1) ht (by rw [List.getElem?_map, List.getElem?_eq_getElem hi]; rfl) n hn
  have w2 := wt 2 9 (by omega) rfl
  have w3 := wt 3 9 (by omega) rfl
  have w4 := wt 4 9 (by omega) rfl
  have w5 := wt 5 9 (by omega) rfl
  have w6 := wt 6 9 (by omega) rfl
  have w7 := wt 7 9 (by omega) rfl
  have w11 := wt 11 22 (by omega) rfl
  clear hx sm wt
  obtain ⟨i0, e0, -⟩ := DataW.trod_int Try.underlying3 h0
  obtain rfl := (List.cons.inj e0).1
  obtain ⟨i1, e1, -⟩ := DataW.trod_int Try.underlying3 h1
  obtain rfl := (List.cons.inj e1).1
  obtain ⟨i8, e8, -⟩ := DataW.trod_int Try.underlying3 h8
  obtain rfl := (List.cons.inj e8).1
  obtain ⟨i9, e9, -⟩ := DataW.trod_int Try.underlying3 h9
  obtain rfl := (List.cons.inj e9).1
  obtain ⟨i10, e10, -⟩ := DataW.trod_int Try.underlying3 h10
  obtain rfl := (List.cons.inj e10).1
  obtain ⟨s2, rfl, b2⟩ := opn_textk Try.underlying9 h2 w2
  obtain ⟨s3, rfl, b3⟩ := opn_textk Try.underlying9 h3 w3
  obtain ⟨s4, rfl, b4⟩ := opn_textk Try.underlying9 h4 w4
  obtain ⟨s5, rfl, b5⟩ := opn_textk Try.underlying9 h5 w5
  obtain ⟨s6, rfl, b6⟩ := opn_textk Try.underlying9 h6 w6
  obtain ⟨s7, rfl, b7⟩ := opn_textk Try.underlying9 h7 w7
  rcases DataW.trod_slice Try.underlying22 h11 with ⟨e6, _⟩ | ⟨a, len, cap, elems, rest, m, hm, e6, ex, hb, hl, hmx, hlen, hel2, _, _⟩
  · obtain rfl := (List.cons.inj e6).1
    refine ⟨.mk i0 i1 s2 s3 s4 s5 s6 s7 i8 i9 i10 [], IsTr.of (Elems.nil _ _ _), ?_⟩
    rw [SB]
    exact ⟨⟨b2, b3, b4, b5, b6, b7⟩, fun j h => absurd h (Nat.not_lt_zero _), Nat.zero_le _⟩
  · obtain rfl := (List.cons.inj e6).1
    have each : ∀ i, i < len → ∃ y : Array Value × Tr, (full W).cells? (a.add (i * 12)) 0 12 = some y.1.toList ∧ IsTr (full W) y.2 y.1 ∧ SB y.2 := by
      intro i hi
      have h1 := hel2 i hi
      rw [List.getElem?_eq_getElem (by omega), Option.bind_eq_some_iff] at h1
      obtain ⟨cs, hcs, htr⟩ := h1
      rw [show Try.prog.cellsOf 24 = 12 by kernel_rfl] at hcs
      obtain ⟨y, hy, hky⟩ := ih m (by omega) _ _ htr fun n hn => w11 n (by
        rw [ex]
        simp only [DataW.weights, Try.underlying22]
        refine List.mem_cons_of_mem _ (List.mem_append.2 (.inl ?_))
        exact weightsAll_mem (List.mem_map.2 ⟨_, List.getElem_mem _, rfl⟩) hn)
      obtain ⟨_, hl1, hcell⟩ := World.cells?_some hcs
      refine ⟨(cs.toArray, y), ?_, hy, hky⟩
      refine cells?_intro _ _ _ hl1 fun j hj => ?_
      rw [Nat.zero_add]
      exact hcell j hj
    have w12 : len ≤ 1125899906842624 := by
      have := w11 ((elems.length + rest.length) * Try.prog.bytesOf 24) (by rw [ex]; simp only [DataW.weights, Try.underlying22, List.length_map]; exact List.mem_cons_self)
      rw [show Try.prog.bytesOf 24 = 160 by kernel_rfl, show reachBytes = 140737488351232 by rfl] at this
      omega
    obtain ⟨ys, hyl, hys⟩ := choose_list len _ each
    refine ⟨.mk i0 i1 s2 s3 s4 s5 s6 s7 i8 i9 i10 (ys.map (·.2)), IsTr.of ⟨some a, cap, by rw [List.length_map, hyl], fun j hj => ?_⟩, ?_⟩
    · have hj' : j < ys.length := by simpa using hj
      have := hys j _ (List.getElem?_eq_getElem hj')
      exact ⟨a, ys[j].1, rfl, this.1, by rw [List.getElem_map]; exact this.2.1⟩
    · rw [SB]
      refine ⟨⟨b2, b3, b4, b5, b6, b7⟩, fun j hj => ?_, by rw [List.length_map, hyl]; exact w12⟩
      have hj' : j < ys.length := by simpa using hj
      rw [List.getElem_map]
      exact (hys j _ (List.getElem?_eq_getElem hj')).2.2
/-- A list of nodes, with the sizes of their texts. -/
theorem opn_trs (fuel : Nat) (cs : List Value) (x : DataW H × List MemPlace) (h : DataW.trod enc Try.prog W base spare held fuel 22 cs = some x) (hz : ∀ n ∈ x.1.weights Try.prog 22, n ≤ reachBytes) : ∃ v l, cs = [v] ∧ Trs (full W) v l ∧ l.length ≤ 1125899906842624 ∧ ∀ t ∈ l, SB t := by
  rcases DataW.trod_slice Try.underlying22 h with ⟨e6, _⟩ | ⟨a, len, cap, elems, rest, m, hm, e6, ex, hb, hl, hmx, hlen, hel2, _, _⟩
  · exact ⟨_, [], e6, Elems.nil _ _ _, Nat.zero_le _, fun t ht => by cases ht⟩
  · have each : ∀ i, i < len → ∃ y : Array Value × Tr, (full W).cells? (a.add (i * 12)) 0 12 = some y.1.toList ∧ IsTr (full W) y.2 y.1 ∧ SB y.2 := by
      intro i hi
      have h1 := hel2 i hi
      rw [List.getElem?_eq_getElem (by omega), Option.bind_eq_some_iff] at h1
      obtain ⟨cs, hcs, htr⟩ := h1
      rw [show Try.prog.cellsOf 24 = 12 by kernel_rfl] at hcs
      obtain ⟨y, hy, hky⟩ := opn_tr m _ _ htr fun n hn => hz n (by
        rw [ex]
        simp only [DataW.weights, Try.underlying22]
        refine List.mem_cons_of_mem _ (List.mem_append.2 (.inl ?_))
        exact weightsAll_mem (List.mem_map.2 ⟨_, List.getElem_mem _, rfl⟩) hn)
      obtain ⟨_, hl1, hcell⟩ := World.cells?_some hcs
      refine ⟨(cs.toArray, y), ?_, hy, hky⟩
      refine cells?_intro _ _ _ hl1 fun j hj => ?_
      rw [Nat.zero_add]
      exact hcell j hj
    have w12 : len ≤ 1125899906842624 := by
      have := hz ((elems.length + rest.length) * Try.prog.bytesOf 24) (by rw [ex]; simp only [DataW.weights, Try.underlying22, List.length_map]; exact List.mem_cons_self)
      rw [show Try.prog.bytesOf 24 = 160 by kernel_rfl, show reachBytes = 140737488351232 by rfl] at this
      omega
    obtain ⟨ys, hyl, hys⟩ := choose_list len _ each
    refine ⟨_, ys.map (·.2), e6, ⟨some a, cap, by rw [List.length_map, hyl], fun j hj => ?_⟩, by rw [List.length_map, hyl]; exact w12, fun t ht => ?_⟩
    · have hj' : j < ys.length := by simpa using hj
      have := hys j _ (List.getElem?_eq_getElem hj')
      exact ⟨a, ys[j].1, rfl, this.1, by rw [List.getElem_map]; exact this.2.1⟩
    · obtain ⟨q, hq, rfl⟩ := List.mem_map.1 ht
      obtain ⟨j, hj, rfl⟩ := List.getElem_of_mem hq
      exact (hys j _ (List.getElem?_eq_getElem hj)).2.2
end
end Go.Proofs.YtpinamipjddobaaV

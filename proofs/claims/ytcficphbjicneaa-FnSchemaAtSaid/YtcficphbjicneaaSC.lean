/- Schemas: what the thin package's schema becomes. -/
import Derived.Test.YtcficphbjicneaaSB
import Derived.Test.YtcficphbjicneaaV8
namespace Go.Proofs.YtcficphbjicneaaV
open Go.RowKit
abbrev nl : Value := .slice none 0 0
abbrev br : ByteArray := ⟨#[91, 93]⟩
abbrev arr : ByteArray := ⟨#[97, 114, 114, 97, 121]⟩
abbrev obj : ByteArray := ⟨#[111, 98, 106, 101, 99, 116]⟩
abbrev sl1 (b : Nat) : Value := .slice (some ⟨b, 0, none⟩) 1 1
abbrev scv (u i nm fs : Value) : Array Value := #[u, i, nl, nm, fs, .bool false, .bool false, .bool false, .string ⟨#[]⟩, .string ⟨#[]⟩, nl]
abbrev osv (u i pr : Value) : Array Value := #[u, i, pr, .pointer none, .map none]
abbrev tx (A : View) (b : Nat) (s : ByteArray) : Prop := A b = some (.cells #[.string s] 9 (0, 0))
/-- A schema of the thin package's, for a path. -/
def SchV (A : View) (T : ByteArray) : List ByteArray → Array Value → Prop
  | [], c => ∃ u, c = scv (sl1 u) nl nl nl ∧ tx A u T
  | k :: p, c => (k = br ∧ ∃ u b c', c = scv (sl1 u) (sl1 b) nl nl ∧ tx A u arr ∧ A b = some (.cells c' 43 (0, 0)) ∧ c'.size = 11 ∧ SchV A T p c') ∨
      (k ≠ br ∧ ∃ u nm b c', c = scv (sl1 u) nl (sl1 nm) (sl1 b) ∧ tx A u obj ∧ tx A nm k ∧ A b = some (.cells c' 43 (0, 0)) ∧ c'.size = 11 ∧ SchV A T p c')
/-- The package's. -/
def OSV (A : View) (T : ByteArray) : List ByteArray → Array Value → Prop
  | [], c => ∃ u, c = osv (sl1 u) (.pointer none) (.map none) ∧ tx A u T
  | k :: p, c => (k = br ∧ ∃ u b c', c = osv (sl1 u) (.pointer (some ⟨b, 0, none⟩)) (.map none) ∧ tx A u arr ∧ A b = some (.cells c' 67 (0, 0)) ∧ c'.size = 5 ∧ OSV A T p c') ∨
      (k ≠ br ∧ ∃ u r c', c = osv (sl1 u) (.pointer none) (.map (some r)) ∧ tx A u obj ∧ Map A r (fun x => if x = k then some (.agg c') else none) ∧ c'.size = 5 ∧ OSV A T p c')
theorem Map.le {A B : View} (h : A ≤ B) {r : Nat} {f : ByteArray → Option Value} (m : Map A r f) : Map B r f := by
  obtain ⟨es, c, h1, h2, h3⟩ := m
  exact ⟨es, c, h _ _ h1, h2, h3⟩
theorem SchV.le {A B : View} {T : ByteArray} (h : A ≤ B) : ∀ (p : List ByteArray) (c : Array Value), SchV A T p c → SchV B T p c
  | [], c, ⟨u, h1, h2⟩ => ⟨u, h1, h _ _ h2⟩
  | k :: p, c, .inl ⟨h0, u, b, c', h1, h2, h3, h4, h5⟩ => .inl ⟨h0, u, b, c', h1, h _ _ h2, h _ _ h3, h4, SchV.le h p c' h5⟩
  | k :: p, c, .inr ⟨h0, u, nm, b, c', h1, h2, h3, h4, h5, h6⟩ => .inr ⟨h0, u, nm, b, c', h1, h _ _ h2, h _ _ h3, h _ _ h4, h5, SchV.le h p c' h6⟩
theorem OSV.le {A B : View} {T : ByteArray} (h : A ≤ B) : ∀ (p : List ByteArray) (c : Array Value), OSV A T p c → OSV B T p c
  | [], c, ⟨u, h1, h2⟩ => ⟨u, h1, h _ _ h2⟩
  | k :: p, c, .inl ⟨h0, u, b, c', h1, h2, h3, h4, h5⟩ => .inl ⟨h0, u, b, c', h1, h _ _ h2, h _ _ h3, h4, OSV.le h p c' h5⟩
  | k :: p, c, .inr ⟨h0, u, r, c', h1, h2, h3, h4, h5⟩ => .inr ⟨h0, u, r, c', h1, h _ _ h2, h3.le h, h4, OSV.le h p c' h5⟩
def Got (A : View) (T : ByteArray) (p : List ByteArray) (r : Value) (A' : View) : Prop :=
  ∃ b c', r = .tuple #[.pointer (some ⟨b, 0, none⟩), .bool true] ∧ A' b = some (.cells c' 67 (0, 0)) ∧ c'.size = 5 ∧ OSV A' T p c' ∧ A ≤ A'
def SofH (T : ByteArray) (p : List ByteArray) : Prop := ∀ (A : View) (c : Array Value) (d : Nat), SchV A T p c → d + p.length ≤ 12 → VCalls Try.prog 34 #[.agg c, .int .i64 d] A fun r A' => Got A T p r A'
theorem SchV.one {A : View} {T : ByteArray} : ∀ (p : List ByteArray) (c : Array Value), SchV A T p c → ∀ v ∈ c.toList, one v = true
  | [], c, ⟨u, h1, _⟩ => by subst h1; simp [Go.Proofs.YtcficphbjicneaaV.one]
  | k :: p, c, .inl ⟨_, u, b, c', h1, _⟩ => by subst h1; simp [Go.Proofs.YtcficphbjicneaaV.one]
  | k :: p, c, .inr ⟨_, u, nm, b, c', h1, _⟩ => by subst h1; simp [Go.Proofs.YtcficphbjicneaaV.one]
theorem ne_of_none {A : View} {k m : Nat} {o : Obj} (h : A k = some o) (hm : A m = none) : k ≠ m := fun hx => by rw [hx, hm] at h; cases h
set_option maxHeartbeats 4000000 in
theorem sof_nil (A : View) (T : ByteArray) (u d : Nat) (hu : tx A u T) (hd : d ≤ 12) : VCalls Try.prog 34 #[.agg (scv (sl1 u) nl nl nl), .int .i64 d] A fun r A' => Got A T [] r A' := by
  refine xcalls Try.func34 rfl (by simp [Try.ntmps34]) ?_
  simp only [Try.f34]
  refine xc_step fun C hC => ?_
  simp [go_sem, xnew, Value.cells]
  intro m hm
  subst hC
  have hM := set_at A m (.cells (scv (sl1 u) nl nl nl) 43)
  have L : A ≤ A.set m (.cells (scv (sl1 u) nl nl nl) 43) := le_set hm
  generalize A.set m (.cells (scv (sl1 u) nl nl nl) 43) = B at hM L
  have c0 := cell_of hM (i := 0) rfl
  have c1 := cell_of hM (i := 1) rfl
  have c2 := cell_of hM (i := 2) rfl
  have c3 := cell_of hM (i := 3) rfl
  have c4 := cell_of hM (i := 4) rfl
  have hdd : ¬ 12 < d := by omega
  have hdi : ¬ (12 : Int) < d := by omega
  refine xc_step fun C hC => ?_
  rw [xc_seq]
  refine xc_reg 29 rfl fun K hK => ?_
  simp only [show (List.range 29).map (·, true) = [(0, true), (1, true), (2, true), (3, true), (4, true), (5, true), (6, true), (7, true), (8, true), (9, true), (10, true), (11, true), (12, true), (13, true), (14, true), (15, true), (16, true), (17, true), (18, true), (19, true), (20, true), (21, true), (22, true), (23, true), (24, true), (25, true), (26, true), (27, true), (28, true)] from rfl, rslv_cons, rslv_nil, List.getElem?_toArray, List.getElem?_cons_zero, List.getElem?_cons_succ, gres]
  (repeat (refine seqX_hide fun R hR => ?_; simp [go_sem, xfieldAt, xlen, vload, xbin, eqPlain, wantR, undef, c1, c2, c3, c4, hdd, hdi]; subst hR))
  rw [seqX_nil]
  refine hK _ _ _ ?_
  simp [go_sem]
  subst hC
  clear hK
  refine xc_step fun C hC => ?_
  simp [go_sem, xfieldAt, vload, c0, xbuild, Instr.fill, xnew, Value.cells]
  intro b hbn
  subst hC
  have hbA : A b = none := none_le L hbn
  have dmb : m ≠ b := ne_of_none hM hbn
  have hB := set_at B b (.cells (osv (sl1 u) (.pointer none) (.map none)) 67)
  have L2 : A ≤ B.set b (.cells (osv (sl1 u) (.pointer none) (.map none)) 67) := View.le_trans L (le_set hbn)
  have hM2 : (B.set b (.cells (osv (sl1 u) (.pointer none) (.map none)) 67)) m = some (.cells (scv (sl1 u) nl nl nl) 43 (0, 0)) := by rw [set_other dmb]; exact hM
  clear c0 c1 c2 c3 c4 hM L hbn
  generalize B.set b (.cells (osv (sl1 u) (.pointer none) (.map none)) 67) = B2 at hB L2 hM2
  have c3 := cell_of hM2 (i := 3) rfl
  have c4 := cell_of hM2 (i := 4) rfl
  refine xc_step fun C hC => ?_
  simp [go_sem, xfieldAt, vload, c3, xlen]
  refine vrounds 1 ?_
  refine vround fun J X hJ hX => ?_
  refine xc_step fun C2 hC2 => ?_
  simp [go_sem, xbin, eqPlain]
  subst hC2
  refine xc_step fun C2 hC2 => ?_
  simp [go_sem]
  refine hX _ _ _ _ ?_
  simp [go_sem]
  subst hC
  clear hJ hX c3 c4
  have c1 := cell_of hM2 (i := 1) rfl
  refine xc_step fun C hC => ?_
  simp [go_sem, xfieldAt, vload, c1, xlen]
  refine vrounds 1 ?_
  refine vround fun J X hJ hX => ?_
  refine xc_step fun C2 hC2 => ?_
  simp [go_sem, xbin, eqPlain]
  subst hC2
  refine xc_step fun C2 hC2 => ?_
  simp [go_sem]
  refine hX _ _ _ _ ?_
  simp [go_sem]
  subst hC
  clear hJ hX c1
  have c2 := cell_of hM2 (i := 2) rfl
  have c5 := cell_of hM2 (i := 5) rfl
  have c6 := cell_of hM2 (i := 6) rfl
  have c7 := cell_of hM2 (i := 7) rfl
  refine xc_step fun C hC => ?_
  simp [go_sem, xfieldAt, vload, c2, xlen]
  refine vrounds 1 ?_
  refine vround fun J X hJ hX => ?_
  refine xc_step fun C2 hC2 => ?_
  simp [go_sem, xbin, eqPlain]
  subst hC2
  refine xc_step fun C2 hC2 => ?_
  simp [go_sem]
  refine hX _ _ _ _ ?_
  simp [go_sem]
  subst hC
  clear hJ hX
  refine xc_step fun C hC => ?_
  simp [go_sem, xnew]
  intro r2 hr2
  subst hC
  have hR2 := set_at B2 r2 (.map #[] 0)
  have L3 : B2 ≤ B2.set r2 (.map #[] 0) := le_set hr2
  generalize B2.set r2 (.map #[] 0) = B3 at hR2 L3
  have c5 := le_cell L3 c5
  have c6 := le_cell L3 c6
  have c7 := le_cell L3 c7
  refine xc_step fun C hC => ?_
  simp [go_sem, xfieldAt, vload, c5]
  subst hC
  refine xc_step fun C hC => ?_
  simp [go_sem, xfieldAt, vload, c6]
  subst hC
  refine xc_step fun C hC => ?_
  simp [go_sem, xfieldAt, vload, c7]
  subst hC
  refine xc_step fun C hC => ?_
  simp [go_sem, xlen, mapAt, hR2, xbin, eqPlain]
  subst hC
  simp [go_sem]
  exact ⟨b, _, rfl, L3 _ _ hB, rfl, ⟨u, rfl, L3 _ _ (L2 _ _ hu)⟩, View.le_trans L2 L3⟩
set_option maxHeartbeats 4000000 in
theorem sof_br (A : View) (T : ByteArray) (u d : Nat) (p : List ByteArray) (ih : SofH T p) (bx : Nat) (cx : Array Value) (hu : tx A u arr) (hx : A bx = some (.cells cx 43 (0, 0))) (hz : cx.size = 11) (hS : SchV A T p cx) (hd : d + (p.length + 1) ≤ 12) : VCalls Try.prog 34 #[.agg (scv (sl1 u) (sl1 bx) nl nl), .int .i64 d] A fun r A' => Got A T (br :: p) r A' := by
  refine xcalls Try.func34 rfl (by simp [Try.ntmps34]) ?_
  simp only [Try.f34]
  refine xc_step fun C hC => ?_
  simp [go_sem, xnew, Value.cells]
  intro m hm
  subst hC
  have hM := set_at A m (.cells (scv (sl1 u) (sl1 bx) nl nl) 43)
  have L : A ≤ A.set m (.cells (scv (sl1 u) (sl1 bx) nl nl) 43) := le_set hm
  generalize A.set m (.cells (scv (sl1 u) (sl1 bx) nl nl) 43) = B at hM L
  have c0 := cell_of hM (i := 0) rfl
  have c1 := cell_of hM (i := 1) rfl
  have c2 := cell_of hM (i := 2) rfl
  have c3 := cell_of hM (i := 3) rfl
  have c4 := cell_of hM (i := 4) rfl
  have hdd : ¬ 12 < d := by omega
  have hdi : ¬ (12 : Int) < d := by omega
  refine xc_step fun C hC => ?_
  rw [xc_seq]
  refine xc_reg 29 rfl fun K hK => ?_
  simp only [show (List.range 29).map (·, true) = [(0, true), (1, true), (2, true), (3, true), (4, true), (5, true), (6, true), (7, true), (8, true), (9, true), (10, true), (11, true), (12, true), (13, true), (14, true), (15, true), (16, true), (17, true), (18, true), (19, true), (20, true), (21, true), (22, true), (23, true), (24, true), (25, true), (26, true), (27, true), (28, true)] from rfl, rslv_cons, rslv_nil, List.getElem?_toArray, List.getElem?_cons_zero, List.getElem?_cons_succ, gres]
  (repeat (refine seqX_hide fun R hR => ?_; simp [go_sem, xfieldAt, xlen, vload, xbin, eqPlain, wantR, undef, c1, c2, c3, c4, hdd, hdi]; subst hR))
  rw [seqX_nil]
  refine hK _ _ _ ?_
  simp [go_sem]
  subst hC
  clear hK
  refine xc_step fun C hC => ?_
  simp [go_sem, xfieldAt, vload, c0, xbuild, Instr.fill, xnew, Value.cells]
  intro b hbn
  subst hC
  have hbA : A b = none := none_le L hbn
  have dmb : m ≠ b := ne_of_none hM hbn
  have hB := set_at B b (.cells (osv (sl1 u) (.pointer none) (.map none)) 67)
  have L2 : A ≤ B.set b (.cells (osv (sl1 u) (.pointer none) (.map none)) 67) := View.le_trans L (le_set hbn)
  have hM2 : (B.set b (.cells (osv (sl1 u) (.pointer none) (.map none)) 67)) m = some (.cells (scv (sl1 u) (sl1 bx) nl nl) 43 (0, 0)) := by rw [set_other dmb]; exact hM
  clear c0 c1 c2 c3 c4 hM L hbn
  generalize B.set b (.cells (osv (sl1 u) (.pointer none) (.map none)) 67) = B2 at hB L2 hM2
  have c3 := cell_of hM2 (i := 3) rfl
  have c4 := cell_of hM2 (i := 4) rfl
  refine xc_step fun C hC => ?_
  simp [go_sem, xfieldAt, vload, c3, xlen]
  refine vrounds 1 ?_
  refine vround fun J X hJ hX => ?_
  refine xc_step fun C2 hC2 => ?_
  simp [go_sem, xbin, eqPlain]
  subst hC2
  refine xc_step fun C2 hC2 => ?_
  simp [go_sem]
  refine hX _ _ _ _ ?_
  simp [go_sem]
  subst hC
  clear hJ hX c3 c4
  have c1 := cell_of hM2 (i := 1) rfl
  refine xc_step fun C hC => ?_
  simp [go_sem, xfieldAt, vload, c1, xlen]
  refine vrounds 2 ?_
  refine vround fun J X hJ hX => ?_
  refine xc_step fun C2 hC2 => ?_
  simp [go_sem, xbin, eqPlain]
  subst hC2
  refine xc_step fun C2 hC2 => ?_
  simp [go_sem]
  subst hC2
  refine xc_step fun C2 hC2 => ?_
  rw [xc_seq, xc_block]
  have hw : IntKind.i64.wrap ((d : Int) + 1) = (d : Int) + 1 := by have := wrap_nat (i := d) (by omega); rw [this]; omega
  have w1 : IntKind.i64.wrap 1 = 1 := by decide
  have ih' : VCalls Try.prog 34 #[.agg cx, .int .i64 ((d : Int) + 1)] A fun r A' => Got A T p r A' := by
    have := ih A cx (d + 1) hS (by omega)
    rwa [show ((d + 1 : Nat) : Int) = (d : Int) + 1 by omega] at this
  have hmA : A m = none := hm
  refine xc_step fun C3 hC3 => ?_
  have gx := cells_block (L2 _ _ hx) hz
  simp [go_sem, xindexAt, vload, gx, xnew, zeroOf, Value.cells]
  intro m2 hm2
  have hm2A : A m2 = none := none_le L2 hm2
  have hst := xstore_agg (P := Try.prog) (vs := cx) ti43 hz (set_at B2 m2 (.cells (scv nl nl nl nl) 43)) (by rw [hz]; rfl) (SchV.one p cx hS)
  rw [set_set] at hst
  have gm2 := cells_block (set_at B2 m2 (.cells cx 43)) hz
  have hM3 : (B2.set m2 (.cells cx 43)) m = some (.cells (scv (sl1 u) (sl1 bx) nl nl) 43 (0, 0)) := by rw [set_other (ne_of_none hM2 hm2)]; exact hM2
  have hB3 : (B2.set m2 (.cells cx 43)) b = some (.cells (osv (sl1 u) (.pointer none) (.map none)) 67 (0, 0)) := by rw [set_other (ne_of_none hB hm2)]; exact hB
  have L3 : A ≤ B2.set m2 (.cells cx 43) := View.le_trans L2 (le_set hm2)
  simp [hst, onS_some]
  subst hC3
  clear hst gx
  refine xc_step fun C3 hC3 => ?_
  simp [go_sem, vload, gm2, xbin, eqPlain, hw]
  refine (calls_base ih' L3).mono ?_
  rintro _ B4 ⟨D, ⟨b', cx', rfl, hb', hz', hO, hAD⟩, hDB, hkeep⟩
  obtain ⟨hDm, hM4⟩ := hkeep m _ hmA hM3
  obtain ⟨hDb, hB4⟩ := hkeep b _ hbA hB3
  simp [go_sem]
  subst hC3
  refine xc_step fun C3 hC3 => ?_
  simp [go_sem, xunop]
  subst hC3
  have hst : xstore Try.prog 57 (.pointer (some ⟨b, 1, none⟩)) (.pointer (some ⟨b', 0, none⟩)) B4 = some (B4.set b (.cells (osv (sl1 u) (.pointer (some ⟨b', 0, none⟩)) (.map none)) 67 (0, 0))) := xstore_field ti57 hB4 (by simp) rfl
  simp [go_sem, xnil, xfieldAt, hst]
  subst hC2
  simp [go_sem, xbin, eqPlain, w1]
  have hB5 := set_at B4 b (.cells (osv (sl1 u) (.pointer (some ⟨b', 0, none⟩)) (.map none)) 67 (0, 0))
  have hM5 : (B4.set b (.cells (osv (sl1 u) (.pointer (some ⟨b', 0, none⟩)) (.map none)) 67 (0, 0))) m = some (.cells (scv (sl1 u) (sl1 bx) nl nl) 43 (0, 0)) := by rw [set_other dmb]; exact hM4
  have hD5 : D ≤ B4.set b (.cells (osv (sl1 u) (.pointer (some ⟨b', 0, none⟩)) (.map none)) 67 (0, 0)) := le_set' hDB hDb
  generalize B4.set b (.cells (osv (sl1 u) (.pointer (some ⟨b', 0, none⟩)) (.map none)) 67 (0, 0)) = B5 at hB5 hM5 hD5
  refine hJ _ _ _ ?_
  clear hJ hX
  refine vround fun J X hJ hX => ?_
  refine xc_step fun C2 hC2 => ?_
  simp [go_sem, xbin, eqPlain]
  subst hC2
  refine xc_step fun C2 hC2 => ?_
  simp [go_sem]
  refine hX _ _ _ _ ?_
  simp [go_sem]
  subst hC
  clear hJ hX
  have c2 := cell_of hM5 (i := 2) rfl
  have c5 := cell_of hM5 (i := 5) rfl
  have c6 := cell_of hM5 (i := 6) rfl
  have c7 := cell_of hM5 (i := 7) rfl
  refine xc_step fun C hC => ?_
  simp [go_sem, xfieldAt, vload, c2, xlen]
  refine vrounds 1 ?_
  refine vround fun J X hJ hX => ?_
  refine xc_step fun C2 hC2 => ?_
  simp [go_sem, xbin, eqPlain]
  subst hC2
  refine xc_step fun C2 hC2 => ?_
  simp [go_sem]
  refine hX _ _ _ _ ?_
  simp [go_sem]
  subst hC
  clear hJ hX
  refine xc_step fun C hC => ?_
  simp [go_sem, xnew]
  intro r2 hr2
  subst hC
  have hR2 := set_at B5 r2 (.map #[] 0)
  have L6 : B5 ≤ B5.set r2 (.map #[] 0) := le_set hr2
  generalize B5.set r2 (.map #[] 0) = B3 at hR2 L6
  have c5 := le_cell L6 c5
  have c6 := le_cell L6 c6
  have c7 := le_cell L6 c7
  refine xc_step fun C hC => ?_
  simp [go_sem, xfieldAt, vload, c5]
  subst hC
  refine xc_step fun C hC => ?_
  simp [go_sem, xfieldAt, vload, c6]
  subst hC
  refine xc_step fun C hC => ?_
  simp [go_sem, xfieldAt, vload, c7]
  subst hC
  refine xc_step fun C hC => ?_
  simp [go_sem, xlen, mapAt, hR2, xbin, eqPlain]
  subst hC
  simp [go_sem]
  exact ⟨b, _, rfl, L6 _ _ hB5, rfl, .inl ⟨rfl, u, b', cx', rfl, L6 _ _ (hD5 _ _ (hAD _ _ hu)), L6 _ _ (hD5 _ _ hb'), hz', OSV.le (View.le_trans hD5 L6) p cx' hO⟩, View.le_trans hAD (View.le_trans hD5 L6)⟩
set_option maxHeartbeats 4000000 in
theorem sof_k (A : View) (T : ByteArray) (u d : Nat) (k : ByteArray) (p : List ByteArray) (ih : SofH T p) (bn bx : Nat) (cx : Array Value) (hk : k ≠ br) (hu : tx A u obj) (hn : tx A bn k) (hx : A bx = some (.cells cx 43 (0, 0))) (hz : cx.size = 11) (hS : SchV A T p cx) (hd : d + (p.length + 1) ≤ 12) : VCalls Try.prog 34 #[.agg (scv (sl1 u) nl (sl1 bn) (sl1 bx)), .int .i64 d] A fun r A' => Got A T (k :: p) r A' := by
  refine xcalls Try.func34 rfl (by simp [Try.ntmps34]) ?_
  simp only [Try.f34]
  refine xc_step fun C hC => ?_
  simp [go_sem, xnew, Value.cells]
  intro m hm
  subst hC
  have hM := set_at A m (.cells (scv (sl1 u) nl (sl1 bn) (sl1 bx)) 43)
  have L : A ≤ A.set m (.cells (scv (sl1 u) nl (sl1 bn) (sl1 bx)) 43) := le_set hm
  generalize A.set m (.cells (scv (sl1 u) nl (sl1 bn) (sl1 bx)) 43) = B at hM L
  have c0 := cell_of hM (i := 0) rfl
  have c1 := cell_of hM (i := 1) rfl
  have c2 := cell_of hM (i := 2) rfl
  have c3 := cell_of hM (i := 3) rfl
  have c4 := cell_of hM (i := 4) rfl
  have hdd : ¬ 12 < d := by omega
  have hdi : ¬ (12 : Int) < d := by omega
  refine xc_step fun C hC => ?_
  rw [xc_seq]
  refine xc_reg 29 rfl fun K hK => ?_
  simp only [show (List.range 29).map (·, true) = [(0, true), (1, true), (2, true), (3, true), (4, true), (5, true), (6, true), (7, true), (8, true), (9, true), (10, true), (11, true), (12, true), (13, true), (14, true), (15, true), (16, true), (17, true), (18, true), (19, true), (20, true), (21, true), (22, true), (23, true), (24, true), (25, true), (26, true), (27, true), (28, true)] from rfl, rslv_cons, rslv_nil, List.getElem?_toArray, List.getElem?_cons_zero, List.getElem?_cons_succ, gres]
  (repeat (refine seqX_hide fun R hR => ?_; simp [go_sem, xfieldAt, xlen, vload, xbin, eqPlain, wantR, undef, c1, c2, c3, c4, hdd, hdi]; subst hR))
  rw [seqX_nil]
  refine hK _ _ _ ?_
  simp [go_sem]
  subst hC
  clear hK
  refine xc_step fun C hC => ?_
  simp [go_sem, xfieldAt, vload, c0, xbuild, Instr.fill, xnew, Value.cells]
  intro b hbn
  subst hC
  have hbA : A b = none := none_le L hbn
  have dmb : m ≠ b := ne_of_none hM hbn
  have hB := set_at B b (.cells (osv (sl1 u) (.pointer none) (.map none)) 67)
  have L2 : A ≤ B.set b (.cells (osv (sl1 u) (.pointer none) (.map none)) 67) := View.le_trans L (le_set hbn)
  have hM2 : (B.set b (.cells (osv (sl1 u) (.pointer none) (.map none)) 67)) m = some (.cells (scv (sl1 u) nl (sl1 bn) (sl1 bx)) 43 (0, 0)) := by rw [set_other dmb]; exact hM
  clear c0 c1 c2 c3 c4 hM L hbn
  generalize B.set b (.cells (osv (sl1 u) (.pointer none) (.map none)) 67) = B2 at hB L2 hM2
  have c3 := cell_of hM2 (i := 3) rfl
  have c4 := cell_of hM2 (i := 4) rfl
  refine xc_step fun C hC => ?_
  simp [go_sem, xfieldAt, vload, c3, xlen]
  refine vrounds 2 ?_
  refine vround fun J X hJ hX => ?_
  refine xc_step fun C2 hC2 => ?_
  simp [go_sem, xbin, eqPlain]
  subst hC2
  refine xc_step fun C2 hC2 => ?_
  simp [go_sem]
  subst hC2
  refine xc_step fun C2 hC2 => ?_
  rw [xc_seq, xc_block]
  have hw : IntKind.i64.wrap ((d : Int) + 1) = (d : Int) + 1 := by have := wrap_nat (i := d) (by omega); rw [this]; omega
  have w1 : IntKind.i64.wrap 1 = 1 := by decide
  have ih' : VCalls Try.prog 34 #[.agg cx, .int .i64 ((d : Int) + 1)] A fun r A' => Got A T p r A' := by
    have := ih A cx (d + 1) hS (by omega)
    rwa [show ((d + 1 : Nat) : Int) = (d : Int) + 1 by omega] at this
  have hmA : A m = none := hm
  have gn := cell_of (L2 _ _ hn) (i := 0) rfl
  have gx := cells_block (L2 _ _ hx) hz
  refine xc_step fun C3 hC3 => ?_
  simp [go_sem, xindexAt, vload, gn]
  subst hC3
  refine xc_step fun C3 hC3 => ?_
  simp [go_sem, xfieldAt, vload, c4, xindexAt, gx, xbin, eqPlain, hw]
  refine (calls_base ih' L2).mono ?_
  rintro _ B4 ⟨D, ⟨b', cx', rfl, hb', hz', hO, hAD⟩, hDB, hkeep⟩
  obtain ⟨hDm, hM4⟩ := hkeep m _ hmA hM2
  obtain ⟨hDb, hB4⟩ := hkeep b _ hbA hB
  simp [go_sem]
  subst hC3
  refine xc_step fun C3 hC3 => ?_
  rw [xc_seq]
  refine xc_reg 16 rfl fun K hK => ?_
  simp only [show (List.range 16).map (·, true) = [(0, true), (1, true), (2, true), (3, true), (4, true), (5, true), (6, true), (7, true), (8, true), (9, true), (10, true), (11, true), (12, true), (13, true), (14, true), (15, true)] from rfl, rslv_cons, rslv_nil, List.getElem?_toArray, List.getElem?_cons_zero, List.getElem?_cons_succ, gres]
  (repeat (refine seqX_hide fun R hR => ?_; simp [go_sem, xfieldAt, xlen, vload, xbin, eqPlain, wantR, undef, xunop]; subst hR))
  rw [seqX_nil]
  refine hK _ _ _ ?_
  simp [go_sem]
  subst hC3
  clear hK
  have gb2 := cell_of hB4 (i := 2) rfl
  refine xc_step fun C3 hC3 => ?_
  simp [go_sem, xnil, xfieldAt, vload, gb2, xbin, eqPlain, xnew]
  intro r hr
  have hBr : (B4.set r (.map #[] 0)) b = some (.cells (osv (sl1 u) (.pointer none) (.map none)) 67 (0, 0)) := by rw [set_other (ne_of_none hB4 hr)]; exact hB4
  have hst : xstore Try.prog 64 (.pointer (some ⟨b, 2, none⟩)) (.map (some r)) (B4.set r (.map #[] 0)) = some ((B4.set r (.map #[] 0)).set b (.cells (osv (sl1 u) (.pointer none) (.map (some r))) 67 (0, 0))) := xstore_field ti64 hBr (by simp) rfl
  simp [hst, onS_some]
  subst hC3
  have drb : b ≠ r := ne_of_none hB4 hr
  have dmr : m ≠ r := ne_of_none hM4 hr
  have hDr : D r = none := none_le hDB hr
  have hB6 := set_at (B4.set r (.map #[] 0)) b (.cells (osv (sl1 u) (.pointer none) (.map (some r))) 67 (0, 0))
  have hM6 : ((B4.set r (.map #[] 0)).set b (.cells (osv (sl1 u) (.pointer none) (.map (some r))) 67 (0, 0))) m = some (.cells (scv (sl1 u) nl (sl1 bn) (sl1 bx)) 43 (0, 0)) := by rw [set_other dmb, set_other dmr]; exact hM4
  have hR6 : Map ((B4.set r (.map #[] 0)).set b (.cells (osv (sl1 u) (.pointer none) (.map (some r))) 67 (0, 0))) r fun _ => none := by
    obtain ⟨es, c, h1, h2, h3⟩ := Map.new (A := B4) (r := r)
    exact ⟨es, c, by rw [set_other drb.symm]; exact h1, h2, h3⟩
  have hD6 : D ≤ (B4.set r (.map #[] 0)).set b (.cells (osv (sl1 u) (.pointer none) (.map (some r))) 67 (0, 0)) := le_set' (le_set' hDB hDr) hDb
  clear hst hBr gb2
  generalize (B4.set r (.map #[] 0)).set b (.cells (osv (sl1 u) (.pointer none) (.map (some r))) 67 (0, 0)) = B6 at hB6 hM6 hR6 hD6
  have gb2 := cell_of hB6 (i := 2) rfl
  have gb' := cells_block (hD6 _ _ hb') hz'
  obtain ⟨o, ho, hR7⟩ := hR6.update (P := Try.prog) (t := 64) (s := k) (v := .agg cx') (by kernel_rfl)
  rw [xc_draws]
  refine vdrawK [(0, true), (1, true), (2, true), (3, true), (4, true), (5, true), (6, true), (7, true), (8, false)] B6 mixed (by kernel_rfl) (View.le_refl _) fun K hK => ?_
  simp only [rslv_cons, rslv_nil, List.getElem?_toArray, List.getElem?_cons_zero, List.getElem?_cons_succ, gres]
  simp [go_sem, xnil, xfieldAt, vload, gb2, gb', ho]
  refine hK _ _ _ ?_
  clear hK ho
  simp [go_sem]
  subst hC2
  simp [go_sem, xbin, eqPlain, w1]
  have hB5 : (B6.set r o) b = some (.cells (osv (sl1 u) (.pointer none) (.map (some r))) 67 (0, 0)) := by rw [set_other drb]; exact hB6
  have hM5 : (B6.set r o) m = some (.cells (scv (sl1 u) nl (sl1 bn) (sl1 bx)) 43 (0, 0)) := by rw [set_other dmr]; exact hM6
  have hD5 : D ≤ B6.set r o := le_set' hD6 hDr
  generalize B6.set r o = B5 at hB5 hM5 hD5 hR7
  refine hJ _ _ _ ?_
  clear hJ hX
  refine vround fun J X hJ hX => ?_
  refine xc_step fun C2 hC2 => ?_
  simp [go_sem, xbin, eqPlain]
  subst hC2
  refine xc_step fun C2 hC2 => ?_
  simp [go_sem]
  refine hX _ _ _ _ ?_
  simp [go_sem]
  subst hC
  clear hJ hX
  clear c3 c4
  have c1 := cell_of hM5 (i := 1) rfl
  refine xc_step fun C hC => ?_
  simp [go_sem, xfieldAt, vload, c1, xlen]
  refine vrounds 1 ?_
  refine vround fun J X hJ hX => ?_
  refine xc_step fun C2 hC2 => ?_
  simp [go_sem, xbin, eqPlain]
  subst hC2
  refine xc_step fun C2 hC2 => ?_
  simp [go_sem]
  refine hX _ _ _ _ ?_
  simp [go_sem]
  subst hC
  clear hJ hX c1
  have c2 := cell_of hM5 (i := 2) rfl
  have c5 := cell_of hM5 (i := 5) rfl
  have c6 := cell_of hM5 (i := 6) rfl
  have c7 := cell_of hM5 (i := 7) rfl
  refine xc_step fun C hC => ?_
  simp [go_sem, xfieldAt, vload, c2, xlen]
  refine vrounds 1 ?_
  refine vround fun J X hJ hX => ?_
  refine xc_step fun C2 hC2 => ?_
  simp [go_sem, xbin, eqPlain]
  subst hC2
  refine xc_step fun C2 hC2 => ?_
  simp [go_sem]
  refine hX _ _ _ _ ?_
  simp [go_sem]
  subst hC
  clear hJ hX
  refine xc_step fun C hC => ?_
  simp [go_sem, xnew]
  intro r2 hr2
  subst hC
  have hR2 := set_at B5 r2 (.map #[] 0)
  have L6 : B5 ≤ B5.set r2 (.map #[] 0) := le_set hr2
  generalize B5.set r2 (.map #[] 0) = B3 at hR2 L6
  have c5 := le_cell L6 c5
  have c6 := le_cell L6 c6
  have c7 := le_cell L6 c7
  refine xc_step fun C hC => ?_
  simp [go_sem, xfieldAt, vload, c5]
  subst hC
  refine xc_step fun C hC => ?_
  simp [go_sem, xfieldAt, vload, c6]
  subst hC
  refine xc_step fun C hC => ?_
  simp [go_sem, xfieldAt, vload, c7]
  subst hC
  refine xc_step fun C hC => ?_
  simp [go_sem, xlen, mapAt, hR2, xbin, eqPlain]
  subst hC
  simp [go_sem]
  exact ⟨b, _, rfl, L6 _ _ hB5, rfl, .inr ⟨hk, u, r, cx', rfl, L6 _ _ (hD5 _ _ (hAD _ _ hu)), hR7.le L6, hz', OSV.le (View.le_trans hD5 L6) p cx' hO⟩, View.le_trans hAD (View.le_trans hD5 L6)⟩
theorem sof34 (T : ByteArray) : ∀ p, SofH T p
  | [] => fun A c d h hd => by
    obtain ⟨u, rfl, hu⟩ := h
    exact sof_nil A T u d hu hd
  | k :: p => fun A c d h hd => by
    rcases h with ⟨rfl, u, b, c', rfl, h1, h2, h3, h4⟩ | ⟨hk, u, nm, b, c', rfl, h1, h2, h3, h4, h5⟩
    · exact sof_br A T u d p (sof34 T p) b c' h1 h2 h3 h4 hd
    · exact sof_k A T u d k p (sof34 T p) nm b c' hk h1 h2 h3 h4 h5 hd
end Go.Proofs.YtcficphbjicneaaV

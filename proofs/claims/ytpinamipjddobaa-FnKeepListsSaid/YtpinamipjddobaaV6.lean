/- The logic of views: rows, texts, what is owned; words for walks. -/
import Derived.Test.YtpinamipjddobaaV5
import Derived.IntWalk
namespace Go.Proofs.YtpinamipjddobaaV
open Go.RowKit
set_option linter.unusedSimpArgs false
set_option linter.unusedVariables false

/-! ## More of less -/
theorem le_cell {A B : View} (h : A ≤ B) {a : Addr} {v : Value} (hv : A.cell? a = some v) : B.cell? a = some v := by
  unfold View.cell? at hv ⊢
  cases hA : A a.block with
  | none => rw [hA] at hv; cases hv
  | some o => rw [h _ _ hA]; rw [hA] at hv; exact hv
theorem le_cells {A B : View} (h : A ≤ B) {a : Addr} : ∀ (n i : Nat) (cs : List Value), A.cells? a i n = some cs → B.cells? a i n = some cs
  | 0, _, _, hc => hc
  | n + 1, i, cs, hc => by
    simp only [View.cells?] at hc ⊢
    obtain ⟨v, hv, hc⟩ := Option.bind_eq_some_iff.1 hc
    obtain ⟨vs, hvs, hc⟩ := Option.map_eq_some_iff.1 hc
    rw [le_cell h hv]
    simp only [Option.bind_some]
    rw [le_cells h n (i + 1) vs hvs, ← hc]
    rfl
theorem le_set {A : View} {b : Nat} {o : Obj} (h : A b = none) : A ≤ A.set b o := fun k x hk => by
  rw [set_other (fun hx => by rw [hx, h] at hk; cases hk)]; exact hk
theorem le_set' {A B : View} (hle : A ≤ B) {b : Nat} {o : Obj} (h : A b = none) : A ≤ B.set b o := fun k x hk => by
  rw [set_other (fun hx => by rw [hx, h] at hk; cases hk)]; exact hle k x hk
theorem le_erase {A B : View} (hle : A ≤ B) {b : Nat} (h : A b = none) : A ≤ B.erase b := fun k x hk => by
  unfold View.erase
  rw [if_neg (fun hx => by rw [hx, h] at hk; cases hk)]
  exact hle k x hk
theorem none_le {A B : View} (h : A ≤ B) {b : Nat} (hb : B b = none) : A b = none := by
  cases hA : A b with
  | none => rfl
  | some o => rw [h b o hA] at hb; cases hb
theorem ne_block {A : View} {b k : Nat} (hb : A b = none) {o : Obj} (hk : A k = some o) : k ≠ b := fun h => by rw [h, hb] at hk; cases hk

/-! ## A slice that is read -/
def Row (A : View) (size : Nat) (v : Value) (n : Nat) (cs : List Value) : Prop :=
  (∃ a cap, v = .slice (some a) n cap ∧ A.cells? a 0 (n * size) = some cs) ∨ (v = .slice none 0 0 ∧ n = 0 ∧ cs = [])
theorem Row.le {A B : View} (h : A ≤ B) {size n : Nat} {v : Value} {cs : List Value} (r : Row A size v n cs) : Row B size v n cs := by
  rcases r with ⟨a, cap, h1, h3⟩ | h1
  · exact .inl ⟨a, cap, h1, le_cells h _ _ _ h3⟩
  · exact .inr h1
theorem Row.len {A : View} {size n : Nat} {v : Value} {cs : List Value} (r : Row A size v n cs) : cs.length = n * size := by
  rcases r with ⟨a, cap, h1, h3⟩ | ⟨h1, h2, h3⟩
  · exact cells?_length _ _ _ h3
  · subst h2 h3; simp
theorem Row.slice {A : View} {size n : Nat} {v : Value} {cs : List Value} (r : Row A size v n cs) : ∃ base cap, v = .slice base n cap := by
  rcases r with ⟨a, cap, h1, h3⟩ | ⟨h1, h2, h3⟩
  · exact ⟨_, _, h1⟩
  · subst h2; exact ⟨_, _, h1⟩
/-- The place of an element, and what lies there. -/
theorem Row.at1 {A : View} {n i : Nat} {v u : Value} {cs : List Value} (r : Row A 1 v n cs) (h : cs[i]? = some u) : ∃ a cap, v = .slice (some a) n cap ∧ i < n ∧ A.cell? (a.add i) = some u := by
  have hl := r.len
  have hi : i < cs.length := (List.getElem?_eq_some_iff.1 h).1
  rcases r with ⟨a, cap, h1, h3⟩ | ⟨h1, h2, h3⟩
  · refine ⟨a, cap, h1, by omega, ?_⟩
    have := cells?_get _ _ _ h3 i (by omega)
    rw [Nat.zero_add] at this
    rw [this, h]
  · subst h3; cases h
theorem appended_row {P : Program} {A : View} {size n : Nat} {v : Value} {cs : List Value} (r : Row A size v n cs) : appended P A size v = some (cs, n) := by
  rcases r with ⟨a, cap, h1, h3⟩ | ⟨h1, h2, h3⟩
  · subst h1; simp only [appended, h3, Option.map_some]
  · subst h1 h2 h3; rfl

/-! ## A slice that is owned: its block is new beside a view, and known whole -/
def Own (A0 A : View) (e : TypeId) (size : Nat) (v : Value) (n : Nat) (cs : List Value) : Prop :=
  sliceIn A e size v = some cs ∧ ((v = .slice none 0 0 ∧ n = 0) ∨ ∃ a cap, v = .slice (some a) n cap ∧ A0 a.block = none)
theorem Own.nil (A0 A : View) (e : TypeId) (size : Nat) : Own A0 A e size (.slice none 0 0) 0 [] := ⟨rfl, .inl ⟨rfl, rfl⟩⟩
theorem Own.row {A0 A : View} {e : TypeId} {size n : Nat} {v : Value} {cs : List Value} (h : Own A0 A e size v n cs) : Row A size v n cs := by
  obtain ⟨h1, ⟨rfl, rfl⟩ | ⟨a, cap, rfl, h2⟩⟩ := h
  · simp only [sliceIn, Option.some.injEq] at h1
    exact .inr ⟨rfl, rfl, h1.symm⟩
  · obtain ⟨c, _, h4, _, _, h7⟩ := sliceIn_block h1
    exact .inl ⟨a, cap, rfl, h7⟩
/-- The block of a slice. -/
def blockOf : Value → Option Nat
  | .slice (some a) _ _ => some a.block
  | _ => none
theorem own_grow {A0 A : View} {e : TypeId} {size n m : Nat} {base : Option Addr} {cap : Nat} {old cs : List Value} {K : Value → View → Prop} (h : Own A0 A e size (.slice base n cap) n old) (hle : A0 ≤ A)
    (hcs : cs.length = m * size)
    (k : ∀ v' A', A0 ≤ A' → Own A0 A' e size v' (n + m) (old ++ cs) → (∀ b, (∀ a, base = some a → b ≠ a.block) → (A b).isSome = true → A' b = A b ∧ blockOf v' ≠ some b) → K v' A') :
    grown A e size base old cs (n + m) K := by
  obtain ⟨h1, h2⟩ := h
  have hol : old.length = n * size := sliceIn_length h1
  intro b off cp c hb hcap hsz hget
  have hA0b : ∀ a, base = some a → A0 a.block = none := by
    rcases h2 with ⟨h2, _⟩ | ⟨a, cap', h2, h3⟩
    · intro a ha; rw [ha] at h2; cases h2
    · intro a' ha; rw [ha] at h2; simp only [Value.slice.injEq, Option.some.injEq] at h2; rw [h2.1]; exact h3
  have hle1 : A0 ≤ eraseO A base := by
    cases base with
    | none => exact hle
    | some a => exact le_erase hle (hA0b a rfl)
  have hbn : A0 b = none := none_le hle1 hb
  refine k _ _ (le_set' hle1 hbn) ⟨?_, .inr ⟨_, _, rfl, hbn⟩⟩ fun b' hb1 hb2 => ?_
  · simp only [sliceIn, set_at]
    rw [if_pos ⟨trivial, trivial, hcap, hsz⟩]
    have hmul : (n + m) * size = (old ++ cs).length := by rw [List.length_append, hol, hcs, Nat.add_mul]
    rw [hmul]
    refine cells?_intro _ _ _ rfl fun j hj => ?_
    unfold View.cell?
    rw [add_block, set_at]
    simp only [add_spot (⟨b, off, none⟩ : Addr) (0 + j) rfl, Option.isSome_none, Bool.false_eq_true, if_false]
    rw [add_off, Nat.zero_add]
    exact hget j hj
  · have hne : b' ≠ b := by
      intro hx
      subst hx
      have : (eraseO A base) b' = A b' := by
        cases base with
        | none => rfl
        | some a => exact if_neg (hb1 a rfl)
      rw [this] at hb
      rw [hb] at hb2
      cases hb2
    refine ⟨?_, fun hx => by simp only [blockOf, Option.some.injEq] at hx; exact hne hx.symm⟩
    rw [set_other hne]
    cases base with
    | none => rfl
    | some a => exact if_neg (hb1 a rfl)

/-! ## Texts -/
def Texts (A : View) (v : Value) (l : List ByteArray) : Prop := Row A 1 v l.length (l.map .string)
theorem Texts.le {A B : View} (h : A ≤ B) {v : Value} {l : List ByteArray} (t : Texts A v l) : Texts B v l := Row.le h t
theorem Texts.at' {A : View} {v : Value} {l : List ByteArray} {i : Nat} (t : Texts A v l) (h : i < l.length) : ∃ a cap, v = .slice (some a) l.length cap ∧ A.cell? (a.add i) = some (.string l[i]) := by
  obtain ⟨a, cap, h1, _, h3⟩ := Row.at1 (i := i) (u := .string l[i]) t (by simp [h])
  exact ⟨a, cap, h1, h3⟩
def Rows2 (A : View) (v : Value) (l : List (List ByteArray)) : Prop := ∃ cs, Row A 1 v l.length cs ∧ cs.length = l.length ∧ ∀ i (h : i < l.length), ∃ u, cs[i]? = some u ∧ Texts A u l[i]

/-! ## Numbers -/
theorem wrap_nat {i : Nat} (h : i < 9223372036854775807) : IntKind.i64.wrap ((i : Int) + 1) = ((i + 1 : Nat) : Int) := by
  rw [IntWalk.i64_in _ (by omega)]
  · omega
theorem wrap_in {x : Int} (h1 : -9223372036854775808 ≤ x) (h2 : x ≤ 9223372036854775807) : IntKind.i64.wrap x = x := IntWalk.i64_in _ (by omega)

/-- A view without the block of a slice. -/
def eraseB (A : View) (v : Value) : View :=
  match v with
  | .slice (some a) _ _ => A.erase a.block
  | _ => A
theorem eraseB_le (A : View) (v : Value) : eraseB A v ≤ A := by
  unfold eraseB
  split
  · exact erase_le _ _
  · exact View.le_refl _
theorem own_erased {A0 A : View} {e : TypeId} {size n : Nat} {v : Value} {cs : List Value} (h : Own A0 A e size v n cs) (hle : A0 ≤ A) : A0 ≤ eraseB A v := by
  obtain ⟨_, ⟨rfl, _⟩ | ⟨a, cap, rfl, h2⟩⟩ := h
  · exact hle
  · exact le_erase hle h2
theorem own_rebase {A0 A : View} {e : TypeId} {size n : Nat} {v : Value} {cs : List Value} (h : Own A0 A e size v n cs) : Own (eraseB A v) A e size v n cs := by
  refine ⟨h.1, ?_⟩
  rcases h.2 with h2 | ⟨a, cap, h2, h3⟩
  · exact .inl h2
  · refine .inr ⟨a, cap, h2, ?_⟩
    rw [h2]
    exact if_pos rfl
theorem own_down {A0 B A : View} {e : TypeId} {size n : Nat} {v : Value} {cs : List Value} (h : Own B A e size v n cs) (hle : A0 ≤ B) : Own A0 A e size v n cs :=
  ⟨h.1, h.2.imp id fun ⟨a, cap, h2, h3⟩ => ⟨a, cap, h2, none_le hle h3⟩⟩
/-- What is owned stays so where its block stands as it stood. -/
theorem sliceIn_le {A B : View} (h : A ≤ B) {e : TypeId} {size : Nat} {v : Value} {cs : List Value} (k : sliceIn A e size v = some cs) : sliceIn B e size v = some cs := by
  unfold sliceIn at *
  split at k
  · rename_i a n cap
    split at k
    · rename_i c e' hA
      split at k
      · rename_i hc
        simp only [h _ _ hA]
        rw [if_pos hc]
        exact le_cells h _ _ _ k
      · cases k
    · cases k
  · exact k
  · cases k
theorem Own.le {A0 A B : View} (h : A ≤ B) {e : TypeId} {size n : Nat} {v : Value} {cs : List Value} (k : Own A0 A e size v n cs) : Own A0 B e size v n cs := ⟨sliceIn_le h k.1, k.2⟩
theorem xappend_own {P : Program} {t u e : TypeId} {b1 b2 : Nat} {z1 : Option Value} {tu : TI} {ek : TK} {size bytes : Nat} {z : Value} {A0 A : View} {s x : Value} {n m : Nat} {old cs : List Value} {K : Value → View → Prop}
    (ht : tinfo P t = some ⟨.slice e, b1, b2, z1⟩) (hu : tinfo P u = some tu) (hk : ∀ k, tu.k ≠ .int k) (he : tinfo P e = some ⟨ek, size, bytes, some z⟩) (hz : z.cells.size = size) (hpos : 0 < bytes)
    (hown : Own A0 A e size s n old) (hle : A0 ≤ A) (hx : appended P A size x = some (cs, m)) (hstr : isStr x = true → size = 1) (hone : ∀ v ∈ cs, one v = true) (hb : (n + m) * bytes ≤ 140737488355328)
    (k : ∀ v' A', A0 ≤ A' → Own A0 A' e size v' (n + m) (old ++ cs) → eraseB A s ≤ eraseB A' v' → K v' A') : xappend P t u s x A K := by
  have hs : ∃ base cap, s = .slice base n cap := by
    rcases hown.2 with ⟨h1, h2⟩ | ⟨a, cap, h1, _⟩
    · exact ⟨none, 0, by rw [h1, h2]⟩
    · exact ⟨_, _, h1⟩
  obtain ⟨base, cap, rfl⟩ := hs
  have hcl : cs.length = m * size := appended_length hx fun s hs => hstr (by rw [hs]; rfl)
  have main : onS (sliceIn A e size (.slice base n cap)) fun old => onS (appended P A size x) fun cm =>
      ((n + cm.2) * bytes ≤ 140737488355328 ∧ 0 < bytes ∧ z.cells.size = size ∧ (isStr x = true → size = 1) ∧ (∀ v ∈ cm.1, one v = true)) ∧
      (if base = none ∧ n + cm.2 = 0 then K (.slice none 0 0) A else grown A e size base old cm.1 (n + cm.2) K) := by
    refine ⟨old, hown.1, (cs, m), hx, ⟨hb, hpos, hz, hstr, hone⟩, ?_⟩
    split
    · rename_i h0
      obtain ⟨rfl, h0⟩ := h0
      have hn : n = 0 := by omega
      have hm : m = 0 := by omega
      subst hn hm
      have h1 : cs = [] := List.length_eq_zero_iff.1 (by rw [hcl]; simp)
      have h2 : old = [] := List.length_eq_zero_iff.1 (by rw [sliceIn_length hown.1]; simp)
      subst h1 h2
      refine k _ A hle (Own.nil _ _ _ _) ?_
      exact eraseB_le A (.slice none 0 cap)
    · rename_i h0
      refine own_grow hown hle hcl fun v' A' h1 h2 h3 => k v' A' h1 h2 ?_
      intro b o hbo
      have hbA : A b = some o ∧ ∀ a, base = some a → b ≠ a.block := by
        cases base with
        | none => exact ⟨hbo, fun a ha => by cases ha⟩
        | some a =>
          simp only [eraseB, View.erase] at hbo
          split at hbo
          · cases hbo
          · rename_i hne
            exact ⟨hbo, fun a' ha => by simp only [Option.some.injEq] at ha; rw [← ha]; exact hne⟩
      obtain ⟨h4, h5⟩ := h3 b hbA.2 (by rw [hbA.1]; rfl)
      have h6 : A' b = some o := by rw [h4]; exact hbA.1
      unfold eraseB
      split
      · rename_i a' n' c'
        have hne : b ≠ a'.block := fun hx => h5 (by rw [hx]; rfl)
        simp only [View.erase, if_neg hne]
        exact h6
      · exact h6
  unfold xappend
  rw [ht, hu]
  simp only [he]
  cases hkk : tu.k <;> first | exact absurd hkk (hk _) | exact main
theorem appended_one {P : Program} {A : View} {b : Nat} {e : TypeId} {u : Value} : appended P (A.set b (.cells #[u] e)) 1 (.slice (some ⟨b, 0, none⟩) 1 1) = some ([u], 1) := by
  simp [appended, View.cells?, View.cell?, View.set, Addr.add]
theorem bs_bne (x y : ByteArray) : (!(x.toList == y.toList)) = decide (x ≠ y) := by
  cases h : (x.toList == y.toList) with
  | true => have := (Lib.bytes_beq_iff x y).1 h; simp [this]
  | false => have := (Lib.bytes_beq_false_iff x y).1 h; simp [this]
theorem bs_beq (x y : ByteArray) : (x.toList == y.toList) = decide (x = y) := by
  cases h : (x.toList == y.toList) with
  | true => have := (Lib.bytes_beq_iff x y).1 h; simp [this]
  | false => have := (Lib.bytes_beq_false_iff x y).1 h; simp [this]
/-- The whole heap, as a view. -/
def full (w : World) : View := fun b => w.heap[b]?
theorem full_holds (w : World) : Holds (full w) w := fun _ _ h => h
theorem below_of {w w' : World} {A' : View} (hle : full w ≤ A') (h : Holds A' w') (k : Kept (full w) w A' w') : Below w.heap.size w w' := by
  refine ⟨k.os, k.tape, k.output, k.size, fun b hb => ?_⟩
  have : full w b = some w.heap[b] := Array.getElem?_eq_getElem hb
  rw [h b _ (hle b _ this), Array.getElem?_eq_getElem hb]
theorem calls_full {P : Program} {f : FuncId} {args : Array Value} {w : World} {v : Value} (h : VCalls P f args (full w) fun r A' => r = v ∧ full w ≤ A') :
    Calls P f args w fun e w' => e = .returned v ∧ Below w.heap.size w w' :=
  (h w (full_holds w)).mono fun _ _ ⟨_, he, _, ⟨hr, hle⟩, hh, hk⟩ => ⟨by rw [he, hr], below_of hle hh hk⟩
theorem eraseB_mono {A B : View} (h : A ≤ B) (v : Value) : eraseB A v ≤ eraseB B v := by
  unfold eraseB
  split
  · intro k o hk
    unfold View.erase at *
    split at hk
    · cases hk
    · rename_i hne
      rw [if_neg hne]
      exact h k o hk
  · exact h
/-- What is owned stays when the block of another slice is forgotten. -/
theorem Own.other {A0 A B : View} {e e' : TypeId} {size size' n m : Nat} {v u : Value} {cs ds : List Value} (k : Own A B e size v n cs) (o : Own A0 A e' size' u m ds) : Own A (eraseB B u) e size v n cs := by
  obtain ⟨h1, h2⟩ := k
  refine ⟨?_, h2⟩
  rcases h2 with ⟨rfl, _⟩ | ⟨a, cap, rfl, hn⟩
  · exact h1
  · obtain ⟨o1, ⟨rfl, _⟩ | ⟨a', cap', rfl, _⟩⟩ := o
    · exact h1
    · obtain ⟨c, h3, _⟩ := sliceIn_block o1
      have hne : a.block ≠ a'.block := fun hx => by rw [hx, h3] at hn; cases hn
      obtain ⟨c', h4, h5, h6, h7, h8⟩ := sliceIn_block h1
      have hblk : (eraseB B (.slice (some a') m cap')) a.block = some (.cells c' e (0, 0)) := by
        simp only [eraseB, View.erase, if_neg hne]
        exact h4
      have : ∀ (n i : Nat) (cs : List Value), B.cells? a i n = some cs → (View.erase B a'.block).cells? a i n = some cs := by
        intro n
        induction n with
        | zero => intro i cs h; exact h
        | succ n ih =>
          intro i cs h
          simp only [View.cells?] at h ⊢
          obtain ⟨v, hv, h⟩ := Option.bind_eq_some_iff.1 h
          obtain ⟨vs, hvs, h⟩ := Option.map_eq_some_iff.1 h
          have hc : (View.erase B a'.block).cell? (a.add i) = some v := by
            unfold View.cell? View.erase at *
            rw [add_block, if_neg hne]
            rw [add_block] at hv
            exact hv
          rw [hc]
          simp only [Option.bind_some]
          rw [ih (i + 1) vs hvs, ← h]
          rfl
      simp only [sliceIn, hblk]
      rw [if_pos ⟨trivial, h5, h6, h7⟩]
      exact this _ _ _ h8
/-- An owned list of lists of texts: the texts lie elsewhere. -/
def OwnT (A0 A : View) (e : TypeId) (v : Value) (l : List (List ByteArray)) : Prop :=
  ∃ ws, Own A0 A e 1 v l.length ws ∧ ws.length = l.length ∧ ∀ i (h : i < l.length), ∃ u, ws[i]? = some u ∧ Texts (eraseB A v) u l[i]
theorem OwnT.nil (A0 A : View) (e : TypeId) : OwnT A0 A e (.slice none 0 0) [] := ⟨[], Own.nil _ _ _ _, rfl, fun i h => absurd h (by simp)⟩
theorem OwnT.rows {A0 A : View} {e : TypeId} {v : Value} {l : List (List ByteArray)} (h : OwnT A0 A e v l) : Rows2 A v l := by
  obtain ⟨ws, h1, h2, h3⟩ := h
  exact ⟨ws, h1.row, h2, fun i hi => let ⟨u, hu, ht⟩ := h3 i hi; ⟨u, hu, ht.le (eraseB_le _ _)⟩⟩
theorem OwnT.le {A0 A B : View} (hle : A ≤ B) {e : TypeId} {v : Value} {l : List (List ByteArray)} (h : OwnT A0 A e v l) : OwnT A0 B e v l := by
  obtain ⟨ws, h1, h2, h3⟩ := h
  exact ⟨ws, h1.le hle, h2, fun i hi => let ⟨u, hu, ht⟩ := h3 i hi; ⟨u, hu, ht.le (eraseB_mono hle _)⟩⟩
theorem OwnT.down {A0 B A : View} (hle : A0 ≤ B) {e : TypeId} {v : Value} {l : List (List ByteArray)} (h : OwnT B A e v l) : OwnT A0 A e v l := by
  obtain ⟨ws, h1, h2⟩ := h
  exact ⟨ws, own_down h1 hle, h2⟩
theorem OwnT.rebase {A0 A : View} {e : TypeId} {v : Value} {l : List (List ByteArray)} (h : OwnT A0 A e v l) : OwnT (eraseB A v) A e v l := by
  obtain ⟨ws, h1, h2⟩ := h
  exact ⟨ws, own_rebase h1, h2⟩
theorem OwnT.erased {A0 A : View} {e : TypeId} {v : Value} {l : List (List ByteArray)} (h : OwnT A0 A e v l) (hle : A0 ≤ A) : A0 ≤ eraseB A v := by
  obtain ⟨ws, h1, h2⟩ := h
  exact own_erased h1 hle
theorem OwnT.grow {A0 A B : View} {e : TypeId} {v v' : Value} {l m : List (List ByteArray)} {ws cs : List Value} (h : OwnT A0 A e v l) (hw : Own A0 A e 1 v l.length ws) (hcl : cs.length = m.length)
    (hcs : ∀ i (h : i < m.length), ∃ u, cs[i]? = some u ∧ Texts (eraseB A v) u m[i])
    (h2 : Own A0 B e 1 v' (l.length + m.length) (ws ++ cs)) (h3 : eraseB A v ≤ eraseB B v') : OwnT A0 B e v' (l ++ m) := by
  obtain ⟨ws', h4, h5, h6⟩ := h
  have : ws' = ws := Option.some.inj (h4.1.symm.trans hw.1)
  subst this
  refine ⟨ws' ++ cs, by rw [List.length_append]; exact h2, by simp [h5, hcl], fun i hi => ?_⟩
  by_cases hil : i < l.length
  · obtain ⟨u, hu, ht⟩ := h6 i hil
    refine ⟨u, by rw [List.getElem?_append_left (by omega)]; exact hu, ?_⟩
    rw [List.getElem_append_left hil]
    exact ht.le h3
  · have hj : i - l.length < m.length := by simp at hi; omega
    obtain ⟨u, hu, ht⟩ := hcs (i - l.length) hj
    refine ⟨u, by rw [List.getElem?_append_right (by omega), h5]; exact hu, ?_⟩
    rw [List.getElem_append_right (by omega)]
    exact ht.le h3
end Go.Proofs.YtpinamipjddobaaV

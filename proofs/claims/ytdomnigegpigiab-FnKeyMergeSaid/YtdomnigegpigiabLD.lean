import Derived.Test.YtdomnigegpigiabLB
namespace Go.Proofs.YtdomnigegpigiabV
open Go.RowKit
theorem one_cells' {u : Value} (h : one u = true) : u.cells = #[u] := by
  cases u <;> simp [one, Value.cells] at h ⊢
theorem xstore_own {P : Program} {t : TypeId} {k : TK} {b : Nat} {z : Option Value} {A0 A : View} {e : TypeId} {n i : Nat} {v u : Value} {cs : List Value} (ht : tinfo P t = some ⟨k, 1, b, z⟩) (h : Own A0 A e 1 v n cs) (hi : i < n) (hu : one u = true) :
    ∃ a cap A', v = .slice (some a) n cap ∧ xstore P t (.pointer (some (a.add i))) u A = some A' ∧ Own A0 A' e 1 v n (cs.set i u) ∧ eraseB A' v = eraseB A v ∧ (A0 ≤ A → A0 ≤ A') := by
  obtain ⟨h1, ⟨rfl, rfl⟩ | ⟨a, cap, rfl, h2⟩⟩ := h
  · omega
  obtain ⟨c, h3, h4, h5, h6, h7⟩ := sliceIn_block h1
  have hcl := cells?_length _ _ _ h7
  rw [Nat.mul_one] at h6 hcl
  have hs : storeAll A (a.add i) 0 [u] = some (A.set (a.add i).block (.cells (splice c ((a.add i).off + 0) [u]) e (0, 0))) :=
    storeAll_block [u] A (a.add i) 0 c (by rw [add_block]; exact h3) (add_spot a i h4) (by rw [add_off]; simp; omega) (by simpa using hu)
  rw [add_block, add_off] at hs
  refine ⟨a, cap, A.set a.block (.cells (splice c (a.off + i + 0) [u]) e (0, 0)), rfl, ?_, ⟨?_, .inr ⟨_, _, rfl, h2⟩⟩, ?_, fun hle => le_set' hle h2⟩
  · simp only [xstore, ht, one_cells' hu]
    rw [if_pos (by rfl)]
    exact hs
  · have hsp : splice c (a.off + i + 0) [u] = c.setIfInBounds (a.off + i) u := by simp [splice]
    rw [hsp]
    simp only [sliceIn, set_at]
    rw [if_pos ⟨trivial, h4, h5, by simpa using h6⟩]
    refine cells?_intro _ _ _ (by simp [hcl]) fun j hj => ?_
    rw [Nat.mul_one] at hj
    unfold View.cell?
    rw [add_block, set_at]
    simp only [add_spot a (0 + j) h4, Option.isSome_none, Bool.false_eq_true, if_false]
    rw [add_off, Nat.zero_add]
    have hg := cells?_get _ _ _ h7 j (by omega)
    unfold View.cell? at hg
    rw [add_block, h3] at hg
    simp only [add_spot a (0 + j) h4, Option.isSome_none, Bool.false_eq_true, if_false] at hg
    rw [add_off, Nat.zero_add] at hg
    by_cases hij : i = j
    · subst hij
      rw [List.getElem?_set_self (by omega), Array.getElem?_setIfInBounds_self, if_pos (by omega)]
    · rw [List.getElem?_set_ne hij, Array.getElem?_setIfInBounds_ne (by omega)]
      exact hg
  · funext b
    simp only [eraseB, View.erase, View.set]
    split <;> rfl
theorem els_set {T : View} {ws : List Value} {l : List (List ByteArray)} {i : Nat} {u : Value} {m : List ByteArray} (h : Els T ws l) (ht : Texts T u m) : Els T (ws.set i u) (l.set i m) := by
  refine ⟨by simp [h.1], fun j hj => ?_⟩
  have hj' : j < l.length := by simpa using hj
  by_cases hij : i = j
  · subst hij
    refine ⟨u, by rw [List.getElem?_set_self (by rw [h.1]; omega)], ?_⟩
    rw [List.getElem_set_self]
    exact ht
  · obtain ⟨w, hw, hx⟩ := h.2 j hj'
    refine ⟨w, by rw [List.getElem?_set_ne hij]; exact hw, ?_⟩
    rw [List.getElem_set_ne hij]
    exact hx
theorem Texts.one {A : View} {u : Value} {m : List ByteArray} (h : Texts A u m) : one u = true := by
  obtain ⟨b, c, rfl⟩ := h.slice
  rfl
theorem store_ownT {P : Program} {t : TypeId} {k : TK} {b : Nat} {z : Option Value} {A0 A : View} {e : TypeId} {i cap : Nat} {a : Addr} {v u : Value} {l : List (List ByteArray)} {m : List ByteArray} (ht : tinfo P t = some ⟨k, 1, b, z⟩) (h : OwnT A0 A e v l)
    (hv : v = .slice (some a) l.length cap) (hi : i < l.length) (hT : Texts (eraseB A v) u m) :
    ∃ A', xstore P t (.pointer (some (a.add i))) u A = some A' ∧ OwnT A0 A' e v (l.set i m) ∧ eraseB A' v = eraseB A v ∧ (A0 ≤ A → A0 ≤ A') := by
  obtain ⟨ws, h1, h2, h3⟩ := h
  obtain ⟨a', cap', A', h4, h5, h6, h7, h8⟩ := xstore_own ht h1 hi hT.one
  have : a' = a := by rw [hv] at h4; simp only [Value.slice.injEq, Option.some.injEq] at h4; exact h4.1.symm
  subst this
  obtain ⟨q1, q2⟩ := els_set (i := i) (T := eraseB A v) ⟨h2, h3⟩ hT
  exact ⟨A', h5, ⟨ws.set i u, by rw [List.length_set]; exact h6, q1, by rw [h7]; exact q2⟩, h7, h8⟩
def put2 (i j : Nat) (S : List (List ByteArray)) (m : Bool × List ByteArray) : List (List ByteArray) := if m.1 then (S.set i m.2).set j m.2 else S
theorem put2_len (i j : Nat) (S : List (List ByteArray)) (m : Bool × List ByteArray) : (put2 i j S m).length = S.length := by unfold put2; split <;> simp
def innI (v : List ByteArray) (i : Nat) (S : List (List ByteArray)) : Nat → List (List ByteArray)
  | 0 => S
  | j + 1 => put2 i j (innI v i S j) (mtch v ((innI v i S j).getD j []))
def outI (S : List (List ByteArray)) : Nat → List (List ByteArray)
  | 0 => S
  | i + 1 => innI ((outI S i).getD i []) i (outI S i) S.length
def innS (i : Nat) (S : List (List ByteArray)) : Nat → List (List ByteArray)
  | 0 => S
  | j + 1 => put2 i j (innS i S j) (mtch ((innS i S j).getD i []) ((innS i S j).getD j []))
def outS (S : List (List ByteArray)) : Nat → List (List ByteArray)
  | 0 => S
  | i + 1 => innS i (outS S i) S.length
theorem innI_len (v : List ByteArray) (i : Nat) (S : List (List ByteArray)) : ∀ j, (innI v i S j).length = S.length
  | 0 => rfl
  | j + 1 => by rw [innI, put2_len, innI_len v i S j]
theorem outI_len (S : List (List ByteArray)) : ∀ j, (outI S j).length = S.length
  | 0 => rfl
  | j + 1 => by rw [outI, innI_len, outI_len S j]
theorem innS_len (i : Nat) (S : List (List ByteArray)) : ∀ j, (innS i S j).length = S.length
  | 0 => rfl
  | j + 1 => by rw [innS, put2_len, innS_len i S j]
theorem outS_len (S : List (List ByteArray)) : ∀ j, (outS S j).length = S.length
  | 0 => rfl
  | j + 1 => by rw [outS, innS_len, outS_len S j]
theorem mt_len (x y : List ByteArray) : ∀ i b l, mt x y i = some (b, l) → l.length = i
  | 0, b, l, h => by simp only [mt, Option.some.injEq, Prod.mk.injEq] at h; rw [← h.2]; rfl
  | i + 1, b, l, h => by
    simp only [mt] at h
    split at h
    · cases h
    · rename_i b' l' he
      have := mt_len x y i b' l' he
      split at h
      · simp only [Option.some.injEq, Prod.mk.injEq] at h; rw [← h.2]; simp [this]
      · split at h
        · simp only [Option.some.injEq, Prod.mk.injEq] at h; rw [← h.2]; simp [this]
        · split at h
          · simp only [Option.some.injEq, Prod.mk.injEq] at h; rw [← h.2]; simp [this]
          · cases h
theorem mtch_len (x y : List ByteArray) : (mtch x y).2.length ≤ x.length := by
  unfold mtch
  split
  · cases h : mt x y x.length with
    | none => simp
    | some p => simp [mt_len x y _ p.1 p.2 h]
  · simp
def Short (S : List (List ByteArray)) : Prop := ∀ y ∈ S, y.length ≤ 100
theorem Short.set {S : List (List ByteArray)} (h : Short S) {i : Nat} {x : List ByteArray} (hx : x.length ≤ 100) : Short (S.set i x) := by
  intro y hy
  rcases List.mem_or_eq_of_mem_set hy with hy | rfl
  · exact h y hy
  · exact hx
theorem Short.getD {S : List (List ByteArray)} (h : Short S) (i : Nat) : (S.getD i []).length ≤ 100 := by
  rw [List.getD_eq_getElem?_getD]
  cases hx : S[i]? with
  | none => simp
  | some x => exact h x (List.mem_of_getElem? hx)
theorem Short.put2 {S : List (List ByteArray)} (h : Short S) {i j : Nat} {x y : List ByteArray} (hx : x.length ≤ 100) : Short (put2 i j S (mtch x y)) := by
  have := mtch_len x y
  unfold YtdomnigegpigiabV.put2
  split
  · exact (h.set (by omega)).set (by omega)
  · exact h
end Go.Proofs.YtdomnigegpigiabV

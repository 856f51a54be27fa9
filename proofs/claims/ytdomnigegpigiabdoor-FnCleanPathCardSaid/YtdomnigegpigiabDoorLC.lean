/- The law of a path that is cleaned, walked. -/
import Derived.Test.YtdomnigegpigiabDoorLB
import Derived.Test.YtdomnigegpigiabDoorV7
namespace Go.Proofs.YtdomnigegpigiabDoorV
open Go.RowKit
def mb (b : UInt8) : UInt8 := 32 + b % 95
theorem mb_nat (b : UInt8) : (mb b).toNat = 32 + b.toNat % 95 := by
  have h := Nat.mod_lt b.toNat (show 95 > 0 by omega)
  simp only [mb, UInt8.toNat_add, UInt8.toNat_mod]
  rw [show (95 : UInt8).toNat = 95 from rfl, show (32 : UInt8).toNat = 32 from rfl]
  omega
theorem mb_plain (b : UInt8) : plainB (mb b) := by
  have h := Nat.mod_lt b.toNat (show 95 > 0 by omega)
  unfold plainB
  rw [mb_nat]
  omega
def cellsOf (l : List UInt8) (pad : Nat) : Array Value := (l.map bv ++ List.replicate pad (Value.int .u8 0)).toArray
theorem byteCells_eq (S : ByteArray) (cap : Nat) : byteCells S cap = cellsOf S.data.toList (cap - S.size) := by
  apply Array.ext'
  simp [byteCells, cellsOf]
theorem cellsOf_get (l : List UInt8) (pad i : Nat) (h : i < l.length) : (cellsOf l pad)[i]? = some (bv l[i]) := by
  simp only [cellsOf, List.getElem?_toArray]
  rw [List.getElem?_append_left (by simpa using h)]
  simp [h]
theorem cellsOf_set (l : List UInt8) (pad i : Nat) (x : UInt8) (h : i < l.length) : (cellsOf l pad).setIfInBounds i (bv x) = cellsOf (l.set i x) pad := by
  apply Array.ext'
  simp only [cellsOf, Array.toList_setIfInBounds]
  rw [List.set_append_left _ _ (by simpa using h), List.map_set]
def ml (l : List UInt8) (i : Nat) : List UInt8 := l.mapIdx fun j b => if j < i then mb b else b
theorem ml_len (l : List UInt8) (i : Nat) : (ml l i).length = l.length := by simp [ml]
theorem ml_zero (l : List UInt8) : ml l 0 = l := by
  refine List.ext_getElem (by simp [ml]) fun j h1 h2 => ?_
  simp [ml]
theorem ml_all (l : List UInt8) : ml l l.length = l.map mb := by
  refine List.ext_getElem (by simp [ml]) fun j h1 h2 => ?_
  rw [ml_len] at h1
  simp [ml, h1]
theorem ml_at (l : List UInt8) (i : Nat) (h : i < l.length) : (ml l i)[i]'(by rw [ml_len]; exact h) = l[i] := by simp [ml]
theorem ml_set (l : List UInt8) (i : Nat) (h : i < l.length) : (ml l i).set i (mb l[i]) = ml l (i + 1) := by
  refine List.ext_getElem (by simp [ml]) fun j h1 h2 => ?_
  simp only [ml, List.getElem_set, List.getElem_mapIdx]
  by_cases hj : i = j
  · subst hj; simp
  · rw [if_neg hj]
    by_cases hji : j < i
    · rw [if_pos hji, if_pos (by omega)]
    · rw [if_neg hji, if_neg (by omega)]
def BV (A : View) (b : Nat) (l : List UInt8) (pad cap : Nat) : View := A.set b (.cells (cellsOf l pad) 5 (cap, cap + 1))
theorem at_add (b o i : Nat) : (⟨b, o, none⟩ : Addr).add i = ⟨b, o + i, none⟩ := by simp [Addr.add]
theorem BV_cell {A : View} {b pad cap : Nat} {l : List UInt8} {i : Nat} (h : i < l.length) : (BV A b l pad cap).cell? ⟨b, i, none⟩ = some (bv l[i]) := by
  unfold View.cell? BV
  rw [set_at]
  exact cellsOf_get l pad i h
theorem BV_frozen {A : View} {b pad cap : Nat} {l : List UInt8} {i : Nat} (h : i < l.length) (hc : l.length ≤ cap) : (BV A b l pad cap).frozen? ⟨b, i, none⟩ = false := by
  unfold View.frozen? BV
  rw [set_at]
  simp; omega
theorem BV_set {A : View} {b pad cap : Nat} {l : List UInt8} {i : Nat} {x : UInt8} (h : i < l.length) : (BV A b l pad cap).setCell ⟨b, i, none⟩ (bv x) = BV A b (l.set i x) pad cap := by
  have h1 : (BV A b l pad cap) b = some (.cells (cellsOf l pad) 5 (cap, cap + 1)) := set_at _ _ _
  unfold View.setCell
  rw [h1]
  show View.set (BV A b l pad cap) b (.cells ((cellsOf l pad).setIfInBounds i (bv x)) 5 (cap, cap + 1)) = _
  unfold BV
  rw [set_set, cellsOf_set _ _ _ _ h]
theorem BV_cells {A : View} {b pad cap : Nat} {l : List UInt8} {i j : Nat} (hj : j ≤ l.length) : (BV A b l pad cap).cells? ⟨b, i, none⟩ 0 (j - i) = some (((l.take j).drop i).map bv) := by
  refine cells?_intro _ _ _ (by simp; omega) fun m hm => ?_
  rw [at_add, Nat.zero_add, BV_cell (by omega)]
  simp only [List.getElem?_map, List.getElem?_drop, List.getElem?_take]
  rw [if_pos (by omega), List.getElem?_eq_getElem (by omega)]
  rfl
theorem BV_le {A0 A : View} {b pad cap : Nat} {l : List UInt8} (h : A0 ≤ A) (hb : A b = none) : A0 ≤ BV A b l pad cap := View.le_trans h (le_set hb)
theorem mb_val (b : UInt8) : IntKind.u8.wrap (32 + ((b.toNat : Int)).tmod 95) = ((mb b).toNat : Int) := by
  have h := Nat.mod_lt b.toNat (show 95 > 0 by omega)
  rw [mb_nat]
  have : ((b.toNat : Int)).tmod 95 = ((b.toNat % 95 : Nat) : Int) := by rw [Int.ofNat_tmod]; rfl
  rw [this, IntWalk.u8_in _ (by omega)]
  omega
theorem cut1_size (s : ByteArray) : (cut1 s).size ≤ 40 := by
  unfold cut1
  rw [ByteArray.size_extract]
  omega
/-- The parts, as the law makes them. -/
def prt (C : List ByteArray) : List (List UInt8) := C.map fun s => s.data.toList.map mb
theorem prt_plain {C : List ByteArray} (h : ∀ s ∈ C, s.size ≤ 40) : ∀ l ∈ prt C, (∀ b ∈ l, plainB b) ∧ l.length ≤ 1000 := by
  intro l hl
  obtain ⟨s, hs, rfl⟩ := List.mem_map.1 hl
  refine ⟨fun b hb => ?_, ?_⟩
  · obtain ⟨x, _, rfl⟩ := List.mem_map.1 hb
    exact mb_plain x
  · have := h s hs
    have h2 : s.data.size = s.size := rfl
    simp; omega
theorem own_block_ne {A0 A : View} {e : TypeId} {size n b : Nat} {v : Value} {cs : List Value} (h : Own A0 A e size v n cs) (hb : A b = none) : blockOf v ≠ some b := by
  obtain ⟨h1, ⟨rfl, _⟩ | ⟨a, cap, rfl, _⟩⟩ := h
  · simp [blockOf]
  · obtain ⟨c, h3, _⟩ := sliceIn_block h1
    intro hx
    simp only [blockOf, Option.some.injEq] at hx
    rw [hx, hb] at h3
    cases h3
theorem cell_at {A : View} {b pad : Nat} {f : Nat × Nat} {l : List UInt8} {i : Nat} (hA : A b = some (.cells (cellsOf l pad) 5 f)) (h : i < l.length) : A.cell? ⟨b, i, none⟩ = some (bv l[i]) := by
  unfold View.cell?
  rw [hA]
  exact cellsOf_get l pad i h
theorem cells_at {A : View} {b pad : Nat} {f : Nat × Nat} {l : List UInt8} {i j : Nat} (hA : A b = some (.cells (cellsOf l pad) 5 f)) (hj : j ≤ l.length) : A.cells? ⟨b, i, none⟩ 0 (j - i) = some (((l.take j).drop i).map bv) := by
  refine cells?_intro _ _ _ (by simp; omega) fun m hm => ?_
  rw [at_add, Nat.zero_add, cell_at hA (by omega)]
  simp only [List.getElem?_map, List.getElem?_drop, List.getElem?_take]
  rw [if_pos (by omega), List.getElem?_eq_getElem (by omega)]
  rfl
theorem take_drop_snoc (P : List UInt8) (j m : Nat) (h1 : j ≤ m) (h2 : m < P.length) : (P.take (m + 1)).drop j = (P.take m).drop j ++ [P[m]] := by
  rw [List.take_succ_eq_append_getElem h2, List.drop_append_of_le_length (by simp; omega)]
set_option maxHeartbeats 2000000 in
theorem law4 (A : View) (v : Value) (L0 : List ByteArray) (h : Texts A v L0) (hl : L0.length ≤ 9223372036854775807) (hsz : ∀ s ∈ L0, s.size ≤ 9223372036854775807) :
    VCalls Tryd.prog 4 #[v] A fun r A' => r = .bool true ∧ A ≤ A' := by
  refine xcalls Tryd.func4 rfl (by simp [Tryd.ntmps4]) ?_
  simp [go_sem, Tryd.f4]
  refine (fits7 A v L0 h hl).mono ?_
  rintro _ _ ⟨q, rfl, rfl⟩
  cases q with
  | false =>
    simp [go_sem, xunop]
    exact View.le_refl _
  | true =>
  rename_i A
  simp [go_sem, xunop]
  refine (cut8 A v L0 12 h hl (by omega) hsz).mono ?_
  rintro vc A1 ⟨hA1, hown⟩
  have hC : Texts A1 vc (cutl L0 12) := hown.row
  have hCs : ∀ s ∈ cutl L0 12, s.size ≤ 40 := by
    intro s hs
    obtain ⟨x, _, rfl⟩ := List.mem_map.1 hs
    exact cut1_size x
  have hCn : (cutl L0 12).length ≤ 12 := by simp [cutl]; omega
  clear hown
  generalize cutl L0 12 = Cs at hC hCs hCn
  obtain ⟨bc, cc, ec⟩ := hC.slice
  have hPn : (prt Cs).length = Cs.length := by simp [prt]
  simp [go_sem, ec, xlen]
  refine vloopK (fun k e ds A' => ∃ i : Nat, k + i = Cs.length ∧ ds = [] ∧ e 15 = vc ∧ e 16 = .int .i64 Cs.length ∧ e 17 = .int .i64 i ∧ A1 ≤ A' ∧ ∃ vl vw, e 3 = vl ∧ e 4 = vw ∧
      Own A1 A' 9 1 vl i (vals ((prt Cs).take i)) ∧ Own A1 A' 9 1 vw (cl ((prt Cs).take i)).length (vals (cl ((prt Cs).take i))) ∧ apart vl vw) Cs.length
    ⟨0, by simp, rfl, by simp [go_sem, ec], by simp [go_sem], by simp [go_sem], View.le_refl _, .slice none 0 0, .slice none 0 0, by simp [go_sem], by simp [go_sem], by simpa using Own.nil _ _ _ _, by simpa [cl] using Own.nil _ _ _ _, apart_nil⟩ ?_
  rintro k e ds A2 ⟨i, hk, rfl, h15, h16, h17, hA2, vl, vw, h3, h4, hvl, hvw, hap⟩ J X hJ hX
  refine xc_sound _ ?_
  by_cases hi : i < Cs.length
  · obtain ⟨a1, q1, f1, g1⟩ := hC.at' hi
    have g1' := le_cell hA2 g1
    have hps := hCs Cs[i] (List.getElem_mem hi)
    have hPi : (prt Cs)[i]'(by rw [hPn]; exact hi) = Cs[i].data.toList.map mb := by simp [prt]
    have hsucc := cl_succ (prt Cs) i (by rw [hPn]; exact hi)
    have hsuc2 : (prt Cs).take (i + 1) = (prt Cs).take i ++ [Cs[i].data.toList.map mb] := by rw [List.take_succ_eq_append_getElem (by rw [hPn]; exact hi), hPi]
    rw [hPi] at hsucc
    have hpl : Cs[i].data.toList.length = Cs[i].size := by rw [Array.length_toList]; rfl
    have hwi := wrap_nat (i := i) (by omega)
    simp [go_sem, h15, h16, h17, f1, xbin, eqPlain, hi, xindexAt, vload, g1', xconv]
    refine xs2b (S := Cs[i]) Tryd.underlying9 Tryd.underlying26 Tryd.underlying5 (by simp [go_sem]) fun b hb cap hcap => ?_
    rw [byteCells_eq]
    simp [go_sem, xlen]
    generalize Cs[i].data.toList = pl at hpl hsucc hsuc2
    rw [← hpl] at hps hcap ⊢
    generalize cap - pl.length = pad
    change VCode _ _ _ _ _ _ (BV A2 b pl pad cap)
    refine vloopK (fun k e' ds A' => ∃ j : Nat, k + j = pl.length ∧ ds = [] ∧ A' = BV A2 b (ml pl j) pad cap ∧ e' 24 = .int .i64 pl.length ∧ e' 25 = .int .i64 j ∧ e' 7 = .slice (some ⟨b, 0, none⟩) pl.length cap ∧
        e' 3 = vl ∧ e' 4 = vw ∧ e' 15 = vc ∧ e' 16 = .int .i64 Cs.length ∧ e' 17 = .int .i64 i) pl.length
      ⟨0, by simp, rfl, by rw [ml_zero], by simp [go_sem], by simp [go_sem], by simp [go_sem], by simp [go_sem, h3], by simp [go_sem, h4], by simp [go_sem, h15], by simp [go_sem, h16], by simp [go_sem, h17]⟩ ?_
    clear h3 h4 h15 h16 h17
    rintro k' e ds _ ⟨j, hkj, rfl, rfl, h24, h25, h7, h3, h4, h15, h16, h17⟩ J2 X2 hJ2 hX2
    refine xc_sound _ ?_
    by_cases hj : j < pl.length
    · have hml := ml_len pl j
      have hjm : j < (ml pl j).length := by omega
      have hg : (BV A2 b (ml pl j) pad cap).cell? ⟨b, j, none⟩ = some (bv pl[j]) := by rw [BV_cell hjm, ml_at _ _ hj]
      have hst : xstore Tryd.prog 5 (.pointer (some ⟨b, j, none⟩)) (.int .u8 ((mb pl[j]).toNat : Int)) (BV A2 b (ml pl j) pad cap) = some (BV A2 b (ml pl (j + 1)) pad cap) := by
        rw [xstore_cell ti5 rfl hg (BV_frozen hjm (by omega)), ← ml_set _ _ hj]
        exact congrArg some (BV_set hjm)
      have hw := wrap_nat (i := j) (by omega)
      have hv := mb_val pl[j]
      simp [go_sem, h24, h25, h7, xbin, eqPlain, hj, xindexAt, vload, hg, bv, hv, hst, hw]
      exact hJ2 (k' - 1) _ _ _ (by omega) ⟨j + 1, by omega, rfl, rfl, by simp [go_sem, h24], by simp [go_sem], by simp [go_sem, h7], by simp [go_sem, h3], by simp [go_sem, h4], by simp [go_sem, h15], by simp [go_sem, h16], by simp [go_sem, h17]⟩
    · have hj' : j = pl.length := by omega
      subst hj'
      simp [go_sem, h24, h25, xbin, eqPlain]
      refine hX2 _ _ _ _ ?_
      clear hJ2 hX2
      rw [ml_all]
      have hPl : (pl.map mb).length = pl.length := by simp
      have hPp : ∀ x ∈ pl.map mb, plainB x := fun x hx => by
        obtain ⟨y, _, rfl⟩ := List.mem_map.1 hx
        exact mb_plain y
      generalize pl.map mb = P at hPl hPp hsucc hsuc2
      rw [← hPl] at hps hcap h7
      simp [go_sem, xconv, h7, h3]
      refine xb2s (l := P) (a := ⟨b, 0, none⟩) (len := P.length) (cap := cap) Tryd.underlying26 Tryd.underlying5 Tryd.underlying9 (by simp [go_sem, h7]) (by simpa using BV_cells (A := A2) (b := b) (pad := pad) (cap := cap) (l := P) (i := 0) (j := P.length) (Nat.le_refl _)) ?_
      simp [go_sem, h3, xnew, Instr.fill, zerosB, Value.cells]
      intro b2 hb2
      have hA3 : A2 ≤ BV A2 b P pad cap := le_set hb
      have hAA : A1 ≤ BV A2 b P pad cap := View.le_trans hA2 hA3
      have hBb : (BV A2 b P pad cap) b = some (.cells (cellsOf P pad) 5 (cap, cap + 1)) := set_at _ _ _
      refine xappend_own ti23 ti23 (fun k => by simp) ti9 rfl (by decide) ((hvl.le hA3).le (le_set hb2)) (View.le_trans hAA (le_set hb2)) appended_one (by simp) (by simp [one]) (by omega) fun vl' A4 h1' h2' h3' => ?_
      obtain ⟨s1, s2⟩ := own_side ((hvw.le hA3).le (le_set hb2)) hap h3'
      have hb2b : b ≠ b2 := fun hx => by rw [← hx, hBb] at hb2; cases hb2
      obtain ⟨hvlb, hB4⟩ := eraseB_some (h3' b _ ((eraseB_apart (own_block_ne hvl hb)).trans ((set_other hb2b).trans hBb)))
      have hvwb := own_block_ne hvw hb
      have h2' : Own A1 A4 9 1 vl' (i + 1) (vals ((prt Cs).take (i + 1))) := by rw [hsuc2]; simpa [vals] using h2'
      clear h3' hb2 hvl hvw hap hsuc2
      have hn1 : (cl ((prt Cs).take i)).length ≤ 12 := by
        have := cl_len ((prt Cs).take i)
        simp at this; omega
      simp [go_sem, h7, xlen]
      refine vloopK (fun k e' ds A' => ∃ j : Nat, k + j = P.length ∧ ds = [] ∧ A' = A4 ∧ e' 9 = .int .i64 j ∧ e' 10 = .int .i64 P.length ∧ e' 7 = .slice (some ⟨b, 0, none⟩) P.length cap ∧
          e' 3 = vl' ∧ e' 4 = vw ∧ e' 15 = vc ∧ e' 16 = .int .i64 Cs.length ∧ e' 17 = .int .i64 i ∧ fl (P.drop j) = fl P) P.length
        ⟨0, by simp, rfl, rfl, by simp [go_sem], by simp [go_sem], by simp [go_sem, h7], by simp [go_sem], by simp [go_sem, h4], by simp [go_sem, h15], by simp [go_sem, h16], by simp [go_sem, h17], rfl⟩ ?_
      clear h3 h4 h15 h16 h17 h7 h24 h25
      rintro k' e ds A4 ⟨j, hkj, rfl, rfl, h9, h10, h7, h3, h4, h15, h16, h17, hfl⟩ J2 X2 hJ2 hX2
      refine xc_sound _ ?_
      have tail : ∀ e' : Env, e' 9 = .int .i64 j → e' 10 = .int .i64 P.length → e' 7 = .slice (some ⟨b, 0, none⟩) P.length cap → e' 3 = vl' → e' 4 = vw → e' 15 = vc → e' 16 = .int .i64 Cs.length → e' 17 = .int .i64 i →
          fl P = P.drop j → X2 (.exit 4) e' [] A4 := by
        clear h9 h10 h7 h3 h4 h15 h16 h17 hJ2 hfl
        intro e' h9 h10 h7 h3 h4 h15 h16 h17 hfl
        have hjl : j ≤ P.length := by omega
        refine hX2 _ _ _ _ ?_
        clear hX2
        simp [go_sem]
        refine vloopK (fun k e' ds A' => ∃ m : Nat, k + j = m ∧ m ≤ P.length ∧ ds = [] ∧ A' = A4 ∧ e' 9 = .int .i64 j ∧ e' 10 = .int .i64 m ∧ e' 7 = .slice (some ⟨b, 0, none⟩) P.length cap ∧
            e' 3 = vl' ∧ e' 4 = vw ∧ e' 15 = vc ∧ e' 16 = .int .i64 Cs.length ∧ e' 17 = .int .i64 i ∧ rt ((P.take m).drop j) = trm P) (P.length - j)
          ⟨P.length, by omega, Nat.le_refl _, rfl, rfl, h9, h10, h7, h3, h4, h15, h16, h17, by rw [List.take_length, ← hfl]; rfl⟩ ?_
        clear h9 h10 h7 h3 h4 h15 h16 h17
        rintro k' e ds A4 ⟨m, hkm, hm, rfl, rfl, h9, h10, h7, h3, h4, h15, h16, h17, hrt⟩ J2 X2 hJ2 hX2
        refine xc_sound _ ?_
        have tail : ∀ e' : Env, e' 9 = .int .i64 j → e' 10 = .int .i64 m → e' 7 = .slice (some ⟨b, 0, none⟩) P.length cap → e' 3 = vl' → e' 4 = vw → e' 15 = vc → e' 16 = .int .i64 Cs.length → e' 17 = .int .i64 i →
            trm P = (P.take m).drop j → X2 (.exit 6) e' [] A4 := by
          clear h9 h10 h7 h3 h4 h15 h16 h17 hJ2 hrt
          intro e' h9 h10 h7 h3 h4 h15 h16 h17 hrt
          refine hX2 _ _ _ _ ?_
          clear hX2
          by_cases hjm : j < m
          · have hcj : ¬ cap = j := by omega
            have hmc : m ≤ cap := by omega
            have hjm2 : j ≤ m := by omega
            have hne : (trm P).isEmpty = false := by
              rw [hrt]
              cases hq : (P.take m).drop j with
              | nil =>
                have := congrArg List.length hq
                simp at this; omega
              | cons _ _ => rfl
            simp [go_sem, h9, h10, h7, h4, xbin, eqPlain, hjm, xslice, hmc, hjm2, hcj, xconv]
            refine xb2s (l := (P.take m).drop j) (a := ⟨b, j, none⟩) (len := m - j) (cap := cap - j) Tryd.underlying26 Tryd.underlying5 Tryd.underlying9 (by simp [go_sem]) (cells_at hB4 hm) ?_
            rw [← hrt]
            simp [go_sem, h4, xnew, Instr.fill, zerosB, Value.cells]
            intro b3 hb3
            refine xappend_own ti23 ti23 (fun k => by simp) ti9 rfl (by decide) (s1.le (le_set hb3)) (View.le_trans h1' (le_set hb3)) appended_one (by simp) (by simp [one]) (by omega) fun vw' A5 h1'' h2'' h3'' => ?_
            obtain ⟨s3, s4⟩ := own_side (h2'.le (le_set hb3)) (apart_symm s2) h3''
            rw [hne] at hsucc
            simp [go_sem, h17, xbin, eqPlain, hwi]
            refine hJ (k - 1) _ _ _ (by omega) ⟨i + 1, by omega, rfl, by simp [go_sem, h15], by simp [go_sem, h16], by simp [go_sem], h1'', vl', vw', by simp [go_sem, h3], by simp [go_sem], s3, ?_, apart_symm s4⟩
            rw [hsucc]
            simpa [vals] using h2''
          · have hne : (trm P).isEmpty = true := by
              rw [hrt]
              have : (P.take m).drop j = [] := List.drop_eq_nil_of_le (by simp; omega)
              rw [this]; rfl
            rw [hne] at hsucc
            simp [go_sem, h9, h10, xbin, eqPlain, hjm, h17, hwi]
            refine hJ (k - 1) _ _ _ (by omega) ⟨i + 1, by omega, rfl, by simp [go_sem, h15], by simp [go_sem, h16], by simp [go_sem], h1', vl', vw, by simp [go_sem, h3], by simp [go_sem, h4], h2', ?_, s2⟩
            rw [hsucc]
            simpa using s1
        by_cases hjm : j < m
        · obtain ⟨m, rfl⟩ : ∃ m', m = m' + 1 := ⟨m - 1, by omega⟩
          have hg := cell_at hB4 (i := m) (by omega)
          have hw : IntKind.i64.wrap (m : Int) = m := wrap_in (by omega) (by omega)
          have h32 := byte_eq32 P[m]
          have hsn := take_drop_snoc P j m (by omega) (by omega)
          have hm1 : ((m + 1 : Nat) : Int) - 1 = m := by omega
          have hm2 : (m : Int) + 1 - 1 = m := by omega
          have hm3 : (j : Int) < (m : Int) + 1 := by omega
          have hm4 : m < P.length := by omega
          cases hc : (P[m] == 32) with
          | true =>
            rw [hc] at h32
            have hc' : P[m] = 32 := by simpa using hc
            rw [hc'] at hsn
            simp [go_sem, h9, h10, h7, xbin, eqPlain, hm2, hm3, hm4, gval, xindexAt, vload, hg, bv, h32, hw]
            exact hJ2 (k' - 1) _ _ _ (by omega) ⟨m, by omega, by omega, rfl, rfl, by simp [go_sem, h9], by simp [go_sem], by simp [go_sem, h7], by simp [go_sem, h3], by simp [go_sem, h4], by simp [go_sem, h15], by simp [go_sem, h16], by simp [go_sem, h17], by rw [← hrt, hsn, rt_snoc]⟩
          | false =>
            rw [hc] at h32
            have hc' : P[m] ≠ 32 := by simpa using hc
            simp [go_sem, h9, h10, h7, xbin, eqPlain, hm2, hm3, hm4, gval, xindexAt, vload, hg, bv, h32, hw]
            exact tail _ (by simp [go_sem, h9]) (by simp [go_sem, h10]) (by simp [go_sem, h7]) (by simp [go_sem, h3]) (by simp [go_sem, h4]) (by simp [go_sem, h15]) (by simp [go_sem, h16]) (by simp [go_sem, h17]) (by rw [← hrt, hsn, rt_ne hc'])
        · have hjm' : m ≤ j := by omega
          simp [go_sem, h9, h10, xbin, eqPlain, hjm, gval]
          exact tail _ (by simp [go_sem, h9]) (by simp [go_sem, h10]) (by simp [go_sem, h7]) (by simp [go_sem, h3]) (by simp [go_sem, h4]) (by simp [go_sem, h15]) (by simp [go_sem, h16]) (by simp [go_sem, h17]) (by
            have : (P.take m).drop j = [] := List.drop_eq_nil_of_le (by simp; omega)
            rw [← hrt, this, rt_nil])
      by_cases hj : j < P.length
      · have hg := cell_at hB4 hj
        have hw := wrap_nat (i := j) (by omega)
        have h32 := byte_eq32 P[j]
        have hdj : P.drop j = P[j] :: P.drop (j + 1) := List.drop_eq_getElem_cons hj
        cases hc : (P[j] == 32) with
        | true =>
          rw [hc] at h32
          have hc' : P[j] = 32 := by simpa using hc
          rw [hc'] at hdj
          simp [go_sem, h9, h10, h7, xbin, eqPlain, hj, gval, xindexAt, vload, hg, bv, h32, hw]
          exact hJ2 (k' - 1) _ _ _ (by omega) ⟨j + 1, by omega, rfl, rfl, by simp [go_sem], by simp [go_sem, h10], by simp [go_sem, h7], by simp [go_sem, h3], by simp [go_sem, h4], by simp [go_sem, h15], by simp [go_sem, h16], by simp [go_sem, h17], by rw [← hfl, hdj, fl_cons]⟩
        | false =>
          rw [hc] at h32
          have hc' : P[j] ≠ 32 := by simpa using hc
          simp [go_sem, h9, h10, h7, xbin, eqPlain, hj, gval, xindexAt, vload, hg, bv, h32]
          exact tail _ (by simp [go_sem, h9]) (by simp [go_sem, h10]) (by simp [go_sem, h7]) (by simp [go_sem, h3]) (by simp [go_sem, h4]) (by simp [go_sem, h15]) (by simp [go_sem, h16]) (by simp [go_sem, h17]) (by rw [← hfl, hdj, fl_ne hc'])
      · have hj' : j = P.length := by omega
        simp [go_sem, h9, h10, xbin, eqPlain, hj, gval]
        exact tail _ (by simp [go_sem, h9]) (by simp [go_sem, h10]) (by simp [go_sem, h7]) (by simp [go_sem, h3]) (by simp [go_sem, h4]) (by simp [go_sem, h15]) (by simp [go_sem, h16]) (by simp [go_sem, h17]) (by rw [← hfl, List.drop_eq_nil_of_le (by omega), fl_nil])
  · have hi' : i = Cs.length := by omega
    subst hi'
    rw [← hPn, List.take_length] at hvl hvw
    have hPp := prt_plain hCs
    rw [← hPn] at hCn
    clear hC ec hJ
    simp [go_sem, h16, h17, xbin, eqPlain]
    refine hX _ _ _ _ ?_
    clear hX
    have hTl : Texts A2 vl ((prt Cs).map bs) := by
      have := hvl.row
      unfold Texts
      rw [List.map_map, List.length_map]
      exact this
    have hTw : Texts A2 vw ((cl (prt Cs)).map bs) := by
      have := hvw.row
      unfold Texts
      rw [List.map_map, List.length_map]
      exact this
    generalize prt Cs = PL at hTl hTw hPp hCn
    simp [go_sem, h3, h4]
    refine (clean10 A2 vl PL hTl hPp (by omega)).mono ?_
    rintro r A3 ⟨h31, h32⟩
    have hTr : Texts A3 r ((cl PL).map bs) := by
      have := h32.row
      unfold Texts
      rw [List.map_map, List.length_map]
      exact this
    refine (same9 A3 r vw _ _ hTr (hTw.le h31) (by have := cl_len PL; simp; omega)).mono ?_
    rintro _ _ ⟨rfl, rfl⟩
    rename_i A3
    simp [go_sem, gval, xnew, Instr.fill, zerosB, Value.cells]
    intro b hb
    refine (clean10 _ _ [[97]] ?_ ?_ (by decide)).mono ?_
    · exact .inl ⟨_, _, rfl, by simp [View.cells?, View.cell?, View.set, Addr.add]⟩
    · intro l hl
      simp only [List.mem_singleton] at hl
      subst hl
      refine ⟨fun x hx => ?_, by simp⟩
      simp only [List.mem_singleton] at hx
      subst hx
      exact ⟨by decide, by decide⟩
    · rintro r2 A4 ⟨h41, h42⟩
      have hlen : (cl [[97]]).length = 1 := by decide
      rw [hlen] at h42
      obtain ⟨b4, c4, e4⟩ := h42.row.slice
      simp [go_sem, e4, xlen, xbin, eqPlain]
      exact View.le_trans hA1 (View.le_trans hA2 (View.le_trans h31 (View.le_trans (le_set hb) h41)))
theorem law4' (W : World) (v : Value) (y : List ByteArray) (o : Texts (full W) v y ∧ y.length ≤ maxLen ∧ ∀ s ∈ y, s.size ≤ maxLen) :
    VCalls Tryd.prog 4 #[v] (full W) fun r A' => r = .bool true ∧ full W ≤ A' :=
  law4 (full W) v y o.1 (Nat.le_trans o.2.1 (by decide)) fun s hs => Nat.le_trans (o.2.2 s hs) (by decide)
end Go.Proofs.YtdomnigegpigiabDoorV

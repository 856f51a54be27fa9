/- Tables: what is at a key, and at a path. -/
import Derived.Test.YtogfpbnbojhpoaaTQ
import Derived.Test.YtogfpbnbojhpoaaTY
namespace Go.Proofs.YtogfpbnbojhpoaaV
open Go.RowKit
set_option linter.unusedSimpArgs false
set_option linter.unusedVariables false
def atR (s : ByteArray) : List ByteArray → List RV → Option RV
  | k :: ks, x :: xs => if k = s then some x else atR s ks xs
  | _, _ => none
def at' (v : RV) (s : ByteArray) : Option RV := match v with
  | .mk k _ _ _ _ keys list => if k = 7 then atR s keys list else none
theorem atR_some {s : ByteArray} {u : RV} : ∀ {ks : List ByteArray} {xs : List RV}, atR s ks xs = some u → ∃ j, ∃ (h1 : j < ks.length) (h2 : j < xs.length), ks[j] = s ∧ xs[j] = u
  | k :: ks, x :: xs, h => by
    unfold atR at h
    split at h
    · rename_i hk
      exact ⟨0, by simp, by simp, hk, by simpa using h⟩
    · obtain ⟨j, h1, h2, h3, h4⟩ := atR_some h
      exact ⟨j + 1, by simp; omega, by simp; omega, by simpa using h3, by simpa using h4⟩
  | [], _, h => by simp [atR] at h
  | _ :: _, [], h => by simp [atR] at h
theorem atR_none {s : ByteArray} : ∀ {ks : List ByteArray} {xs : List RV}, atR s ks xs = none → ks.length ≤ xs.length → s ∉ ks
  | k :: ks, x :: xs, h, hl => by
    unfold atR at h
    split at h
    · cases h
    · rename_i hk
      have := atR_none h (by simpa using hl)
      simp only [List.mem_cons, not_or]
      exact ⟨fun hx => hk hx.symm, this⟩
  | [], _, _, _ => by simp
  | _ :: _, [], _, hl => by simp at hl
/-- The first places are of no use. -/
theorem atR_skip {s : ByteArray} {ks : List ByteArray} {xs : List RV} : ∀ (j : Nat) (h1 : j ≤ ks.length) (h2 : j ≤ xs.length), (∀ i (h : i < ks.length), i < j → ks[i] ≠ s) → atR s ks xs = atR s (ks.drop j) (xs.drop j)
  | 0, _, _, _ => by simp
  | j + 1, h1, h2, h => by
    rw [atR_skip j (by omega) (by omega) fun i hi hj => h i hi (by omega), List.drop_eq_getElem_cons (by omega), List.drop_eq_getElem_cons (show j < xs.length by omega), atR, if_neg (h j (by omega) (by omega))]
theorem atR_here {s : ByteArray} {ks : List ByteArray} {xs : List RV} {j : Nat} (h1 : j < ks.length) (h2 : j < xs.length) (h : ∀ i (h : i < ks.length), i < j → ks[i] ≠ s) (hs : ks[j] = s) : atR s ks xs = some xs[j] := by
  rw [atR_skip j (by omega) (by omega) h, List.drop_eq_getElem_cons h1, List.drop_eq_getElem_cons h2, atR, if_pos hs]
theorem MapP.look2 {A : View} {r : Nat} {kv : List (ByteArray × Value)} {s : ByteArray} {v : Value} (h : MapP A r kv) (hd : kv.Pairwise (fun a b => a.1 ≠ b.1)) (hm : (s, v) ∈ kv) : xlookup Try.prog 76 (.map (some r)) (.string s) true A = some (.tuple #[v, .bool true]) := by
  obtain ⟨es, c, h1, h2, h3⟩ := h.found hd hm
  have h4 : (sfind s es.toList 0).isSome = true := by
    cases h : sfind s es.toList 0 with
    | none => rw [h] at h3; cases h3
    | some p => rfl
  simp [xlookup, ti76, ti9, ti20, mapAt, h1, h2, zeroOf, h3, h4]
theorem MapP.look0 {A : View} {r : Nat} {kv : List (ByteArray × Value)} {s : ByteArray} (h : MapP A r kv) (hm : ∀ p ∈ kv, p.1 ≠ s) : xlookup Try.prog 76 (.map (some r)) (.string s) true A = some (.tuple #[.nilIface, .bool false]) := by
  obtain ⟨es, c, h1, h2, h3, _⟩ := h
  have hf : sfind s es.toList 0 = none := sfind_none _ _ h2 fun e he => hm (ent e) (h3.subset (List.mem_map_of_mem he))
  simp [xlookup, ti76, ti9, ti20, mapAt, h1, h2, zeroOf, hf]
def Found (v : RV) (s : ByteArray) (r : Value) (A' : View) : Prop := (∃ u c', at' v s = some u ∧ r = .tuple #[.agg c', .bool true] ∧ IsRV A' u c') ∨ (at' v s = none ∧ r = .tuple #[.agg zc, .bool false])
set_option maxRecDepth 20000 in
set_option maxHeartbeats 4000000 in
theorem at40 (A : View) (v : RV) (c : Array Value) (lv : Nat) (s : ByteArray) (hc : IsRV A v c) (hG : Good v lv) : VCalls Try.prog 40 #[.agg c, .string s] A fun r A' => Found v s r A' ∧ A ≤ A' := by
  refine xcalls Try.func40 rfl (by simp [Try.ntmps40]) ?_
  simp only [Try.f40]
  have hcz := hc.size
  obtain ⟨k, b, i, f, t, keys, list⟩ := v
  have hc0 := hc
  rw [IsRV] at hc0
  obtain ⟨ks, ls, hcs, hks, hkl, ⟨bl, cl, rfl⟩, hel⟩ := hc0
  obtain ⟨bk, ck, rfl⟩ := hks.slice
  rw [Good] at hG
  obtain ⟨hlv, hk6, hk7, hkk, hGs⟩ := hG
  refine xc_step fun C hC => ?_
  simp [go_sem, xnew, zeroOf, Value.cells, Instr.fill, zerosB]
  intro q hq m hm
  subst hC
  obtain ⟨dqm, hm2, hQ, hM⟩ := two_blocks (d := zc) (e2 := 27) hm
  have LA : A ≤ (A.set q (.cells c 27)).set m (.cells zc 27) := View.le_trans (le_set hq) (le_set hm)
  have hAm : A m = none := none_le (le_set hq) hm
  have e0 : (A.set q (.cells c 27)).set m (.cells zc 27) = (A.set q (.cells c 27)).set m (.cells zc 27) := rfl
  generalize hB0 : (A.set q (.cells c 27)).set m (.cells zc 27) = B0 at hQ hM LA
  clear hq hm hm2 e0 hB0
  subst hcs
  have hcR : IsRV A (.mk k b i f t keys list) (rvc k b i f t (.slice bk keys.length ck) (.slice bl list.length cl)) := hc
  have c5 := cell_of hQ (i := 5) rfl
  refine xc_step fun C hC => ?_
  simp [go_sem, xfieldAt, vload, c5, xlen]
  refine vloopK (fun k' e ds A' => ∃ j : Nat, k' = keys.length - j ∧ j ≤ keys.length ∧ ds = [] ∧ e 1 = .string s ∧ e 2 = .pointer (some ⟨q, 0, none⟩) ∧ e 4 = .pointer (some ⟨m, 0, none⟩) ∧ e 9 = .slice bk keys.length ck ∧ e 10 = .int .i64 keys.length ∧ e 11 = .int .i64 j ∧ B0 ≤ A' ∧ ∀ i (h : i < keys.length), i < j → keys[i] ≠ s) keys.length
    ⟨0, by omega, by omega, rfl, by simp [go_sem], by simp [go_sem], by simp [go_sem], by simp [go_sem], by simp [go_sem], by simp [go_sem], View.le_refl _, fun i h hi => by omega⟩ ?_
  rintro k' e ds B ⟨j, rfl, hjl, rfl, g1, g2, g4, g9, g10, g11, hB, hne⟩ J X hJ hX
  refine xc_sound _ ?_
  have hAB := View.le_trans LA hB
  by_cases hj : j < keys.length
  · obtain ⟨a, cap, f1, u1⟩ := hks.at' hj
    simp only [Value.slice.injEq] at f1
    obtain ⟨rfl, -, rfl⟩ := f1
    have u1 := le_cell hAB u1
    have h7 : k = 7 := by
      rcases Int.decEq k 7 with h | h
      · rw [hk7 h] at hj; simp at hj
      · exact h
    have hlen : keys.length = list.length := by
      rcases hkk with h | h | h | h | ⟨h, _⟩ | h | ⟨_, _, h⟩
      iterate 6 omega
      exact h
    have hjl2 : j < list.length := by omega
    have hw := wrap_nat (i := j) (by omega)
    have gq := cells_block (hB _ _ hQ) hcz
    refine xc_step fun C3 hC3 => ?_
    simp [go_sem, g10, g11, xbin, eqPlain, hj]
    subst hC3
    refine xc_step fun C3 hC3 => ?_
    simp [go_sem]
    subst hC3
    refine xc_step fun C3 hC3 => ?_
    rw [xc_seq, xc_block]
    refine xc_step fun C2 hC2 => ?_
    simp [go_sem, g9, g11, xindexAt, hj, vload, u1]
    subst hC2
    refine xc_step fun C4 hC4 => ?_
    simp [go_sem, g2, vload, gq]
    refine (isTable23 B _ _ (hcR.le hAB)).mono ?_
    rintro _ B2 ⟨rfl, L2⟩
    subst hC4
    have hbs := bs_beq keys[j] s
    obtain ⟨a2, cap2, cj, f2, u2, hcj⟩ := hel j hjl2
    simp only [Value.slice.injEq] at f2
    obtain ⟨rfl, -, rfl⟩ := f2
    have hAB2 := View.le_trans hAB L2
    have u2 := le_cells hAB2 _ _ _ u2
    have hQ2 := L2 _ _ (hB _ _ hQ)
    have hM2 := L2 _ _ (hB _ _ hM)
    have c6 := cell_of hQ2 (i := 6) rfl
    by_cases hk : keys[j] = s
    · rw [decide_eq_true hk] at hbs
      have st := xstore_agg (vs := cj) (c := zc) ti27 hcj.size hM2 (by rw [hcj.size]; rfl) hcj.one
      have gm := cells_block (n := 7) (set_at B2 m (.cells cj 27)) hcj.size
      simp [go_sem, g1, g2, g4, xbin, eqPlain, gval, undef, kindOf, h7, hbs, xfieldAt, vload, c6, xindexAt, hjl2, u2, st]
      refine hX _ _ _ _ ?_
      simp [go_sem, g4, vload, gm]
      refine ⟨.inl ⟨list[j], cj, ?_, rfl, hcj.le (le_set' hAB2 hAm)⟩, le_set' hAB2 hAm⟩
      unfold at'
      simp only [h7, if_true]
      exact atR_here hj hjl2 hne hk
    · rw [decide_eq_false hk] at hbs
      simp [go_sem, g1, g2, g4, xbin, eqPlain, gval, undef, kindOf, h7, hbs]
      subst hC3
      simp [go_sem, g11, xbin, eqPlain, hw]
      refine hJ (keys.length - (j + 1)) _ _ _ (by omega) ⟨j + 1, rfl, hj, rfl, by simp [go_sem, g1], by simp [go_sem, g2], by simp [go_sem, g4], by simp [go_sem, g9], by simp [go_sem, g10], by simp [go_sem], View.le_trans hB L2, fun i h hi => ?_⟩
      rcases Nat.lt_or_eq_of_le (Nat.le_of_lt_succ hi) with hi | hi
      · exact hne i h hi
      · subst hi; exact hk
  · refine xc_step fun C3 hC3 => ?_
    simp [go_sem, g10, g11, xbin, eqPlain, hj]
    subst hC3
    refine xc_step fun C3 hC3 => ?_
    simp [go_sem]
    refine hX _ _ _ _ ?_
    simp [go_sem]
    subst hC
    have hj' : j = keys.length := by omega
    have st := xstore_agg (vs := zc) (c := zc) ti27 rfl (hB _ _ hM) rfl (by simp [one])
    have gm := cells_block (n := 7) (set_at B m (.cells zc 27)) rfl
    simp [go_sem, g4, xbuild, Instr.fill, Value.cells, st, vload, gm]
    refine ⟨.inr ⟨?_, rfl⟩, le_set' hAB hAm⟩
    unfold at'
    simp only
    split
    · rename_i h7
      have hlen : keys.length = list.length := by
        rcases hkk with h | h | h | h | ⟨h, _⟩ | h | ⟨_, _, h⟩
        iterate 6 omega
        exact h
      rw [atR_skip j (by omega) (by omega) hne, List.drop_of_length_le (by omega)]
      simp [atR]
    · rfl
end Go.Proofs.YtogfpbnbojhpoaaV

/- Shell patterns: the reference's Matches. -/
import Derived.Test.YthjbgpmcfcijgaaDoorPO
namespace Go.Proofs.YthjbgpmcfcijgaaDoorV
open Go.RowKit
open Pm (nb nb_len nb_get nb_drop nb_nil nb_cons nb_extract extract_size' It takes chr1 cls1 clsGo rng pat Mt)
set_option linter.unusedSimpArgs false
set_option linter.unusedVariables false
def bcl (l : List Bool) : Array Value := (l.map Value.bool).toArray
theorem bcl_size (l : List Bool) : (bcl l).size = l.length := by simp [bcl]
theorem bcl_get {l : List Bool} {i : Nat} {b : Bool} (h : l[i]? = some b) : (bcl l)[i]? = some (.bool b) := by
  unfold bcl
  rw [List.getElem?_toArray, List.getElem?_map, h]; rfl
theorem bcl_set (l : List Bool) (i : Nat) (x : Bool) : (bcl l).setIfInBounds i (.bool x) = bcl (l.set i x) := by
  unfold bcl
  rw [List.map_set]
  simp
theorem bcl_rep (m : Nat) : Array.replicate m (Value.bool false) = bcl (List.replicate m false) := by
  unfold bcl
  apply Array.ext'
  simp
theorem bstore {D : View} {L : List (Nat × Obj)} (hP : Priv D (addrs L)) {b i : Nat} {l : List Bool} (hD : D b = some (.cells (bcl l) 4 (0, 0))) (hi : i < l.length) (x : Bool) :
    stB Tryd.prog 4 (.pointer (some ⟨b, i, none⟩)) (.bool x) D L = some (ov (D.set b (.cells (bcl (l.set i x)) 4 (0, 0))) L) ∧ Priv (D.set b (.cells (bcl (l.set i x)) 4 (0, 0))) (addrs L) := by
  obtain ⟨e1, e2⟩ := ov_set_base hP (o' := .cells (bcl (l.set i x)) 4 (0, 0)) hD
  refine ⟨?_, e2⟩
  unfold stB
  rw [xstore_field (P := Tryd.prog) (t := 4) ti4 (ov_base hP hD) (by rw [bcl_size]; exact hi) rfl, bcl_set, e1]
/-- A row of the reference: of which first pieces of the name the items so far are. -/
structure May (its : List It) (t : List Nat) (l : List Bool) (m : Nat) : Prop where
  len : l.length = t.length + 1
  at' : ∀ i, i < m → (l[i]? = some true ↔ Mt its (t.take i))
theorem May.val {its : List It} {t : List Nat} {l : List Bool} {m : Nat} (h : May its t l m) {i : Nat} (hi : i < m) (hl : i ≤ t.length) : ∃ b, l[i]? = some b ∧ (b = true ↔ Mt its (t.take i)) := by
  have h1 : i < l.length := by rw [h.len]; omega
  refine ⟨l[i], List.getElem?_eq_getElem h1, ?_⟩
  rw [← h.at' i hi, List.getElem?_eq_getElem h1, Option.some.injEq]
theorem May.put {its : List It} {t : List Nat} {l : List Bool} {i : Nat} {x : Bool} (h : May its t l i) (hi : i ≤ t.length) (hx : x = true ↔ Mt its (t.take i)) : May its t (l.set i x) (i + 1) := by
  refine ⟨by rw [List.length_set]; exact h.len, fun k hk => ?_⟩
  by_cases hki : k = i
  · subst hki
    rw [List.getElem?_set_self (by rw [h.len]; omega), Option.some.injEq]
    exact hx
  · rw [List.getElem?_set_ne (fun e => hki e.symm)]
    exact h.at' k (by omega)
theorem May.zero (t : List Nat) : May [] t ((List.replicate (t.length + 1) false).set 0 true) (t.length + 1) := by
  refine ⟨by simp, fun i hi => ?_⟩
  rw [show Mt [] (t.take i) ↔ t.take i = [] from Iff.rfl]
  cases i with
  | zero => simp
  | succ i =>
    rw [List.getElem?_set_ne (by omega), List.getElem?_replicate, if_pos (by omega)]
    constructor
    · intro h; cases h
    · intro h
      have := congrArg List.length h
      rw [List.length_take, List.length_nil] at this
      omega
theorem Rn.elem {A : View} {b o n cap : Nat} {l : List Nat} (h : Rn A (.slice (some ⟨b, o, none⟩) n cap) l) {i : Nat} (hi : i < l.length) : A.cell? ⟨b, o + i, none⟩ = some (.int .i32 (l[i] : Nat)) := by
  obtain ⟨b', o', cap', h1, h2, h3⟩ := h
  simp only [Value.slice.injEq, Option.some.injEq, Addr.mk.injEq, and_true] at h1
  obtain ⟨⟨rfl, rfl⟩, -, rfl⟩ := h1
  exact h3 i hi
theorem May.keep {its : List It} {t : List Nat} {l : List Bool} {i : Nat} (h : May its t l i) (hl : l[i]? = some false) (hn : ¬ Mt its (t.take i)) : May its t l (i + 1) := by
  refine ⟨h.len, fun k hk => ?_⟩
  by_cases hki : k = i
  · subst hki
    rw [hl]
    exact ⟨fun h => (by cases h), fun h => absurd h hn⟩
  · exact h.at' k (by omega)
theorem IsIt.kind {A : View} {x : It} {c : Array Value} (h : IsIt A x c) (hx : x ≠ .star) : ∃ k n rv c0, c = itc k n rv c0 ∧ k ≠ 42 := by
  cases x with
  | star => exact absurd rfl hx
  | any => exact ⟨_, _, _, _, h, by decide⟩
  | chr k => exact ⟨_, _, _, _, h, by decide⟩
  | cls n rs => obtain ⟨rv, h1, _⟩ := h; exact ⟨_, _, _, _, h1, by decide⟩
set_option maxRecDepth 20000 in
set_option maxHeartbeats 8000000 in
theorem matches9 (A : View) (v : Value) (items : List It) (s : ByteArray) (h : Its A v items) (hil : items.length ≤ 1000) (hs : s.size ≤ 200) (ha : Asc s) (hcl : ∀ x ∈ items, ∀ n rs, x = .cls n rs → rs.length ≤ 1000000) :
    VCalls Tryd.prog 9 #[v, .string s] A fun r A' => BQ (fun b => b = true ↔ Mt items (nb s)) r ∧ A ≤ A' := by
  have hsl := nb_len s
  obtain ⟨bs, cp, rfl, hel⟩ := h
  refine xcalls Tryd.func9 rfl (by simp [Tryd.ntmps9]) ?_
  simp only [Tryd.f9]
  have hP : Priv A (addrs []) := Priv.nil A
  show xc _ _ _ _ _ _ (ov A [])
  refine xc_two fun N1 hN1 => ?_
  refine xc_reg1 1 rfl fun K hK => ?_
  simp only [show (List.range 1).map (·, true) = [(0, true)] from rfl, rslv_cons, rslv_nil, List.getElem?_toArray, List.getElem?_cons_zero, List.getElem?_cons_succ, gres]
  (refine seqX_hide2 fun R hR => ?_; simp [go_sem]; refine hR _ _ _ ?_; clear hR R)
  rw [seqX_nil]
  refine hK _ _ _ ?_; clear hK K
  refine hN1 _ _ _ ?_
  refine xc_two fun N2 hN2 => ?_
  refine xc_reg1 3 rfl fun K hK => ?_
  simp only [show (List.range 3).map (·, true) = [(0, true), (1, true), (2, true)] from rfl, rslv_cons, rslv_nil, List.getElem?_toArray, List.getElem?_cons_zero, List.getElem?_cons_succ, gres]
  (refine seqX_hide2 fun R hR => ?_; simp [go_sem]; refine hR _ _ _ ?_; clear hR R)
  refine seqX_hide2 fun R hR => ?_
  simp [go_sem]
  refine xs2r (S := s) Tryd.underlying9 Tryd.underlying48 Tryd.underlying21 (asc_rune ha) (by simp [go_sem]) fun b hb cap hcap => ?_
  have lb : A ≤ A.set b (.cells (runeCells s cap) 21 (0, 0)) := le_set hb
  have hRn : Rn (A.set b (.cells (runeCells s cap) 21 (0, 0))) (.slice (some ⟨b, 0, none⟩) s.size cap) (nb s) := Rn.of hcap (set_at _ _ _)
  show R _ _ (ov (A.set b (.cells (runeCells s cap) 21 (0, 0))) [])
  generalize A.set b (.cells (runeCells s cap) 21 (0, 0)) = A1 at lb hRn ⊢
  replace hP : Priv A1 (addrs []) := Priv.nil A1
  have hwn : IntKind.i64.wrap ((s.size : Int) + 1) = ((s.size + 1 : Nat) : Int) := wrap_nat (by omega)
  refine hR _ _ _ ?_; clear hR R
  (refine seqX_hide2 fun R hR => ?_; simp [go_sem, hwn]; refine hR _ _ _ ?_; clear hR R)
  rw [seqX_nil]
  refine hK _ _ _ ?_; clear hK K
  refine hN2 _ _ _ ?_
  refine xc_two fun N3 hN3 => ?_
  refine xc_reg1 5 rfl fun K hK => ?_
  simp only [show (List.range 5).map (·, true) = [(0, true), (1, true), (2, true), (3, true), (4, true)] from rfl, rslv_cons, rslv_nil, List.getElem?_toArray, List.getElem?_cons_zero, List.getElem?_cons_succ, gres]
  iterate 3 (refine seqX_hide2 fun R hR => ?_; simp [go_sem, hwn]; refine hR _ _ _ ?_; clear hR R)
  refine seqX_hide2 fun R hR => ?_
  simp [go_sem, hwn]
  refine xmks (m := s.size + 1) (z := .bool false) Tryd.underlying54 ti4 rfl (by simp [go_sem]) (by simp [go_sem]) (by omega) (by omega) (by omega) fun bm0 hbm0 => ?_
  rw [show (Value.bool false).cells[0]'(by decide) = Value.bool false from rfl, bcl_rep]
  have lm : A1 ≤ A1.set bm0 (.cells (bcl (List.replicate (s.size + 1) false)) 4 (0, 0)) := le_set hbm0
  have hm1 : (A1.set bm0 (.cells (bcl (List.replicate (s.size + 1) false)) 4 (0, 0))) bm0 = some (.cells (bcl (List.replicate (s.size + 1) false)) 4 (0, 0)) := set_at _ _ _
  show R _ _ (ov (A1.set bm0 (.cells (bcl (List.replicate (s.size + 1) false)) 4 (0, 0))) [])
  generalize A1.set bm0 (.cells (bcl (List.replicate (s.size + 1) false)) 4 (0, 0)) = D0 at lm hm1 ⊢
  replace hP : Priv D0 (addrs []) := Priv.nil D0
  rw [ov_nil] at hbm0
  have hst := (bstore hP hm1 (i := 0) (by simp) true).1
  have h01 : (0 : Int) < (s.size : Int) + 1 := by omega
  refine hR _ _ _ ?_; clear hR R
  (refine seqX_hide2 fun R hR => ?_; simp [go_sem, hwn, hst, h01, xindexAt]; refine hR _ _ _ ?_; clear hR R)
  rw [seqX_nil]
  refine hK _ _ _ ?_; clear hK K
  refine hN3 _ _ _ ?_
  refine xc_two fun N4 hN4 => ?_
  refine xc_reg1 3 rfl fun K hK => ?_
  simp only [show (List.range 3).map (·, true) = [(0, true), (1, true), (2, true)] from rfl, rslv_cons, rslv_nil, List.getElem?_toArray, List.getElem?_cons_zero, List.getElem?_cons_succ, gres]
  iterate 2 (refine seqX_hide2 fun R hR => ?_; simp [go_sem, hwn, hst, h01, xindexAt]; refine hR _ _ _ ?_; clear hR R)
  refine seqX_hide2 fun R hR => ?_
  simp [go_sem, hwn, hst, h01, xindexAt]
  refine hR _ _ _ ?_; clear hR R
  rw [seqX_nil]
  refine hK _ _ _ ?_; clear hK K
  refine hN4 _ _ _ ?_
  refine xc_two fun N5 hN5 => ?_
  refine xc_two fun N6 hN6 => ?_
  refine xc_reg1 3 rfl fun K hK => ?_
  simp only [show (List.range 3).map (·, true) = [(0, true), (1, true), (2, true)] from rfl, rslv_cons, rslv_nil, List.getElem?_toArray, List.getElem?_cons_zero, List.getElem?_cons_succ, gres]
  iterate 3 (refine seqX_hide2 fun R hR => ?_; simp [go_sem, hwn, hst, h01, xindexAt]; refine hR _ _ _ ?_; clear hR R)
  rw [seqX_nil]
  refine hK _ _ _ ?_; clear hK K
  refine hN6 _ _ _ ?_
  rw [xc_block]
  have hmay0 := May.zero (nb s)
  rw [hsl] at hmay0
  have lD1 : A1 ≤ D0.set bm0 (.cells (bcl ((List.replicate (s.size + 1) false).set 0 true)) 4 (0, 0)) := fun k o hk => by
    rw [set_other (fun hx => by rw [hx] at hk; rw [hk] at hbm0; cases hbm0)]
    exact lm _ _ hk
  rw [xc_loop]
  refine vloopK (fun k' e ds A' => ∃ (j : Nat) (D : View) (bm : Nat) (l : List Bool), k' = items.length - j ∧ ds = [] ∧ A' = ov D [] ∧ Priv D [] ∧ e 5 = .slice (some ⟨b, 0, none⟩) s.size cap ∧ e 6 = .slice (some ⟨bm, 0, none⟩) (s.size + 1) (s.size + 1) ∧ e 19 = .slice bs items.length cp ∧ e 20 = .int .i64 items.length ∧ e 21 = .int .i64 j ∧ (j ≤ items.length) ∧ (A1 ≤ D) ∧ (D bm = some (.cells (bcl l) 4 (0, 0))) ∧ (A1 bm = none) ∧ (May (items.take j) (nb s) l (s.size + 1))) _ ⟨0, D0.set bm0 (.cells (bcl ((List.replicate (s.size + 1) false).set 0 true)) 4 (0, 0)), bm0, (List.replicate (s.size + 1) false).set 0 true, rfl, rfl, rfl, hP, by simp [go_sem, hwn, hst, h01, xindexAt], by simp [go_sem, hwn, hst, h01, xindexAt], by simp [go_sem, hwn, hst, h01, xindexAt], by simp [go_sem, hwn, hst, h01, xindexAt], by simp [go_sem, hwn, hst, h01, xindexAt], by omega, lD1, set_at _ _ _, hbm0, hmay0⟩ ?_
  clear hP
  rintro k' e ds A' ⟨j, D, bm, l, rfl, rfl, hV, hP, g5, g6, g19, g20, g21, hjl, hAD, hbm, hA1m, hmay⟩ J1 X1 hJ1 hX1
  refine xc_sound _ ?_
  replace hV := Eq.symm hV; subst hV; replace hP : Priv D (addrs []) := hP
  have hw1 := wrap_nat (i := j) (by omega)
  by_cases hj : j < items.length
  rotate_left
  · rw [List.take_of_length_le (by omega)] at hmay
    obtain ⟨x, hx1, hx2⟩ := hmay.val (i := s.size) (by omega) (by omega)
    rw [List.take_of_length_le (by omega)] at hx2
    have hcell := cell_of hbm (bcl_get hx1)
    have hsi : (s.size : Int) < (s.size : Int) + 1 := by omega
    refine xc_two fun N7 hN7 => ?_
    refine xc_reg1 1 rfl fun K hK => ?_
    simp only [show (List.range 1).map (·, true) = [(0, true)] from rfl, rslv_cons, rslv_nil, List.getElem?_toArray, List.getElem?_cons_zero, List.getElem?_cons_succ, gres]
    (refine seqX_hide2 fun R hR => ?_; simp [go_sem, hwn, h01, xindexAt, g5, g6, g19, g20, g21, hj, hsi, bc hP hcell]; refine hR _ _ _ ?_; clear hR R)
    rw [seqX_nil]
    refine hK _ _ _ ?_; clear hK K
    refine hN7 _ _ _ ?_
    refine xc_two fun N8 hN8 => ?_
    refine xc_iffalse (by simp [go_sem, hwn, h01, xindexAt, g5, g6, g19, g20, g21, hj, hsi, bc hP hcell]) ?_
    refine hX1 _ _ _ _ ?_
    refine hN5 _ _ _ ?_
    refine xc_two fun N9 hN9 => ?_
    refine xc_reg1 6 rfl fun K hK => ?_
    simp only [show (List.range 6).map (·, true) = [(0, true), (1, true), (2, true), (3, true), (4, true), (5, true)] from rfl, rslv_cons, rslv_nil, List.getElem?_toArray, List.getElem?_cons_zero, List.getElem?_cons_succ, gres]
    iterate 6 (refine seqX_hide2 fun R hR => ?_; simp [go_sem, hwn, h01, xindexAt, g5, g6, g19, g20, g21, hj, hsi, bc hP hcell]; refine hR _ _ _ ?_; clear hR R)
    rw [seqX_nil]
    refine hK _ _ _ ?_; clear hK K
    refine hN9 _ _ _ ?_
    simp [go_sem, hwn, h01, xindexAt, g5, g6, g19, g20, g21, hj, hsi, bc hP hcell]
    exact ⟨⟨x, rfl, hx2⟩, View.le_trans lb hAD⟩
  obtain ⟨a, ci, rfl, u1, hci⟩ := hel j hj
  have htk : items.take (j + 1) = items.take j ++ [items[j]] := List.take_succ_eq_append_getElem hj
  have hclx := hcl _ (List.getElem_mem hj)
  have u1 := le_cells (View.le_trans lb hAD) _ _ _ u1
  have hci := hci.le lb
  generalize items[j] = x at hci htk hclx
  have hcz := hci.size
  have hco := hci.ones
  refine xc_two fun N7 hN7 => ?_
  refine xc_reg1 1 rfl fun K hK => ?_
  simp only [show (List.range 1).map (·, true) = [(0, true)] from rfl, rslv_cons, rslv_nil, List.getElem?_toArray, List.getElem?_cons_zero, List.getElem?_cons_succ, gres]
  (refine seqX_hide2 fun R hR => ?_; simp [go_sem, hwn, h01, xindexAt, g5, g6, g19, g20, g21, hj, hw1, hcz, hco, bcs hP u1]; refine hR _ _ _ ?_; clear hR R)
  rw [seqX_nil]
  refine hK _ _ _ ?_; clear hK K
  refine hN7 _ _ _ ?_
  refine xc_two fun N8 hN8 => ?_
  refine xc_iftrue (by simp [go_sem, hwn, h01, xindexAt, g5, g6, g19, g20, g21, hj, hw1, hcz, hco, bcs hP u1]) ?_
  refine hN8 _ _ _ ?_
  refine xc_two fun N9 hN9 => ?_
  rw [xc_block]
  refine xc_two fun N10 hN10 => ?_
  refine xc_reg1 4 rfl fun K hK => ?_
  simp only [show (List.range 4).map (·, true) = [(0, true), (1, true), (2, true), (3, true)] from rfl, rslv_cons, rslv_nil, List.getElem?_toArray, List.getElem?_cons_zero, List.getElem?_cons_succ, gres]
  iterate 2 (refine seqX_hide2 fun R hR => ?_; simp [go_sem, hwn, h01, xindexAt, g5, g6, g19, g20, g21, hj, hw1, hcz, hco, bcs hP u1]; refine hR _ _ _ ?_; clear hR R)
  refine seqX_hide2 fun R hR => ?_
  simp [go_sem, hwn, h01, xindexAt, g5, g6, g19, g20, g21, hj, hw1, hcz, hco, bcs hP u1]
  intro q8 hq8
  replace hP := hP.cons hq8
  clear hq8
  refine hR _ _ _ ?_; clear hR R
  refine seqX_hide2 fun R hR => ?_
  simp [go_sem, hwn, h01, xindexAt, g5, g6, g19, g20, g21, hj, hw1, hcz, hco, bcs hP u1]
  refine hR _ _ _ ?_; clear hR R
  rw [seqX_nil]
  refine hK _ _ _ ?_; clear hK K
  refine hN10 _ _ _ ?_
  refine xc_two fun N11 hN11 => ?_
  refine xc_reg1 5 rfl fun K hK => ?_
  simp only [show (List.range 5).map (·, true) = [(0, true), (1, true), (2, true), (3, true), (4, true)] from rfl, rslv_cons, rslv_nil, List.getElem?_toArray, List.getElem?_cons_zero, List.getElem?_cons_succ, gres]
  iterate 3 (refine seqX_hide2 fun R hR => ?_; simp [go_sem, hwn, h01, xindexAt, g5, g6, g19, g20, g21, hj, hw1, hcz, hco, bcs hP u1]; refine hR _ _ _ ?_; clear hR R)
  refine seqX_hide2 fun R hR => ?_
  simp [go_sem, hwn, h01, xindexAt, g5, g6, g19, g20, g21, hj, hw1, hcz, hco, bcs hP u1]
  refine xmks (m := s.size + 1) (z := .bool false) Tryd.underlying54 ti4 rfl (by simp [go_sem]) (by simp [go_sem]) (by omega) (by omega) (by omega) fun q28 hq28 => ?_
  rw [show (Value.bool false).cells[0]'(by decide) = Value.bool false from rfl, bcl_rep]
  replace hP := hP.cons hq28
  show R _ _ (ov D [(q28, .cells (bcl (List.replicate (s.size + 1) false)) 4 (0, 0)), (q8, .cells ci 51 (0, 0))])
  have d288 : q28 ≠ q8 := (hP.ne q8 (by simp [addrs])).1
  have d828 : q8 ≠ q28 := (hP.ne q8 (by simp [addrs])).2
  refine sink_goal 0 hP rfl fun hPn lq28 nq28 => ?_
  clear hP; have hP := hPn; clear hPn
  simp only [List.eraseIdx_cons_zero, List.eraseIdx_cons_succ, addrs_cons, addrs_nil] at hP ⊢
  have hbn : (D.set q28 (.cells (bcl (List.replicate (s.size + 1) false)) 4 (0, 0))) q28 = some (.cells (bcl (List.replicate (s.size + 1) false)) 4 (0, 0)) := set_at _ _ _
  have hnm : q28 ≠ bm := fun hx => by rw [hx, hbm] at nq28; cases nq28
  have hbm1 := lq28 _ _ hbm
  have hAn : A1 q28 = none := none_le hAD nq28
  generalize D.set q28 (.cells (bcl (List.replicate (s.size + 1) false)) 4 (0, 0)) = D1 at hP lq28 hbn hbm1 ⊢
  refine hR _ _ _ ?_; clear hR R
  (refine seqX_hide2 fun R hR => ?_; simp [go_sem, hwn, h01, xindexAt, g5, g6, g19, g20, g21, hj, hw1, hcz, hco, d288, d828]; refine hR _ _ _ ?_; clear hR R)
  rw [seqX_nil]
  refine hK _ _ _ ?_; clear hK K
  refine hN11 _ _ _ ?_
  refine xc_two fun N12 hN12 => ?_
  refine xc_two fun N13 hN13 => ?_
  refine xc_reg1 3 rfl fun K hK => ?_
  simp only [show (List.range 3).map (·, true) = [(0, true), (1, true), (2, true)] from rfl, rslv_cons, rslv_nil, List.getElem?_toArray, List.getElem?_cons_zero, List.getElem?_cons_succ, gres]
  iterate 3 (refine seqX_hide2 fun R hR => ?_; simp [go_sem, hwn, h01, xindexAt, g5, g6, g19, g20, g21, hj, hw1, hcz, hco, d288, d828]; refine hR _ _ _ ?_; clear hR R)
  rw [seqX_nil]
  refine hK _ _ _ ?_; clear hK K
  refine hN13 _ _ _ ?_
  rw [xc_block]
  rw [xc_loop]
  refine vloopK (fun k' e ds A' => ∃ (i : Nat) (D2 : View) (l2 : List Bool), k' = s.size + 1 - i ∧ ds = [] ∧ A' = ov D2 [(q8, .cells ci 51 (0, 0))] ∧ Priv D2 [q8] ∧ e 5 = .slice (some ⟨b, 0, none⟩) s.size cap ∧ e 6 = .slice (some ⟨bm, 0, none⟩) (s.size + 1) (s.size + 1) ∧ e 8 = .pointer (some ⟨q8, 0, none⟩) ∧ e 9 = .slice (some ⟨q28, 0, none⟩) (s.size + 1) (s.size + 1) ∧ e 19 = .slice (some a) items.length cp ∧ e 20 = .int .i64 items.length ∧ e 21 = .int .i64 j ∧ e 29 = .slice (some ⟨q28, 0, none⟩) (s.size + 1) (s.size + 1) ∧ e 30 = .int .i64 (s.size + 1 : Nat) ∧ e 31 = .int .i64 i ∧ (i ≤ s.size + 1) ∧ (A1 ≤ D2) ∧ (D2 q28 = some (.cells (bcl l2) 4 (0, 0))) ∧ (D2 bm = some (.cells (bcl l) 4 (0, 0))) ∧ (May (items.take (j + 1)) (nb s) l2 i) ∧ (∀ k, i ≤ k → k ≤ s.size → l2[k]? = some false)) _ ⟨0, D1, List.replicate (s.size + 1) false, rfl, rfl, rfl, hP, by simp [go_sem, hwn, h01, xindexAt, g5, g6, g19, g20, g21, hj, hw1, hcz, hco, d288, d828], by simp [go_sem, hwn, h01, xindexAt, g5, g6, g19, g20, g21, hj, hw1, hcz, hco, d288, d828], by simp [go_sem, hwn, h01, xindexAt, g5, g6, g19, g20, g21, hj, hw1, hcz, hco, d288, d828], by simp [go_sem, hwn, h01, xindexAt, g5, g6, g19, g20, g21, hj, hw1, hcz, hco, d288, d828], by simp [go_sem, hwn, h01, xindexAt, g5, g6, g19, g20, g21, hj, hw1, hcz, hco, d288, d828], by simp [go_sem, hwn, h01, xindexAt, g5, g6, g19, g20, g21, hj, hw1, hcz, hco, d288, d828], by simp [go_sem, hwn, h01, xindexAt, g5, g6, g19, g20, g21, hj, hw1, hcz, hco, d288, d828], by simp [go_sem, hwn, h01, xindexAt, g5, g6, g19, g20, g21, hj, hw1, hcz, hco, d288, d828], by simp [go_sem, hwn, h01, xindexAt, g5, g6, g19, g20, g21, hj, hw1, hcz, hco, d288, d828], by simp [go_sem, hwn, h01, xindexAt, g5, g6, g19, g20, g21, hj, hw1, hcz, hco, d288, d828], by omega, View.le_trans hAD lq28, hbn, hbm1, ⟨by simp [hsl], fun k hk => by omega⟩, fun k _ hk => by rw [List.getElem?_replicate, if_pos (by omega)]⟩ ?_
  clear g5 g6 g19 g20 g21
  clear hP
  rintro k' e ds _ ⟨i, D2, l2, rfl, rfl, rfl, hP, g5, g6, g8, g9, g19, g20, g21, g29, g30, g31, hin, hAD2, hbn2, hbm2, hm2, hf2⟩ J2 X2 hJ2 hX2
  refine xc_sound _ ?_
  have hw2 := wrap_nat (i := i) (by omega)
  by_cases hi : i < s.size + 1
  rotate_left
  · have hii : ¬ (i : Int) < (s.size : Int) + 1 := by omega
    have hie : i = s.size + 1 := by omega
    refine xc_two fun N14 hN14 => ?_
    refine xc_reg1 1 rfl fun K hK => ?_
    simp only [show (List.range 1).map (·, true) = [(0, true)] from rfl, rslv_cons, rslv_nil, List.getElem?_toArray, List.getElem?_cons_zero, List.getElem?_cons_succ, gres]
    (refine seqX_hide2 fun R hR => ?_; simp [go_sem, hwn, h01, xindexAt, hj, hw1, hcz, hco, d288, d828, g5, g6, g8, g9, g19, g20, g21, g29, g30, g31, hi, hii]; refine hR _ _ _ ?_; clear hR R)
    rw [seqX_nil]
    refine hK _ _ _ ?_; clear hK K
    refine hN14 _ _ _ ?_
    refine xc_two fun N15 hN15 => ?_
    refine xc_iffalse (by simp [go_sem, hwn, h01, xindexAt, hj, hw1, hcz, hco, d288, d828, g5, g6, g8, g9, g19, g20, g21, g29, g30, g31, hi, hii]) ?_
    refine hX2 _ _ _ _ ?_
    refine hN12 _ _ _ ?_
    refine xc_reg1 2 rfl fun K hK => ?_
    simp only [show (List.range 2).map (·, true) = [(0, true), (1, true)] from rfl, rslv_cons, rslv_nil, List.getElem?_toArray, List.getElem?_cons_zero, List.getElem?_cons_succ, gres]
    iterate 2 (refine seqX_hide2 fun R hR => ?_; simp [go_sem, hwn, h01, xindexAt, hj, hw1, hcz, hco, d288, d828, g5, g6, g8, g9, g19, g20, g21, g29, g30, g31, hi, hii]; refine hR _ _ _ ?_; clear hR R)
    rw [seqX_nil]
    refine hK _ _ _ ?_; clear hK K
    refine hN9 _ _ _ ?_
    refine xc_reg1 2 rfl fun K hK => ?_
    simp only [show (List.range 2).map (·, true) = [(0, true), (1, true)] from rfl, rslv_cons, rslv_nil, List.getElem?_toArray, List.getElem?_cons_zero, List.getElem?_cons_succ, gres]
    iterate 2 (refine seqX_hide2 fun R hR => ?_; simp [go_sem, hwn, h01, xindexAt, hj, hw1, hcz, hco, d288, d828, g5, g6, g8, g9, g19, g20, g21, g29, g30, g31, hi, hii]; refine hR _ _ _ ?_; clear hR R)
    rw [seqX_nil]
    refine hK _ _ _ ?_; clear hK K
    refine sink_goal 0 hP rfl fun hPn lq8 nq8 => ?_
    clear hP; have hP := hPn; clear hPn
    simp only [List.eraseIdx_cons_zero, List.eraseIdx_cons_succ, addrs_cons, addrs_nil] at hP ⊢
    refine hJ1 (items.length - (j + 1)) _ _ _ (by omega) ⟨j + 1, _, q28, l2, rfl, rfl, rfl, hP, by simp [go_sem, hwn, h01, xindexAt, hj, hw1, hcz, hco, d288, d828, g5, g6, g8, g9, g19, g20, g21, g29, g30, g31, hi, hii], by simp [go_sem, hwn, h01, xindexAt, hj, hw1, hcz, hco, d288, d828, g5, g6, g8, g9, g19, g20, g21, g29, g30, g31, hi, hii], by simp [go_sem, hwn, h01, xindexAt, hj, hw1, hcz, hco, d288, d828, g5, g6, g8, g9, g19, g20, g21, g29, g30, g31, hi, hii], by simp [go_sem, hwn, h01, xindexAt, hj, hw1, hcz, hco, d288, d828, g5, g6, g8, g9, g19, g20, g21, g29, g30, g31, hi, hii], by simp [go_sem, hwn, h01, xindexAt, hj, hw1, hcz, hco, d288, d828, g5, g6, g8, g9, g19, g20, g21, g29, g30, g31, hi, hii], by omega, View.le_trans hAD2 lq8, lq8 _ _ hbn2, hAn, by rw [← hie]; exact hm2⟩
  have hii : (i : Int) < (s.size : Int) + 1 := by omega
  have hl2l : l2.length = s.size + 1 := by rw [hm2.len, hsl]
  obtain ⟨mi, hmi1, hmi2⟩ := hmay.val (i := i) (by omega) (by omega)
  have cmi := cell_of hbm2 (bcl_get hmi1)
  have hput : ∀ x : Bool, (x = true ↔ Mt (items.take (j + 1)) ((nb s).take i)) → May (items.take (j + 1)) (nb s) (l2.set i x) (i + 1) := fun x hx => hm2.put (by omega) hx
  have hfput : ∀ x : Bool, ∀ k, i + 1 ≤ k → k ≤ s.size → (l2.set i x)[k]? = some false := fun x k hk1 hk2 => by
    rw [List.getElem?_set_ne (by omega)]; exact hf2 k (by omega) hk2
  have hsetle : ∀ o, A1 ≤ D2.set q28 o := fun o k ob hk => by
    rw [set_other (fun hx => by rw [hx, hAn] at hk; cases hk)]; exact hAD2 _ _ hk
  have hsetm : ∀ o, (D2.set q28 o) bm = some (.cells (bcl l) 4 (0, 0)) := fun o => by
    rw [set_other (fun hx => hnm hx.symm)]; exact hbm2
  rw [htk] at hput
  have hst := fun x => (bstore (L := [(q8, .cells ci 51 (0, 0))]) hP hbn2 (i := i) (by omega) x)
  by_cases hx : x = .star
  · subst hx
    obtain rfl : ci = itc 42 false (.slice none 0 0) 0 := hci
    have hiff := Pm.Mt_snoc_star (a := items.take j) (s := nb s) (i := i) (by omega)
    cases mi with
    | true =>
      have hb := (hst true).1
      refine xc_two fun N14 hN14 => ?_
      refine xc_reg1 1 rfl fun K hK => ?_
      simp only [show (List.range 1).map (·, true) = [(0, true)] from rfl, rslv_cons, rslv_nil, List.getElem?_toArray, List.getElem?_cons_zero, List.getElem?_cons_succ, gres]
      (refine seqX_hide2 fun R hR => ?_; simp [go_sem, hwn, h01, xindexAt, hj, hw1, hcz, hco, d288, d828, g5, g6, g8, g9, g19, g20, g21, g29, g30, g31, hi, hii, hw2, bc hP cmi, hb]; refine hR _ _ _ ?_; clear hR R)
      rw [seqX_nil]
      refine hK _ _ _ ?_; clear hK K
      refine hN14 _ _ _ ?_
      refine xc_two fun N15 hN15 => ?_
      refine xc_iftrue (by simp [go_sem, hwn, h01, xindexAt, hj, hw1, hcz, hco, d288, d828, g5, g6, g8, g9, g19, g20, g21, g29, g30, g31, hi, hii, hw2, bc hP cmi, hb]) ?_
      refine hN15 _ _ _ ?_
      refine xc_two fun N16 hN16 => ?_
      rw [xc_block]
      refine xc_two fun N17 hN17 => ?_
      refine xc_reg1 2 rfl fun K hK => ?_
      simp only [show (List.range 2).map (·, true) = [(0, true), (1, true)] from rfl, rslv_cons, rslv_nil, List.getElem?_toArray, List.getElem?_cons_zero, List.getElem?_cons_succ, gres]
      iterate 2 (refine seqX_hide2 fun R hR => ?_; simp [go_sem, hwn, h01, xindexAt, hj, hw1, hcz, hco, d288, d828, g5, g6, g8, g9, g19, g20, g21, g29, g30, g31, hi, hii, hw2, bc hP cmi, hb]; refine hR _ _ _ ?_; clear hR R)
      rw [seqX_nil]
      refine hK _ _ _ ?_; clear hK K
      refine hN17 _ _ _ ?_
      rw [xc_block]
      refine xc_two fun N18 hN18 => ?_
      refine xc_reg1 4 rfl fun K hK => ?_
      simp only [show (List.range 4).map (·, true) = [(0, true), (1, true), (2, true), (3, true)] from rfl, rslv_cons, rslv_nil, List.getElem?_toArray, List.getElem?_cons_zero, List.getElem?_cons_succ, gres]
      iterate 4 (refine seqX_hide2 fun R hR => ?_; simp [go_sem, hwn, h01, xindexAt, hj, hw1, hcz, hco, d288, d828, g5, g6, g8, g9, g19, g20, g21, g29, g30, g31, hi, hii, hw2, bc hP cmi, hb]; refine hR _ _ _ ?_; clear hR R)
      rw [seqX_nil]
      refine hK _ _ _ ?_; clear hK K
      refine hN18 _ _ _ ?_
      refine xc_iftrue (by simp [go_sem, hwn, h01, xindexAt, hj, hw1, hcz, hco, d288, d828, g5, g6, g8, g9, g19, g20, g21, g29, g30, g31, hi, hii, hw2, bc hP cmi, hb]) ?_
      refine xc_reg1 27 rfl fun K hK => ?_
      simp only [show (List.range 27).map (·, true) = [(0, true), (1, true), (2, true), (3, true), (4, true), (5, true), (6, true), (7, true), (8, true), (9, true), (10, true), (11, true), (12, true), (13, true), (14, true), (15, true), (16, true), (17, true), (18, true), (19, true), (20, true), (21, true), (22, true), (23, true), (24, true), (25, true), (26, true)] from rfl, rslv_cons, rslv_nil, List.getElem?_toArray, List.getElem?_cons_zero, List.getElem?_cons_succ, gres]
      iterate 26 (refine seqX_hide2 fun R hR => ?_; simp [go_sem, hwn, h01, xindexAt, hj, hw1, hcz, hco, d288, d828, g5, g6, g8, g9, g19, g20, g21, g29, g30, g31, hi, hii, hw2, bc hP cmi, hb]; refine hR _ _ _ ?_; clear hR R)
      refine seqX_hide2 fun R hR => ?_
      simp [go_sem, hwn, h01, xindexAt, hj, hw1, hcz, hco, d288, d828, g5, g6, g8, g9, g19, g20, g21, g29, g30, g31, hi, hii, hw2, bc hP cmi, hb]
      refine hR _ _ _ ?_; clear hR R
      rw [seqX_nil]
      refine hK _ _ _ ?_; clear hK K
      refine hN16 _ _ _ ?_
      refine xc_reg1 2 rfl fun K hK => ?_
      simp only [show (List.range 2).map (·, true) = [(0, true), (1, true)] from rfl, rslv_cons, rslv_nil, List.getElem?_toArray, List.getElem?_cons_zero, List.getElem?_cons_succ, gres]
      iterate 2 (refine seqX_hide2 fun R hR => ?_; simp [go_sem, hwn, h01, xindexAt, hj, hw1, hcz, hco, d288, d828, g5, g6, g8, g9, g19, g20, g21, g29, g30, g31, hi, hii, hw2, bc hP cmi, hb]; refine hR _ _ _ ?_; clear hR R)
      rw [seqX_nil]
      refine hK _ _ _ ?_; clear hK K
      have hP := (hst true).2
      refine hJ2 (s.size + 1 - (i + 1)) _ _ _ (by omega) ⟨i + 1, D2.set q28 (.cells (bcl (l2.set i true)) 4 (0, 0)), l2.set i true, rfl, rfl, rfl, hP, by simp [go_sem, hwn, h01, xindexAt, hj, hw1, hcz, hco, d288, d828, g5, g6, g8, g9, g19, g20, g21, g29, g30, g31, hi, hii, hw2, hb], by simp [go_sem, hwn, h01, xindexAt, hj, hw1, hcz, hco, d288, d828, g5, g6, g8, g9, g19, g20, g21, g29, g30, g31, hi, hii, hw2, hb], by simp [go_sem, hwn, h01, xindexAt, hj, hw1, hcz, hco, d288, d828, g5, g6, g8, g9, g19, g20, g21, g29, g30, g31, hi, hii, hw2, hb], by simp [go_sem, hwn, h01, xindexAt, hj, hw1, hcz, hco, d288, d828, g5, g6, g8, g9, g19, g20, g21, g29, g30, g31, hi, hii, hw2, hb], by simp [go_sem, hwn, h01, xindexAt, hj, hw1, hcz, hco, d288, d828, g5, g6, g8, g9, g19, g20, g21, g29, g30, g31, hi, hii, hw2, hb], by simp [go_sem, hwn, h01, xindexAt, hj, hw1, hcz, hco, d288, d828, g5, g6, g8, g9, g19, g20, g21, g29, g30, g31, hi, hii, hw2, hb], by simp [go_sem, hwn, h01, xindexAt, hj, hw1, hcz, hco, d288, d828, g5, g6, g8, g9, g19, g20, g21, g29, g30, g31, hi, hii, hw2, hb], by simp [go_sem, hwn, h01, xindexAt, hj, hw1, hcz, hco, d288, d828, g5, g6, g8, g9, g19, g20, g21, g29, g30, g31, hi, hii, hw2, hb], by simp [go_sem, hwn, h01, xindexAt, hj, hw1, hcz, hco, d288, d828, g5, g6, g8, g9, g19, g20, g21, g29, g30, g31, hi, hii, hw2, hb], by simp [go_sem, hwn, h01, xindexAt, hj, hw1, hcz, hco, d288, d828, g5, g6, g8, g9, g19, g20, g21, g29, g30, g31, hi, hii, hw2, hb], by omega, hsetle _, set_at _ _ _, hsetm _, by rw [htk]; exact hput true ⟨fun _ => hiff.2 (.inl (hmi2.1 rfl)), fun _ => rfl⟩, hfput true⟩
    | false =>
      have hnm2 : ¬ Mt (items.take j) ((nb s).take i) := fun h => by have := hmi2.2 h; cases this
      by_cases h0 : 0 < i
      rotate_left
      · obtain rfl : i = 0 := by omega
        have hb := (hst false).1
        have hw00 : IntKind.i64.wrap 1 = 1 := by decide
        refine xc_two fun N14 hN14 => ?_
        refine xc_reg1 1 rfl fun K hK => ?_
        simp only [show (List.range 1).map (·, true) = [(0, true)] from rfl, rslv_cons, rslv_nil, List.getElem?_toArray, List.getElem?_cons_zero, List.getElem?_cons_succ, gres]
        (refine seqX_hide2 fun R hR => ?_; simp [go_sem, hwn, h01, xindexAt, hj, hw1, hcz, hco, d288, d828, g5, g6, g8, g9, g19, g20, g21, g29, g30, g31, hi, hii, hw2, bc hP cmi, hb, hw00]; refine hR _ _ _ ?_; clear hR R)
        rw [seqX_nil]
        refine hK _ _ _ ?_; clear hK K
        refine hN14 _ _ _ ?_
        refine xc_two fun N15 hN15 => ?_
        refine xc_iftrue (by simp [go_sem, hwn, h01, xindexAt, hj, hw1, hcz, hco, d288, d828, g5, g6, g8, g9, g19, g20, g21, g29, g30, g31, hi, hii, hw2, bc hP cmi, hb, hw00]) ?_
        refine hN15 _ _ _ ?_
        refine xc_two fun N16 hN16 => ?_
        rw [xc_block]
        refine xc_two fun N17 hN17 => ?_
        refine xc_reg1 2 rfl fun K hK => ?_
        simp only [show (List.range 2).map (·, true) = [(0, true), (1, true)] from rfl, rslv_cons, rslv_nil, List.getElem?_toArray, List.getElem?_cons_zero, List.getElem?_cons_succ, gres]
        iterate 2 (refine seqX_hide2 fun R hR => ?_; simp [go_sem, hwn, h01, xindexAt, hj, hw1, hcz, hco, d288, d828, g5, g6, g8, g9, g19, g20, g21, g29, g30, g31, hi, hii, hw2, bc hP cmi, hb, hw00]; refine hR _ _ _ ?_; clear hR R)
        rw [seqX_nil]
        refine hK _ _ _ ?_; clear hK K
        refine hN17 _ _ _ ?_
        rw [xc_block]
        refine xc_two fun N18 hN18 => ?_
        refine xc_reg1 4 rfl fun K hK => ?_
        simp only [show (List.range 4).map (·, true) = [(0, true), (1, true), (2, true), (3, true)] from rfl, rslv_cons, rslv_nil, List.getElem?_toArray, List.getElem?_cons_zero, List.getElem?_cons_succ, gres]
        iterate 4 (refine seqX_hide2 fun R hR => ?_; simp [go_sem, hwn, h01, xindexAt, hj, hw1, hcz, hco, d288, d828, g5, g6, g8, g9, g19, g20, g21, g29, g30, g31, hi, hii, hw2, bc hP cmi, hb, hw00]; refine hR _ _ _ ?_; clear hR R)
        rw [seqX_nil]
        refine hK _ _ _ ?_; clear hK K
        refine hN18 _ _ _ ?_
        refine xc_iftrue (by simp [go_sem, hwn, h01, xindexAt, hj, hw1, hcz, hco, d288, d828, g5, g6, g8, g9, g19, g20, g21, g29, g30, g31, hi, hii, hw2, bc hP cmi, hb, hw00]) ?_
        refine xc_reg1 27 rfl fun K hK => ?_
        simp only [show (List.range 27).map (·, true) = [(0, true), (1, true), (2, true), (3, true), (4, true), (5, true), (6, true), (7, true), (8, true), (9, true), (10, true), (11, true), (12, true), (13, true), (14, true), (15, true), (16, true), (17, true), (18, true), (19, true), (20, true), (21, true), (22, true), (23, true), (24, true), (25, true), (26, true)] from rfl, rslv_cons, rslv_nil, List.getElem?_toArray, List.getElem?_cons_zero, List.getElem?_cons_succ, gres]
        iterate 26 (refine seqX_hide2 fun R hR => ?_; simp [go_sem, hwn, h01, xindexAt, hj, hw1, hcz, hco, d288, d828, g5, g6, g8, g9, g19, g20, g21, g29, g30, g31, hi, hii, hw2, bc hP cmi, hb, hw00]; refine hR _ _ _ ?_; clear hR R)
        refine seqX_hide2 fun R hR => ?_
        simp [go_sem, hwn, h01, xindexAt, hj, hw1, hcz, hco, d288, d828, g5, g6, g8, g9, g19, g20, g21, g29, g30, g31, hi, hii, hw2, bc hP cmi, hb, hw00]
        refine hR _ _ _ ?_; clear hR R
        rw [seqX_nil]
        refine hK _ _ _ ?_; clear hK K
        refine hN16 _ _ _ ?_
        refine xc_reg1 2 rfl fun K hK => ?_
        simp only [show (List.range 2).map (·, true) = [(0, true), (1, true)] from rfl, rslv_cons, rslv_nil, List.getElem?_toArray, List.getElem?_cons_zero, List.getElem?_cons_succ, gres]
        iterate 2 (refine seqX_hide2 fun R hR => ?_; simp [go_sem, hwn, h01, xindexAt, hj, hw1, hcz, hco, d288, d828, g5, g6, g8, g9, g19, g20, g21, g29, g30, g31, hi, hii, hw2, bc hP cmi, hb, hw00]; refine hR _ _ _ ?_; clear hR R)
        rw [seqX_nil]
        refine hK _ _ _ ?_; clear hK K
        have hP := (hst false).2
        refine hJ2 (s.size + 1 - (0 + 1)) _ _ _ (by omega) ⟨0 + 1, D2.set q28 (.cells (bcl (l2.set 0 false)) 4 (0, 0)), l2.set 0 false, rfl, rfl, rfl, hP, by simp [go_sem, hwn, h01, xindexAt, hj, hw1, hcz, hco, d288, d828, g5, g6, g8, g9, g19, g20, g21, g29, g30, g31, hi, hii, hw2, hb, hw00], by simp [go_sem, hwn, h01, xindexAt, hj, hw1, hcz, hco, d288, d828, g5, g6, g8, g9, g19, g20, g21, g29, g30, g31, hi, hii, hw2, hb, hw00], by simp [go_sem, hwn, h01, xindexAt, hj, hw1, hcz, hco, d288, d828, g5, g6, g8, g9, g19, g20, g21, g29, g30, g31, hi, hii, hw2, hb, hw00], by simp [go_sem, hwn, h01, xindexAt, hj, hw1, hcz, hco, d288, d828, g5, g6, g8, g9, g19, g20, g21, g29, g30, g31, hi, hii, hw2, hb, hw00], by simp [go_sem, hwn, h01, xindexAt, hj, hw1, hcz, hco, d288, d828, g5, g6, g8, g9, g19, g20, g21, g29, g30, g31, hi, hii, hw2, hb, hw00], by simp [go_sem, hwn, h01, xindexAt, hj, hw1, hcz, hco, d288, d828, g5, g6, g8, g9, g19, g20, g21, g29, g30, g31, hi, hii, hw2, hb, hw00], by simp [go_sem, hwn, h01, xindexAt, hj, hw1, hcz, hco, d288, d828, g5, g6, g8, g9, g19, g20, g21, g29, g30, g31, hi, hii, hw2, hb, hw00], by simp [go_sem, hwn, h01, xindexAt, hj, hw1, hcz, hco, d288, d828, g5, g6, g8, g9, g19, g20, g21, g29, g30, g31, hi, hii, hw2, hb, hw00], by simp [go_sem, hwn, h01, xindexAt, hj, hw1, hcz, hco, d288, d828, g5, g6, g8, g9, g19, g20, g21, g29, g30, g31, hi, hii, hw2, hb, hw00], by simp [go_sem, hwn, h01, xindexAt, hj, hw1, hcz, hco, d288, d828, g5, g6, g8, g9, g19, g20, g21, g29, g30, g31, hi, hii, hw2, hb, hw00], by omega, hsetle _, set_at _ _ _, hsetm _, by rw [htk]; exact hput false ⟨fun h => (by cases h), fun h => ((hiff.1 h).elim hnm2 fun h => absurd h.1 (by omega)) |> False.elim⟩, hfput false⟩
      obtain ⟨k, rfl⟩ : ∃ k, i = k + 1 := ⟨i - 1, by omega⟩
      have hks : k < s.size := by omega
      have hwk : IntKind.i64.wrap (k : Int) = (k : Int) := wrap_in (by omega) (by omega)
      have hwk2 : IntKind.i64.wrap ((k : Int) + 1 - 1) = (k : Int) := by rw [wrap_in (by omega) (by omega)]; omega
      have hki : (k : Int) < (s.size : Int) + 1 := by omega
      have hki2 : (k : Int) < s.size := by omega
      have hki3 : (0 : Int) < (k : Int) + 1 := by omega
      have hki4 : (k : Int) + 1 < (s.size : Int) + 1 := by omega
      have hki5 : (k : Int) < (s.size : Int) := by omega
      have hki6 : (0 : Int) ≤ (k : Int) + 1 := by omega
      have hw33 : IntKind.i64.wrap ((k : Int) + 1 + 1) = (k : Int) + 1 + 1 := wrap_in (by omega) (by omega)
      have cr := le_cell hAD2 (hRn.elem (i := k) (by omega))
      rw [Nat.zero_add] at cr
      obtain ⟨y, hy1, hy2⟩ := hm2.val (i := k) (by omega) (by omega)
      have cy := cell_of hbn2 (bcl_get hy1)
      rw [htk] at hy2
      have hiff2 : Mt (items.take j ++ [.star]) ((nb s).take (k + 1)) ↔ (y = true ∧ (nb s)[k]'(by omega) ≠ 47) := by
        rw [hiff]
        constructor
        · rintro (h | ⟨h1, h2, h3⟩)
          · exact absurd h hnm2
          · exact ⟨hy2.2 (by simpa using h2), by simpa using h3⟩
        · rintro ⟨h1, h2⟩
          exact .inr ⟨by omega, by simpa using hy2.1 h1, by simpa using h2⟩
      generalize (nb s)[k]'(by omega) = ck at cr hiff2
      cases y with
      | false =>
        have hb := (hst false).1
        refine xc_two fun N14 hN14 => ?_
        refine xc_reg1 1 rfl fun K hK => ?_
        simp only [show (List.range 1).map (·, true) = [(0, true)] from rfl, rslv_cons, rslv_nil, List.getElem?_toArray, List.getElem?_cons_zero, List.getElem?_cons_succ, gres]
        (refine seqX_hide2 fun R hR => ?_; simp [go_sem, hwn, h01, xindexAt, hj, hw1, hcz, hco, d288, d828, g5, g6, g8, g9, g19, g20, g21, g29, g30, g31, hi, hii, hw2, bc hP cmi, hwk, hwk2, hki, hki2, hki3, hki4, hki5, hki6, hw33, bc hP cr, bc hP cy, vload, hb]; refine hR _ _ _ ?_; clear hR R)
        rw [seqX_nil]
        refine hK _ _ _ ?_; clear hK K
        refine hN14 _ _ _ ?_
        refine xc_two fun N15 hN15 => ?_
        refine xc_iftrue (by simp [go_sem, hwn, h01, xindexAt, hj, hw1, hcz, hco, d288, d828, g5, g6, g8, g9, g19, g20, g21, g29, g30, g31, hi, hii, hw2, bc hP cmi, hwk, hwk2, hki, hki2, hki3, hki4, hki5, hki6, hw33, bc hP cr, bc hP cy, vload, hb]) ?_
        refine hN15 _ _ _ ?_
        refine xc_two fun N16 hN16 => ?_
        rw [xc_block]
        refine xc_two fun N17 hN17 => ?_
        refine xc_reg1 2 rfl fun K hK => ?_
        simp only [show (List.range 2).map (·, true) = [(0, true), (1, true)] from rfl, rslv_cons, rslv_nil, List.getElem?_toArray, List.getElem?_cons_zero, List.getElem?_cons_succ, gres]
        iterate 2 (refine seqX_hide2 fun R hR => ?_; simp [go_sem, hwn, h01, xindexAt, hj, hw1, hcz, hco, d288, d828, g5, g6, g8, g9, g19, g20, g21, g29, g30, g31, hi, hii, hw2, bc hP cmi, hwk, hwk2, hki, hki2, hki3, hki4, hki5, hki6, hw33, bc hP cr, bc hP cy, vload, hb]; refine hR _ _ _ ?_; clear hR R)
        rw [seqX_nil]
        refine hK _ _ _ ?_; clear hK K
        refine hN17 _ _ _ ?_
        rw [xc_block]
        refine xc_two fun N18 hN18 => ?_
        refine xc_reg1 4 rfl fun K hK => ?_
        simp only [show (List.range 4).map (·, true) = [(0, true), (1, true), (2, true), (3, true)] from rfl, rslv_cons, rslv_nil, List.getElem?_toArray, List.getElem?_cons_zero, List.getElem?_cons_succ, gres]
        iterate 4 (refine seqX_hide2 fun R hR => ?_; simp [go_sem, hwn, h01, xindexAt, hj, hw1, hcz, hco, d288, d828, g5, g6, g8, g9, g19, g20, g21, g29, g30, g31, hi, hii, hw2, bc hP cmi, hwk, hwk2, hki, hki2, hki3, hki4, hki5, hki6, hw33, bc hP cr, bc hP cy, vload, hb]; refine hR _ _ _ ?_; clear hR R)
        rw [seqX_nil]
        refine hK _ _ _ ?_; clear hK K
        refine hN18 _ _ _ ?_
        refine xc_iftrue (by simp [go_sem, hwn, h01, xindexAt, hj, hw1, hcz, hco, d288, d828, g5, g6, g8, g9, g19, g20, g21, g29, g30, g31, hi, hii, hw2, bc hP cmi, hwk, hwk2, hki, hki2, hki3, hki4, hki5, hki6, hw33, bc hP cr, bc hP cy, vload, hb]) ?_
        refine xc_reg1 27 rfl fun K hK => ?_
        simp only [show (List.range 27).map (·, true) = [(0, true), (1, true), (2, true), (3, true), (4, true), (5, true), (6, true), (7, true), (8, true), (9, true), (10, true), (11, true), (12, true), (13, true), (14, true), (15, true), (16, true), (17, true), (18, true), (19, true), (20, true), (21, true), (22, true), (23, true), (24, true), (25, true), (26, true)] from rfl, rslv_cons, rslv_nil, List.getElem?_toArray, List.getElem?_cons_zero, List.getElem?_cons_succ, gres]
        iterate 26 (refine seqX_hide2 fun R hR => ?_; simp [go_sem, hwn, h01, xindexAt, hj, hw1, hcz, hco, d288, d828, g5, g6, g8, g9, g19, g20, g21, g29, g30, g31, hi, hii, hw2, bc hP cmi, hwk, hwk2, hki, hki2, hki3, hki4, hki5, hki6, hw33, bc hP cr, bc hP cy, vload, hb]; refine hR _ _ _ ?_; clear hR R)
        refine seqX_hide2 fun R hR => ?_
        simp [go_sem, hwn, h01, xindexAt, hj, hw1, hcz, hco, d288, d828, g5, g6, g8, g9, g19, g20, g21, g29, g30, g31, hi, hii, hw2, bc hP cmi, hwk, hwk2, hki, hki2, hki3, hki4, hki5, hki6, hw33, bc hP cr, bc hP cy, vload, hb]
        refine hR _ _ _ ?_; clear hR R
        rw [seqX_nil]
        refine hK _ _ _ ?_; clear hK K
        refine hN16 _ _ _ ?_
        refine xc_reg1 2 rfl fun K hK => ?_
        simp only [show (List.range 2).map (·, true) = [(0, true), (1, true)] from rfl, rslv_cons, rslv_nil, List.getElem?_toArray, List.getElem?_cons_zero, List.getElem?_cons_succ, gres]
        iterate 2 (refine seqX_hide2 fun R hR => ?_; simp [go_sem, hwn, h01, xindexAt, hj, hw1, hcz, hco, d288, d828, g5, g6, g8, g9, g19, g20, g21, g29, g30, g31, hi, hii, hw2, bc hP cmi, hwk, hwk2, hki, hki2, hki3, hki4, hki5, hki6, hw33, bc hP cr, bc hP cy, vload, hb]; refine hR _ _ _ ?_; clear hR R)
        rw [seqX_nil]
        refine hK _ _ _ ?_; clear hK K
        have hP := (hst false).2
        refine hJ2 (s.size + 1 - (k + 1 + 1)) _ _ _ (by omega) ⟨k + 1 + 1, D2.set q28 (.cells (bcl (l2.set (k + 1) false)) 4 (0, 0)), l2.set (k + 1) false, rfl, rfl, rfl, hP, by simp [go_sem, hwn, h01, xindexAt, hj, hw1, hcz, hco, d288, d828, g5, g6, g8, g9, g19, g20, g21, g29, g30, g31, hi, hii, hw2, hwk, hwk2, hki, hki2, hki3, hki4, hki5, hki6, hw33, vload, hb], by simp [go_sem, hwn, h01, xindexAt, hj, hw1, hcz, hco, d288, d828, g5, g6, g8, g9, g19, g20, g21, g29, g30, g31, hi, hii, hw2, hwk, hwk2, hki, hki2, hki3, hki4, hki5, hki6, hw33, vload, hb], by simp [go_sem, hwn, h01, xindexAt, hj, hw1, hcz, hco, d288, d828, g5, g6, g8, g9, g19, g20, g21, g29, g30, g31, hi, hii, hw2, hwk, hwk2, hki, hki2, hki3, hki4, hki5, hki6, hw33, vload, hb], by simp [go_sem, hwn, h01, xindexAt, hj, hw1, hcz, hco, d288, d828, g5, g6, g8, g9, g19, g20, g21, g29, g30, g31, hi, hii, hw2, hwk, hwk2, hki, hki2, hki3, hki4, hki5, hki6, hw33, vload, hb], by simp [go_sem, hwn, h01, xindexAt, hj, hw1, hcz, hco, d288, d828, g5, g6, g8, g9, g19, g20, g21, g29, g30, g31, hi, hii, hw2, hwk, hwk2, hki, hki2, hki3, hki4, hki5, hki6, hw33, vload, hb], by simp [go_sem, hwn, h01, xindexAt, hj, hw1, hcz, hco, d288, d828, g5, g6, g8, g9, g19, g20, g21, g29, g30, g31, hi, hii, hw2, hwk, hwk2, hki, hki2, hki3, hki4, hki5, hki6, hw33, vload, hb], by simp [go_sem, hwn, h01, xindexAt, hj, hw1, hcz, hco, d288, d828, g5, g6, g8, g9, g19, g20, g21, g29, g30, g31, hi, hii, hw2, hwk, hwk2, hki, hki2, hki3, hki4, hki5, hki6, hw33, vload, hb], by simp [go_sem, hwn, h01, xindexAt, hj, hw1, hcz, hco, d288, d828, g5, g6, g8, g9, g19, g20, g21, g29, g30, g31, hi, hii, hw2, hwk, hwk2, hki, hki2, hki3, hki4, hki5, hki6, hw33, vload, hb], by simp [go_sem, hwn, h01, xindexAt, hj, hw1, hcz, hco, d288, d828, g5, g6, g8, g9, g19, g20, g21, g29, g30, g31, hi, hii, hw2, hwk, hwk2, hki, hki2, hki3, hki4, hki5, hki6, hw33, vload, hb], by simp [go_sem, hwn, h01, xindexAt, hj, hw1, hcz, hco, d288, d828, g5, g6, g8, g9, g19, g20, g21, g29, g30, g31, hi, hii, hw2, hwk, hwk2, hki, hki2, hki3, hki4, hki5, hki6, hw33, vload, hb], by omega, hsetle _, set_at _ _ _, hsetm _, by rw [htk]; exact hput false ⟨fun h => (by cases h), fun h => (by have := (hiff2.1 h).1; cases this)⟩, hfput false⟩
      | true =>
        by_cases h47 : ck = 47
        · subst h47
          have hb := (hst false).1
          have hc47 : (((47 : Nat) : Int) != 47) = false := by decide
          refine xc_two fun N14 hN14 => ?_
          refine xc_reg1 1 rfl fun K hK => ?_
          simp only [show (List.range 1).map (·, true) = [(0, true)] from rfl, rslv_cons, rslv_nil, List.getElem?_toArray, List.getElem?_cons_zero, List.getElem?_cons_succ, gres]
          (refine seqX_hide2 fun R hR => ?_; simp [go_sem, hwn, h01, xindexAt, hj, hw1, hcz, hco, d288, d828, g5, g6, g8, g9, g19, g20, g21, g29, g30, g31, hi, hii, hw2, bc hP cmi, hwk, hwk2, hki, hki2, hki3, hki4, hki5, hki6, hw33, bc hP cr, bc hP cy, vload, hb, hc47]; refine hR _ _ _ ?_; clear hR R)
          rw [seqX_nil]
          refine hK _ _ _ ?_; clear hK K
          refine hN14 _ _ _ ?_
          refine xc_two fun N15 hN15 => ?_
          refine xc_iftrue (by simp [go_sem, hwn, h01, xindexAt, hj, hw1, hcz, hco, d288, d828, g5, g6, g8, g9, g19, g20, g21, g29, g30, g31, hi, hii, hw2, bc hP cmi, hwk, hwk2, hki, hki2, hki3, hki4, hki5, hki6, hw33, bc hP cr, bc hP cy, vload, hb, hc47]) ?_
          refine hN15 _ _ _ ?_
          refine xc_two fun N16 hN16 => ?_
          rw [xc_block]
          refine xc_two fun N17 hN17 => ?_
          refine xc_reg1 2 rfl fun K hK => ?_
          simp only [show (List.range 2).map (·, true) = [(0, true), (1, true)] from rfl, rslv_cons, rslv_nil, List.getElem?_toArray, List.getElem?_cons_zero, List.getElem?_cons_succ, gres]
          iterate 2 (refine seqX_hide2 fun R hR => ?_; simp [go_sem, hwn, h01, xindexAt, hj, hw1, hcz, hco, d288, d828, g5, g6, g8, g9, g19, g20, g21, g29, g30, g31, hi, hii, hw2, bc hP cmi, hwk, hwk2, hki, hki2, hki3, hki4, hki5, hki6, hw33, bc hP cr, bc hP cy, vload, hb, hc47]; refine hR _ _ _ ?_; clear hR R)
          rw [seqX_nil]
          refine hK _ _ _ ?_; clear hK K
          refine hN17 _ _ _ ?_
          rw [xc_block]
          refine xc_two fun N18 hN18 => ?_
          refine xc_reg1 4 rfl fun K hK => ?_
          simp only [show (List.range 4).map (·, true) = [(0, true), (1, true), (2, true), (3, true)] from rfl, rslv_cons, rslv_nil, List.getElem?_toArray, List.getElem?_cons_zero, List.getElem?_cons_succ, gres]
          iterate 4 (refine seqX_hide2 fun R hR => ?_; simp [go_sem, hwn, h01, xindexAt, hj, hw1, hcz, hco, d288, d828, g5, g6, g8, g9, g19, g20, g21, g29, g30, g31, hi, hii, hw2, bc hP cmi, hwk, hwk2, hki, hki2, hki3, hki4, hki5, hki6, hw33, bc hP cr, bc hP cy, vload, hb, hc47]; refine hR _ _ _ ?_; clear hR R)
          rw [seqX_nil]
          refine hK _ _ _ ?_; clear hK K
          refine hN18 _ _ _ ?_
          refine xc_iftrue (by simp [go_sem, hwn, h01, xindexAt, hj, hw1, hcz, hco, d288, d828, g5, g6, g8, g9, g19, g20, g21, g29, g30, g31, hi, hii, hw2, bc hP cmi, hwk, hwk2, hki, hki2, hki3, hki4, hki5, hki6, hw33, bc hP cr, bc hP cy, vload, hb, hc47]) ?_
          refine xc_reg1 27 rfl fun K hK => ?_
          simp only [show (List.range 27).map (·, true) = [(0, true), (1, true), (2, true), (3, true), (4, true), (5, true), (6, true), (7, true), (8, true), (9, true), (10, true), (11, true), (12, true), (13, true), (14, true), (15, true), (16, true), (17, true), (18, true), (19, true), (20, true), (21, true), (22, true), (23, true), (24, true), (25, true), (26, true)] from rfl, rslv_cons, rslv_nil, List.getElem?_toArray, List.getElem?_cons_zero, List.getElem?_cons_succ, gres]
          iterate 26 (refine seqX_hide2 fun R hR => ?_; simp [go_sem, hwn, h01, xindexAt, hj, hw1, hcz, hco, d288, d828, g5, g6, g8, g9, g19, g20, g21, g29, g30, g31, hi, hii, hw2, bc hP cmi, hwk, hwk2, hki, hki2, hki3, hki4, hki5, hki6, hw33, bc hP cr, bc hP cy, vload, hb, hc47]; refine hR _ _ _ ?_; clear hR R)
          refine seqX_hide2 fun R hR => ?_
          simp [go_sem, hwn, h01, xindexAt, hj, hw1, hcz, hco, d288, d828, g5, g6, g8, g9, g19, g20, g21, g29, g30, g31, hi, hii, hw2, bc hP cmi, hwk, hwk2, hki, hki2, hki3, hki4, hki5, hki6, hw33, bc hP cr, bc hP cy, vload, hb, hc47]
          refine hR _ _ _ ?_; clear hR R
          rw [seqX_nil]
          refine hK _ _ _ ?_; clear hK K
          refine hN16 _ _ _ ?_
          refine xc_reg1 2 rfl fun K hK => ?_
          simp only [show (List.range 2).map (·, true) = [(0, true), (1, true)] from rfl, rslv_cons, rslv_nil, List.getElem?_toArray, List.getElem?_cons_zero, List.getElem?_cons_succ, gres]
          iterate 2 (refine seqX_hide2 fun R hR => ?_; simp [go_sem, hwn, h01, xindexAt, hj, hw1, hcz, hco, d288, d828, g5, g6, g8, g9, g19, g20, g21, g29, g30, g31, hi, hii, hw2, bc hP cmi, hwk, hwk2, hki, hki2, hki3, hki4, hki5, hki6, hw33, bc hP cr, bc hP cy, vload, hb, hc47]; refine hR _ _ _ ?_; clear hR R)
          rw [seqX_nil]
          refine hK _ _ _ ?_; clear hK K
          have hP := (hst false).2
          refine hJ2 (s.size + 1 - (k + 1 + 1)) _ _ _ (by omega) ⟨k + 1 + 1, D2.set q28 (.cells (bcl (l2.set (k + 1) false)) 4 (0, 0)), l2.set (k + 1) false, rfl, rfl, rfl, hP, by simp [go_sem, hwn, h01, xindexAt, hj, hw1, hcz, hco, d288, d828, g5, g6, g8, g9, g19, g20, g21, g29, g30, g31, hi, hii, hw2, hwk, hwk2, hki, hki2, hki3, hki4, hki5, hki6, hw33, vload, hb, hc47], by simp [go_sem, hwn, h01, xindexAt, hj, hw1, hcz, hco, d288, d828, g5, g6, g8, g9, g19, g20, g21, g29, g30, g31, hi, hii, hw2, hwk, hwk2, hki, hki2, hki3, hki4, hki5, hki6, hw33, vload, hb, hc47], by simp [go_sem, hwn, h01, xindexAt, hj, hw1, hcz, hco, d288, d828, g5, g6, g8, g9, g19, g20, g21, g29, g30, g31, hi, hii, hw2, hwk, hwk2, hki, hki2, hki3, hki4, hki5, hki6, hw33, vload, hb, hc47], by simp [go_sem, hwn, h01, xindexAt, hj, hw1, hcz, hco, d288, d828, g5, g6, g8, g9, g19, g20, g21, g29, g30, g31, hi, hii, hw2, hwk, hwk2, hki, hki2, hki3, hki4, hki5, hki6, hw33, vload, hb, hc47], by simp [go_sem, hwn, h01, xindexAt, hj, hw1, hcz, hco, d288, d828, g5, g6, g8, g9, g19, g20, g21, g29, g30, g31, hi, hii, hw2, hwk, hwk2, hki, hki2, hki3, hki4, hki5, hki6, hw33, vload, hb, hc47], by simp [go_sem, hwn, h01, xindexAt, hj, hw1, hcz, hco, d288, d828, g5, g6, g8, g9, g19, g20, g21, g29, g30, g31, hi, hii, hw2, hwk, hwk2, hki, hki2, hki3, hki4, hki5, hki6, hw33, vload, hb, hc47], by simp [go_sem, hwn, h01, xindexAt, hj, hw1, hcz, hco, d288, d828, g5, g6, g8, g9, g19, g20, g21, g29, g30, g31, hi, hii, hw2, hwk, hwk2, hki, hki2, hki3, hki4, hki5, hki6, hw33, vload, hb, hc47], by simp [go_sem, hwn, h01, xindexAt, hj, hw1, hcz, hco, d288, d828, g5, g6, g8, g9, g19, g20, g21, g29, g30, g31, hi, hii, hw2, hwk, hwk2, hki, hki2, hki3, hki4, hki5, hki6, hw33, vload, hb, hc47], by simp [go_sem, hwn, h01, xindexAt, hj, hw1, hcz, hco, d288, d828, g5, g6, g8, g9, g19, g20, g21, g29, g30, g31, hi, hii, hw2, hwk, hwk2, hki, hki2, hki3, hki4, hki5, hki6, hw33, vload, hb, hc47], by simp [go_sem, hwn, h01, xindexAt, hj, hw1, hcz, hco, d288, d828, g5, g6, g8, g9, g19, g20, g21, g29, g30, g31, hi, hii, hw2, hwk, hwk2, hki, hki2, hki3, hki4, hki5, hki6, hw33, vload, hb, hc47], by omega, hsetle _, set_at _ _ _, hsetm _, by rw [htk]; exact hput false ⟨fun h => (by cases h), fun h => absurd rfl (hiff2.1 h).2⟩, hfput false⟩
        · have hb := (hst true).1
          have hc47 : ((ck : Int) != 47) = true := by rw [bne_iff_ne]; omega
          have hc47b : ((ck : Int) == 47) = false := beq_eq_false_iff_ne.2 (by omega)
          have hc47c : ¬ (ck : Int) = 47 := by omega
          refine xc_two fun N14 hN14 => ?_
          refine xc_reg1 1 rfl fun K hK => ?_
          simp only [show (List.range 1).map (·, true) = [(0, true)] from rfl, rslv_cons, rslv_nil, List.getElem?_toArray, List.getElem?_cons_zero, List.getElem?_cons_succ, gres]
          (refine seqX_hide2 fun R hR => ?_; simp [go_sem, hwn, h01, xindexAt, hj, hw1, hcz, hco, d288, d828, g5, g6, g8, g9, g19, g20, g21, g29, g30, g31, hi, hii, hw2, bc hP cmi, hwk, hwk2, hki, hki2, hki3, hki4, hki5, hki6, hw33, bc hP cr, bc hP cy, vload, hb, hc47, hc47b, hc47c]; refine hR _ _ _ ?_; clear hR R)
          rw [seqX_nil]
          refine hK _ _ _ ?_; clear hK K
          refine hN14 _ _ _ ?_
          refine xc_two fun N15 hN15 => ?_
          refine xc_iftrue (by simp [go_sem, hwn, h01, xindexAt, hj, hw1, hcz, hco, d288, d828, g5, g6, g8, g9, g19, g20, g21, g29, g30, g31, hi, hii, hw2, bc hP cmi, hwk, hwk2, hki, hki2, hki3, hki4, hki5, hki6, hw33, bc hP cr, bc hP cy, vload, hb, hc47, hc47b, hc47c]) ?_
          refine hN15 _ _ _ ?_
          refine xc_two fun N16 hN16 => ?_
          rw [xc_block]
          refine xc_two fun N17 hN17 => ?_
          refine xc_reg1 2 rfl fun K hK => ?_
          simp only [show (List.range 2).map (·, true) = [(0, true), (1, true)] from rfl, rslv_cons, rslv_nil, List.getElem?_toArray, List.getElem?_cons_zero, List.getElem?_cons_succ, gres]
          iterate 2 (refine seqX_hide2 fun R hR => ?_; simp [go_sem, hwn, h01, xindexAt, hj, hw1, hcz, hco, d288, d828, g5, g6, g8, g9, g19, g20, g21, g29, g30, g31, hi, hii, hw2, bc hP cmi, hwk, hwk2, hki, hki2, hki3, hki4, hki5, hki6, hw33, bc hP cr, bc hP cy, vload, hb, hc47, hc47b, hc47c]; refine hR _ _ _ ?_; clear hR R)
          rw [seqX_nil]
          refine hK _ _ _ ?_; clear hK K
          refine hN17 _ _ _ ?_
          rw [xc_block]
          refine xc_two fun N18 hN18 => ?_
          refine xc_reg1 4 rfl fun K hK => ?_
          simp only [show (List.range 4).map (·, true) = [(0, true), (1, true), (2, true), (3, true)] from rfl, rslv_cons, rslv_nil, List.getElem?_toArray, List.getElem?_cons_zero, List.getElem?_cons_succ, gres]
          iterate 4 (refine seqX_hide2 fun R hR => ?_; simp [go_sem, hwn, h01, xindexAt, hj, hw1, hcz, hco, d288, d828, g5, g6, g8, g9, g19, g20, g21, g29, g30, g31, hi, hii, hw2, bc hP cmi, hwk, hwk2, hki, hki2, hki3, hki4, hki5, hki6, hw33, bc hP cr, bc hP cy, vload, hb, hc47, hc47b, hc47c]; refine hR _ _ _ ?_; clear hR R)
          rw [seqX_nil]
          refine hK _ _ _ ?_; clear hK K
          refine hN18 _ _ _ ?_
          refine xc_iftrue (by simp [go_sem, hwn, h01, xindexAt, hj, hw1, hcz, hco, d288, d828, g5, g6, g8, g9, g19, g20, g21, g29, g30, g31, hi, hii, hw2, bc hP cmi, hwk, hwk2, hki, hki2, hki3, hki4, hki5, hki6, hw33, bc hP cr, bc hP cy, vload, hb, hc47, hc47b, hc47c]) ?_
          refine xc_reg1 27 rfl fun K hK => ?_
          simp only [show (List.range 27).map (·, true) = [(0, true), (1, true), (2, true), (3, true), (4, true), (5, true), (6, true), (7, true), (8, true), (9, true), (10, true), (11, true), (12, true), (13, true), (14, true), (15, true), (16, true), (17, true), (18, true), (19, true), (20, true), (21, true), (22, true), (23, true), (24, true), (25, true), (26, true)] from rfl, rslv_cons, rslv_nil, List.getElem?_toArray, List.getElem?_cons_zero, List.getElem?_cons_succ, gres]
          iterate 26 (refine seqX_hide2 fun R hR => ?_; simp [go_sem, hwn, h01, xindexAt, hj, hw1, hcz, hco, d288, d828, g5, g6, g8, g9, g19, g20, g21, g29, g30, g31, hi, hii, hw2, bc hP cmi, hwk, hwk2, hki, hki2, hki3, hki4, hki5, hki6, hw33, bc hP cr, bc hP cy, vload, hb, hc47, hc47b, hc47c]; refine hR _ _ _ ?_; clear hR R)
          refine seqX_hide2 fun R hR => ?_
          simp [go_sem, hwn, h01, xindexAt, hj, hw1, hcz, hco, d288, d828, g5, g6, g8, g9, g19, g20, g21, g29, g30, g31, hi, hii, hw2, bc hP cmi, hwk, hwk2, hki, hki2, hki3, hki4, hki5, hki6, hw33, bc hP cr, bc hP cy, vload, hb, hc47, hc47b, hc47c]
          refine hR _ _ _ ?_; clear hR R
          rw [seqX_nil]
          refine hK _ _ _ ?_; clear hK K
          refine hN16 _ _ _ ?_
          refine xc_reg1 2 rfl fun K hK => ?_
          simp only [show (List.range 2).map (·, true) = [(0, true), (1, true)] from rfl, rslv_cons, rslv_nil, List.getElem?_toArray, List.getElem?_cons_zero, List.getElem?_cons_succ, gres]
          iterate 2 (refine seqX_hide2 fun R hR => ?_; simp [go_sem, hwn, h01, xindexAt, hj, hw1, hcz, hco, d288, d828, g5, g6, g8, g9, g19, g20, g21, g29, g30, g31, hi, hii, hw2, bc hP cmi, hwk, hwk2, hki, hki2, hki3, hki4, hki5, hki6, hw33, bc hP cr, bc hP cy, vload, hb, hc47, hc47b, hc47c]; refine hR _ _ _ ?_; clear hR R)
          rw [seqX_nil]
          refine hK _ _ _ ?_; clear hK K
          have hP := (hst true).2
          refine hJ2 (s.size + 1 - (k + 1 + 1)) _ _ _ (by omega) ⟨k + 1 + 1, D2.set q28 (.cells (bcl (l2.set (k + 1) true)) 4 (0, 0)), l2.set (k + 1) true, rfl, rfl, rfl, hP, by simp [go_sem, hwn, h01, xindexAt, hj, hw1, hcz, hco, d288, d828, g5, g6, g8, g9, g19, g20, g21, g29, g30, g31, hi, hii, hw2, hwk, hwk2, hki, hki2, hki3, hki4, hki5, hki6, hw33, vload, hb, hc47, hc47b, hc47c], by simp [go_sem, hwn, h01, xindexAt, hj, hw1, hcz, hco, d288, d828, g5, g6, g8, g9, g19, g20, g21, g29, g30, g31, hi, hii, hw2, hwk, hwk2, hki, hki2, hki3, hki4, hki5, hki6, hw33, vload, hb, hc47, hc47b, hc47c], by simp [go_sem, hwn, h01, xindexAt, hj, hw1, hcz, hco, d288, d828, g5, g6, g8, g9, g19, g20, g21, g29, g30, g31, hi, hii, hw2, hwk, hwk2, hki, hki2, hki3, hki4, hki5, hki6, hw33, vload, hb, hc47, hc47b, hc47c], by simp [go_sem, hwn, h01, xindexAt, hj, hw1, hcz, hco, d288, d828, g5, g6, g8, g9, g19, g20, g21, g29, g30, g31, hi, hii, hw2, hwk, hwk2, hki, hki2, hki3, hki4, hki5, hki6, hw33, vload, hb, hc47, hc47b, hc47c], by simp [go_sem, hwn, h01, xindexAt, hj, hw1, hcz, hco, d288, d828, g5, g6, g8, g9, g19, g20, g21, g29, g30, g31, hi, hii, hw2, hwk, hwk2, hki, hki2, hki3, hki4, hki5, hki6, hw33, vload, hb, hc47, hc47b, hc47c], by simp [go_sem, hwn, h01, xindexAt, hj, hw1, hcz, hco, d288, d828, g5, g6, g8, g9, g19, g20, g21, g29, g30, g31, hi, hii, hw2, hwk, hwk2, hki, hki2, hki3, hki4, hki5, hki6, hw33, vload, hb, hc47, hc47b, hc47c], by simp [go_sem, hwn, h01, xindexAt, hj, hw1, hcz, hco, d288, d828, g5, g6, g8, g9, g19, g20, g21, g29, g30, g31, hi, hii, hw2, hwk, hwk2, hki, hki2, hki3, hki4, hki5, hki6, hw33, vload, hb, hc47, hc47b, hc47c], by simp [go_sem, hwn, h01, xindexAt, hj, hw1, hcz, hco, d288, d828, g5, g6, g8, g9, g19, g20, g21, g29, g30, g31, hi, hii, hw2, hwk, hwk2, hki, hki2, hki3, hki4, hki5, hki6, hw33, vload, hb, hc47, hc47b, hc47c], by simp [go_sem, hwn, h01, xindexAt, hj, hw1, hcz, hco, d288, d828, g5, g6, g8, g9, g19, g20, g21, g29, g30, g31, hi, hii, hw2, hwk, hwk2, hki, hki2, hki3, hki4, hki5, hki6, hw33, vload, hb, hc47, hc47b, hc47c], by simp [go_sem, hwn, h01, xindexAt, hj, hw1, hcz, hco, d288, d828, g5, g6, g8, g9, g19, g20, g21, g29, g30, g31, hi, hii, hw2, hwk, hwk2, hki, hki2, hki3, hki4, hki5, hki6, hw33, vload, hb, hc47, hc47b, hc47c], by omega, hsetle _, set_at _ _ _, hsetm _, by rw [htk]; exact hput true ⟨fun _ => hiff2.2 ⟨rfl, h47⟩, fun _ => rfl⟩, hfput true⟩
  · obtain ⟨kk, kn, krv, kc, rfl, hk42⟩ := hci.kind hx
    have hk1 : ((kk : Int) == 42) = false := beq_eq_false_iff_ne.2 (by omega)
    have hk2 : ¬ (kk : Int) = 42 := by omega
    have hiff := Pm.Mt_snoc_one (a := items.take j) hx (s := nb s) (i := i) (by omega)
    by_cases h0 : 0 < i
    rotate_left
    · obtain rfl : i = 0 := by omega
      have hw00 : IntKind.i64.wrap 1 = 1 := by decide
      refine xc_two fun N14 hN14 => ?_
      refine xc_reg1 1 rfl fun K hK => ?_
      simp only [show (List.range 1).map (·, true) = [(0, true)] from rfl, rslv_cons, rslv_nil, List.getElem?_toArray, List.getElem?_cons_zero, List.getElem?_cons_succ, gres]
      (refine seqX_hide2 fun R hR => ?_; simp [go_sem, hwn, h01, xindexAt, hj, hw1, hcz, hco, d288, d828, g5, g6, g8, g9, g19, g20, g21, g29, g30, g31, hi, hii, hw2, hk1, hk2, hk42, hw00]; refine hR _ _ _ ?_; clear hR R)
      rw [seqX_nil]
      refine hK _ _ _ ?_; clear hK K
      refine hN14 _ _ _ ?_
      refine xc_two fun N15 hN15 => ?_
      refine xc_iftrue (by simp [go_sem, hwn, h01, xindexAt, hj, hw1, hcz, hco, d288, d828, g5, g6, g8, g9, g19, g20, g21, g29, g30, g31, hi, hii, hw2, hk1, hk2, hk42, hw00]) ?_
      refine hN15 _ _ _ ?_
      refine xc_two fun N16 hN16 => ?_
      rw [xc_block]
      refine xc_two fun N17 hN17 => ?_
      refine xc_reg1 2 rfl fun K hK => ?_
      simp only [show (List.range 2).map (·, true) = [(0, true), (1, true)] from rfl, rslv_cons, rslv_nil, List.getElem?_toArray, List.getElem?_cons_zero, List.getElem?_cons_succ, gres]
      iterate 2 (refine seqX_hide2 fun R hR => ?_; simp [go_sem, hwn, h01, xindexAt, hj, hw1, hcz, hco, d288, d828, g5, g6, g8, g9, g19, g20, g21, g29, g30, g31, hi, hii, hw2, hk1, hk2, hk42, hw00]; refine hR _ _ _ ?_; clear hR R)
      rw [seqX_nil]
      refine hK _ _ _ ?_; clear hK K
      refine hN17 _ _ _ ?_
      rw [xc_block]
      refine xc_two fun N18 hN18 => ?_
      refine xc_reg1 4 rfl fun K hK => ?_
      simp only [show (List.range 4).map (·, true) = [(0, true), (1, true), (2, true), (3, true)] from rfl, rslv_cons, rslv_nil, List.getElem?_toArray, List.getElem?_cons_zero, List.getElem?_cons_succ, gres]
      iterate 4 (refine seqX_hide2 fun R hR => ?_; simp [go_sem, hwn, h01, xindexAt, hj, hw1, hcz, hco, d288, d828, g5, g6, g8, g9, g19, g20, g21, g29, g30, g31, hi, hii, hw2, hk1, hk2, hk42, hw00]; refine hR _ _ _ ?_; clear hR R)
      rw [seqX_nil]
      refine hK _ _ _ ?_; clear hK K
      refine hN18 _ _ _ ?_
      refine xc_iffalse (by simp [go_sem, hwn, h01, xindexAt, hj, hw1, hcz, hco, d288, d828, g5, g6, g8, g9, g19, g20, g21, g29, g30, g31, hi, hii, hw2, hk1, hk2, hk42, hw00]) ?_
      refine xc_two fun N19 hN19 => ?_
      refine xc_reg1 3 rfl fun K hK => ?_
      simp only [show (List.range 3).map (·, true) = [(0, true), (1, true), (2, true)] from rfl, rslv_cons, rslv_nil, List.getElem?_toArray, List.getElem?_cons_zero, List.getElem?_cons_succ, gres]
      iterate 3 (refine seqX_hide2 fun R hR => ?_; simp [go_sem, hwn, h01, xindexAt, hj, hw1, hcz, hco, d288, d828, g5, g6, g8, g9, g19, g20, g21, g29, g30, g31, hi, hii, hw2, hk1, hk2, hk42, hw00]; refine hR _ _ _ ?_; clear hR R)
      rw [seqX_nil]
      refine hK _ _ _ ?_; clear hK K
      refine hN19 _ _ _ ?_
      refine xc_iffalse (by simp [go_sem, hwn, h01, xindexAt, hj, hw1, hcz, hco, d288, d828, g5, g6, g8, g9, g19, g20, g21, g29, g30, g31, hi, hii, hw2, hk1, hk2, hk42, hw00]) ?_
      refine hN16 _ _ _ ?_
      refine xc_reg1 2 rfl fun K hK => ?_
      simp only [show (List.range 2).map (·, true) = [(0, true), (1, true)] from rfl, rslv_cons, rslv_nil, List.getElem?_toArray, List.getElem?_cons_zero, List.getElem?_cons_succ, gres]
      iterate 2 (refine seqX_hide2 fun R hR => ?_; simp [go_sem, hwn, h01, xindexAt, hj, hw1, hcz, hco, d288, d828, g5, g6, g8, g9, g19, g20, g21, g29, g30, g31, hi, hii, hw2, hk1, hk2, hk42, hw00]; refine hR _ _ _ ?_; clear hR R)
      rw [seqX_nil]
      refine hK _ _ _ ?_; clear hK K
      refine hJ2 (s.size + 1 - (0 + 1)) _ _ _ (by omega) ⟨0 + 1, D2, l2, rfl, rfl, rfl, hP, by simp [go_sem, hwn, h01, xindexAt, hj, hw1, hcz, hco, d288, d828, g5, g6, g8, g9, g19, g20, g21, g29, g30, g31, hi, hii, hw2, hk1, hk2, hk42, hw00], by simp [go_sem, hwn, h01, xindexAt, hj, hw1, hcz, hco, d288, d828, g5, g6, g8, g9, g19, g20, g21, g29, g30, g31, hi, hii, hw2, hk1, hk2, hk42, hw00], by simp [go_sem, hwn, h01, xindexAt, hj, hw1, hcz, hco, d288, d828, g5, g6, g8, g9, g19, g20, g21, g29, g30, g31, hi, hii, hw2, hk1, hk2, hk42, hw00], by simp [go_sem, hwn, h01, xindexAt, hj, hw1, hcz, hco, d288, d828, g5, g6, g8, g9, g19, g20, g21, g29, g30, g31, hi, hii, hw2, hk1, hk2, hk42, hw00], by simp [go_sem, hwn, h01, xindexAt, hj, hw1, hcz, hco, d288, d828, g5, g6, g8, g9, g19, g20, g21, g29, g30, g31, hi, hii, hw2, hk1, hk2, hk42, hw00], by simp [go_sem, hwn, h01, xindexAt, hj, hw1, hcz, hco, d288, d828, g5, g6, g8, g9, g19, g20, g21, g29, g30, g31, hi, hii, hw2, hk1, hk2, hk42, hw00], by simp [go_sem, hwn, h01, xindexAt, hj, hw1, hcz, hco, d288, d828, g5, g6, g8, g9, g19, g20, g21, g29, g30, g31, hi, hii, hw2, hk1, hk2, hk42, hw00], by simp [go_sem, hwn, h01, xindexAt, hj, hw1, hcz, hco, d288, d828, g5, g6, g8, g9, g19, g20, g21, g29, g30, g31, hi, hii, hw2, hk1, hk2, hk42, hw00], by simp [go_sem, hwn, h01, xindexAt, hj, hw1, hcz, hco, d288, d828, g5, g6, g8, g9, g19, g20, g21, g29, g30, g31, hi, hii, hw2, hk1, hk2, hk42, hw00], by simp [go_sem, hwn, h01, xindexAt, hj, hw1, hcz, hco, d288, d828, g5, g6, g8, g9, g19, g20, g21, g29, g30, g31, hi, hii, hw2, hk1, hk2, hk42, hw00], by omega, hAD2, hbn2, hbm2, hm2.keep (hf2 0 (Nat.le_refl _) (Nat.zero_le _)) (fun h => by rw [htk] at h; exact absurd (hiff.1 h).1 (by omega)), fun k hk1 hk2 => hf2 k (by omega) hk2⟩
    obtain ⟨k, rfl⟩ : ∃ k, i = k + 1 := ⟨i - 1, by omega⟩
    have hks : k < s.size := by omega
    have hwk : IntKind.i64.wrap (k : Int) = (k : Int) := wrap_in (by omega) (by omega)
    have hwk2 : IntKind.i64.wrap ((k : Int) + 1 - 1) = (k : Int) := by rw [wrap_in (by omega) (by omega)]; omega
    have hki : (k : Int) < (s.size : Int) + 1 := by omega
    have hki2 : (k : Int) < s.size := by omega
    have hki3 : (0 : Int) < (k : Int) + 1 := by omega
    have hki4 : (k : Int) + 1 < (s.size : Int) + 1 := by omega
    have hki5 : (k : Int) < (s.size : Int) := by omega
    have hki6 : (0 : Int) ≤ (k : Int) + 1 := by omega
    have hw33 : IntKind.i64.wrap ((k : Int) + 1 + 1) = (k : Int) + 1 + 1 := wrap_in (by omega) (by omega)
    have cr := le_cell hAD2 (hRn.elem (i := k) (by omega))
    rw [Nat.zero_add] at cr
    obtain ⟨z, hz1, hz2⟩ := hmay.val (i := k) (by omega) (by omega)
    have cz := cell_of hbm2 (bcl_get hz1)
    have hiff2 : Mt (items.take j ++ [x]) ((nb s).take (k + 1)) ↔ (z = true ∧ takes x ((nb s)[k]'(by omega)) = true) := by
      rw [hiff]
      constructor
      · rintro ⟨h1, h2, h3⟩
        exact ⟨hz2.2 (by simpa using h2), by simpa using h3⟩
      · rintro ⟨h1, h2⟩
        exact ⟨by omega, by simpa using hz2.1 h1, by simpa using h2⟩
    generalize (nb s)[k]'(by omega) = ck at cr hiff2
    cases z with
    | false =>
      have hb := (hst false).1
      refine xc_two fun N14 hN14 => ?_
      refine xc_reg1 1 rfl fun K hK => ?_
      simp only [show (List.range 1).map (·, true) = [(0, true)] from rfl, rslv_cons, rslv_nil, List.getElem?_toArray, List.getElem?_cons_zero, List.getElem?_cons_succ, gres]
      (refine seqX_hide2 fun R hR => ?_; simp [go_sem, hwn, h01, xindexAt, hj, hw1, hcz, hco, d288, d828, g5, g6, g8, g9, g19, g20, g21, g29, g30, g31, hi, hii, hw2, hk1, hk2, hk42, hwk, hwk2, hki, hki2, hki3, hki4, hki5, hki6, hw33, bc hP cr, bc hP cz, vload, hb]; refine hR _ _ _ ?_; clear hR R)
      rw [seqX_nil]
      refine hK _ _ _ ?_; clear hK K
      refine hN14 _ _ _ ?_
      refine xc_two fun N15 hN15 => ?_
      refine xc_iftrue (by simp [go_sem, hwn, h01, xindexAt, hj, hw1, hcz, hco, d288, d828, g5, g6, g8, g9, g19, g20, g21, g29, g30, g31, hi, hii, hw2, hk1, hk2, hk42, hwk, hwk2, hki, hki2, hki3, hki4, hki5, hki6, hw33, bc hP cr, bc hP cz, vload, hb]) ?_
      refine hN15 _ _ _ ?_
      refine xc_two fun N16 hN16 => ?_
      rw [xc_block]
      refine xc_two fun N17 hN17 => ?_
      refine xc_reg1 2 rfl fun K hK => ?_
      simp only [show (List.range 2).map (·, true) = [(0, true), (1, true)] from rfl, rslv_cons, rslv_nil, List.getElem?_toArray, List.getElem?_cons_zero, List.getElem?_cons_succ, gres]
      iterate 2 (refine seqX_hide2 fun R hR => ?_; simp [go_sem, hwn, h01, xindexAt, hj, hw1, hcz, hco, d288, d828, g5, g6, g8, g9, g19, g20, g21, g29, g30, g31, hi, hii, hw2, hk1, hk2, hk42, hwk, hwk2, hki, hki2, hki3, hki4, hki5, hki6, hw33, bc hP cr, bc hP cz, vload, hb]; refine hR _ _ _ ?_; clear hR R)
      rw [seqX_nil]
      refine hK _ _ _ ?_; clear hK K
      refine hN17 _ _ _ ?_
      rw [xc_block]
      refine xc_two fun N18 hN18 => ?_
      refine xc_reg1 4 rfl fun K hK => ?_
      simp only [show (List.range 4).map (·, true) = [(0, true), (1, true), (2, true), (3, true)] from rfl, rslv_cons, rslv_nil, List.getElem?_toArray, List.getElem?_cons_zero, List.getElem?_cons_succ, gres]
      iterate 4 (refine seqX_hide2 fun R hR => ?_; simp [go_sem, hwn, h01, xindexAt, hj, hw1, hcz, hco, d288, d828, g5, g6, g8, g9, g19, g20, g21, g29, g30, g31, hi, hii, hw2, hk1, hk2, hk42, hwk, hwk2, hki, hki2, hki3, hki4, hki5, hki6, hw33, bc hP cr, bc hP cz, vload, hb]; refine hR _ _ _ ?_; clear hR R)
      rw [seqX_nil]
      refine hK _ _ _ ?_; clear hK K
      refine hN18 _ _ _ ?_
      refine xc_iffalse (by simp [go_sem, hwn, h01, xindexAt, hj, hw1, hcz, hco, d288, d828, g5, g6, g8, g9, g19, g20, g21, g29, g30, g31, hi, hii, hw2, hk1, hk2, hk42, hwk, hwk2, hki, hki2, hki3, hki4, hki5, hki6, hw33, bc hP cr, bc hP cz, vload, hb]) ?_
      refine xc_two fun N19 hN19 => ?_
      refine xc_reg1 3 rfl fun K hK => ?_
      simp only [show (List.range 3).map (·, true) = [(0, true), (1, true), (2, true)] from rfl, rslv_cons, rslv_nil, List.getElem?_toArray, List.getElem?_cons_zero, List.getElem?_cons_succ, gres]
      iterate 3 (refine seqX_hide2 fun R hR => ?_; simp [go_sem, hwn, h01, xindexAt, hj, hw1, hcz, hco, d288, d828, g5, g6, g8, g9, g19, g20, g21, g29, g30, g31, hi, hii, hw2, hk1, hk2, hk42, hwk, hwk2, hki, hki2, hki3, hki4, hki5, hki6, hw33, bc hP cr, bc hP cz, vload, hb]; refine hR _ _ _ ?_; clear hR R)
      rw [seqX_nil]
      refine hK _ _ _ ?_; clear hK K
      refine hN19 _ _ _ ?_
      refine xc_iftrue (by simp [go_sem, hwn, h01, xindexAt, hj, hw1, hcz, hco, d288, d828, g5, g6, g8, g9, g19, g20, g21, g29, g30, g31, hi, hii, hw2, hk1, hk2, hk42, hwk, hwk2, hki, hki2, hki3, hki4, hki5, hki6, hw33, bc hP cr, bc hP cz, vload, hb]) ?_
      rw [xc_draws]
      refine vdrawK [(0, true), (1, true), (2, true), (3, true), (4, true), (5, true), (6, true), (7, true), (8, true), (9, true), (10, true), (11, true), (12, true), (13, true), (14, false), (15, true), (16, true), (17, false)] (ov D2 [(q8, .cells (itc kk kn krv kc) 51 (0, 0))]) mixed (by kernel_rfl) (View.le_refl _) fun K hK => ?_
      simp only [rslv_cons, rslv_nil, List.getElem?_toArray, List.getElem?_cons_zero, List.getElem?_cons_succ, gres]
      iterate 14 (refine seqR_hide fun R hR => ?_; simp [go_sem, hwn, h01, xindexAt, hj, hw1, hcz, hco, d288, d828, g5, g6, g8, g9, g19, g20, g21, g29, g30, g31, hi, hii, hw2, hk1, hk2, hk42, hwk, hwk2, hki, hki2, hki3, hki4, hki5, hki6, hw33, bc hP cr, bc hP cz, vload, hb]; refine hR _ _ _ ?_; clear hR R)
      refine seqR_hide fun R hR => ?_
      simp [go_sem, hwn, h01, xindexAt, hj, hw1, hcz, hco, d288, d828, g5, g6, g8, g9, g19, g20, g21, g29, g30, g31, hi, hii, hw2, hk1, hk2, hk42, hwk, hwk2, hki, hki2, hki3, hki4, hki5, hki6, hw33, bc hP cr, bc hP cz, vload, hb]
      refine hR _ _ _ ?_; clear hR R
      iterate 2 (refine seqR_hide fun R hR => ?_; simp [go_sem, hwn, h01, xindexAt, hj, hw1, hcz, hco, d288, d828, g5, g6, g8, g9, g19, g20, g21, g29, g30, g31, hi, hii, hw2, hk1, hk2, hk42, hwk, hwk2, hki, hki2, hki3, hki4, hki5, hki6, hw33, bc hP cr, bc hP cz, vload, hb]; refine hR _ _ _ ?_; clear hR R)
      refine seqR_hide fun R hR => ?_
      simp [go_sem, hwn, h01, xindexAt, hj, hw1, hcz, hco, d288, d828, g5, g6, g8, g9, g19, g20, g21, g29, g30, g31, hi, hii, hw2, hk1, hk2, hk42, hwk, hwk2, hki, hki2, hki3, hki4, hki5, hki6, hw33, bc hP cr, bc hP cz, vload, hb]
      refine hR _ _ _ ?_; clear hR R
      rw [seqR_nil]
      refine hK _ _ _ ?_; clear hK K
      refine hN16 _ _ _ ?_
      refine xc_reg1 2 rfl fun K hK => ?_
      simp only [show (List.range 2).map (·, true) = [(0, true), (1, true)] from rfl, rslv_cons, rslv_nil, List.getElem?_toArray, List.getElem?_cons_zero, List.getElem?_cons_succ, gres]
      iterate 2 (refine seqX_hide2 fun R hR => ?_; simp [go_sem, hwn, h01, xindexAt, hj, hw1, hcz, hco, d288, d828, g5, g6, g8, g9, g19, g20, g21, g29, g30, g31, hi, hii, hw2, hk1, hk2, hk42, hwk, hwk2, hki, hki2, hki3, hki4, hki5, hki6, hw33, bc hP cr, bc hP cz, vload, hb]; refine hR _ _ _ ?_; clear hR R)
      rw [seqX_nil]
      refine hK _ _ _ ?_; clear hK K
      have hP := (hst false).2
      refine hJ2 (s.size + 1 - (k + 1 + 1)) _ _ _ (by omega) ⟨k + 1 + 1, D2.set q28 (.cells (bcl (l2.set (k + 1) false)) 4 (0, 0)), l2.set (k + 1) false, rfl, rfl, rfl, hP, by simp [go_sem, hwn, h01, xindexAt, hj, hw1, hcz, hco, d288, d828, g5, g6, g8, g9, g19, g20, g21, g29, g30, g31, hi, hii, hw2, hk1, hk2, hk42, hwk, hwk2, hki, hki2, hki3, hki4, hki5, hki6, hw33, vload, hb], by simp [go_sem, hwn, h01, xindexAt, hj, hw1, hcz, hco, d288, d828, g5, g6, g8, g9, g19, g20, g21, g29, g30, g31, hi, hii, hw2, hk1, hk2, hk42, hwk, hwk2, hki, hki2, hki3, hki4, hki5, hki6, hw33, vload, hb], by simp [go_sem, hwn, h01, xindexAt, hj, hw1, hcz, hco, d288, d828, g5, g6, g8, g9, g19, g20, g21, g29, g30, g31, hi, hii, hw2, hk1, hk2, hk42, hwk, hwk2, hki, hki2, hki3, hki4, hki5, hki6, hw33, vload, hb], by simp [go_sem, hwn, h01, xindexAt, hj, hw1, hcz, hco, d288, d828, g5, g6, g8, g9, g19, g20, g21, g29, g30, g31, hi, hii, hw2, hk1, hk2, hk42, hwk, hwk2, hki, hki2, hki3, hki4, hki5, hki6, hw33, vload, hb], by simp [go_sem, hwn, h01, xindexAt, hj, hw1, hcz, hco, d288, d828, g5, g6, g8, g9, g19, g20, g21, g29, g30, g31, hi, hii, hw2, hk1, hk2, hk42, hwk, hwk2, hki, hki2, hki3, hki4, hki5, hki6, hw33, vload, hb], by simp [go_sem, hwn, h01, xindexAt, hj, hw1, hcz, hco, d288, d828, g5, g6, g8, g9, g19, g20, g21, g29, g30, g31, hi, hii, hw2, hk1, hk2, hk42, hwk, hwk2, hki, hki2, hki3, hki4, hki5, hki6, hw33, vload, hb], by simp [go_sem, hwn, h01, xindexAt, hj, hw1, hcz, hco, d288, d828, g5, g6, g8, g9, g19, g20, g21, g29, g30, g31, hi, hii, hw2, hk1, hk2, hk42, hwk, hwk2, hki, hki2, hki3, hki4, hki5, hki6, hw33, vload, hb], by simp [go_sem, hwn, h01, xindexAt, hj, hw1, hcz, hco, d288, d828, g5, g6, g8, g9, g19, g20, g21, g29, g30, g31, hi, hii, hw2, hk1, hk2, hk42, hwk, hwk2, hki, hki2, hki3, hki4, hki5, hki6, hw33, vload, hb], by simp [go_sem, hwn, h01, xindexAt, hj, hw1, hcz, hco, d288, d828, g5, g6, g8, g9, g19, g20, g21, g29, g30, g31, hi, hii, hw2, hk1, hk2, hk42, hwk, hwk2, hki, hki2, hki3, hki4, hki5, hki6, hw33, vload, hb], by simp [go_sem, hwn, h01, xindexAt, hj, hw1, hcz, hco, d288, d828, g5, g6, g8, g9, g19, g20, g21, g29, g30, g31, hi, hii, hw2, hk1, hk2, hk42, hwk, hwk2, hki, hki2, hki3, hki4, hki5, hki6, hw33, vload, hb], by omega, hsetle _, set_at _ _ _, hsetm _, by rw [htk]; exact hput false ⟨fun h => (by cases h), fun h => (by have := (hiff2.1 h).1; cases this)⟩, hfput false⟩
    | true =>
      refine xc_two fun N14 hN14 => ?_
      refine xc_reg1 1 rfl fun K hK => ?_
      simp only [show (List.range 1).map (·, true) = [(0, true)] from rfl, rslv_cons, rslv_nil, List.getElem?_toArray, List.getElem?_cons_zero, List.getElem?_cons_succ, gres]
      (refine seqX_hide2 fun R hR => ?_; simp [go_sem, hwn, h01, xindexAt, hj, hw1, hcz, hco, d288, d828, g5, g6, g8, g9, g19, g20, g21, g29, g30, g31, hi, hii, hw2, hk1, hk2, hk42, hwk, hwk2, hki, hki2, hki3, hki4, hki5, hki6, hw33, bc hP cr, bc hP cz, vload]; refine hR _ _ _ ?_; clear hR R)
      rw [seqX_nil]
      refine hK _ _ _ ?_; clear hK K
      refine hN14 _ _ _ ?_
      refine xc_two fun N15 hN15 => ?_
      refine xc_iftrue (by simp [go_sem, hwn, h01, xindexAt, hj, hw1, hcz, hco, d288, d828, g5, g6, g8, g9, g19, g20, g21, g29, g30, g31, hi, hii, hw2, hk1, hk2, hk42, hwk, hwk2, hki, hki2, hki3, hki4, hki5, hki6, hw33, bc hP cr, bc hP cz, vload]) ?_
      refine hN15 _ _ _ ?_
      refine xc_two fun N16 hN16 => ?_
      rw [xc_block]
      refine xc_two fun N17 hN17 => ?_
      refine xc_reg1 2 rfl fun K hK => ?_
      simp only [show (List.range 2).map (·, true) = [(0, true), (1, true)] from rfl, rslv_cons, rslv_nil, List.getElem?_toArray, List.getElem?_cons_zero, List.getElem?_cons_succ, gres]
      iterate 2 (refine seqX_hide2 fun R hR => ?_; simp [go_sem, hwn, h01, xindexAt, hj, hw1, hcz, hco, d288, d828, g5, g6, g8, g9, g19, g20, g21, g29, g30, g31, hi, hii, hw2, hk1, hk2, hk42, hwk, hwk2, hki, hki2, hki3, hki4, hki5, hki6, hw33, bc hP cr, bc hP cz, vload]; refine hR _ _ _ ?_; clear hR R)
      rw [seqX_nil]
      refine hK _ _ _ ?_; clear hK K
      refine hN17 _ _ _ ?_
      rw [xc_block]
      refine xc_two fun N18 hN18 => ?_
      refine xc_reg1 4 rfl fun K hK => ?_
      simp only [show (List.range 4).map (·, true) = [(0, true), (1, true), (2, true), (3, true)] from rfl, rslv_cons, rslv_nil, List.getElem?_toArray, List.getElem?_cons_zero, List.getElem?_cons_succ, gres]
      iterate 4 (refine seqX_hide2 fun R hR => ?_; simp [go_sem, hwn, h01, xindexAt, hj, hw1, hcz, hco, d288, d828, g5, g6, g8, g9, g19, g20, g21, g29, g30, g31, hi, hii, hw2, hk1, hk2, hk42, hwk, hwk2, hki, hki2, hki3, hki4, hki5, hki6, hw33, bc hP cr, bc hP cz, vload]; refine hR _ _ _ ?_; clear hR R)
      rw [seqX_nil]
      refine hK _ _ _ ?_; clear hK K
      refine hN18 _ _ _ ?_
      refine xc_iffalse (by simp [go_sem, hwn, h01, xindexAt, hj, hw1, hcz, hco, d288, d828, g5, g6, g8, g9, g19, g20, g21, g29, g30, g31, hi, hii, hw2, hk1, hk2, hk42, hwk, hwk2, hki, hki2, hki3, hki4, hki5, hki6, hw33, bc hP cr, bc hP cz, vload]) ?_
      refine xc_two fun N19 hN19 => ?_
      refine xc_reg1 3 rfl fun K hK => ?_
      simp only [show (List.range 3).map (·, true) = [(0, true), (1, true), (2, true)] from rfl, rslv_cons, rslv_nil, List.getElem?_toArray, List.getElem?_cons_zero, List.getElem?_cons_succ, gres]
      iterate 3 (refine seqX_hide2 fun R hR => ?_; simp [go_sem, hwn, h01, xindexAt, hj, hw1, hcz, hco, d288, d828, g5, g6, g8, g9, g19, g20, g21, g29, g30, g31, hi, hii, hw2, hk1, hk2, hk42, hwk, hwk2, hki, hki2, hki3, hki4, hki5, hki6, hw33, bc hP cr, bc hP cz, vload]; refine hR _ _ _ ?_; clear hR R)
      rw [seqX_nil]
      refine hK _ _ _ ?_; clear hK K
      refine hN19 _ _ _ ?_
      refine xc_iftrue (by simp [go_sem, hwn, h01, xindexAt, hj, hw1, hcz, hco, d288, d828, g5, g6, g8, g9, g19, g20, g21, g29, g30, g31, hi, hii, hw2, hk1, hk2, hk42, hwk, hwk2, hki, hki2, hki3, hki4, hki5, hki6, hw33, bc hP cr, bc hP cz, vload]) ?_
      rw [xc_draws]
      refine vdrawK [(0, true), (1, true), (2, true), (3, true), (4, true), (5, true), (6, true), (7, true), (8, true), (9, true), (10, true), (11, true), (12, true), (13, true), (14, false), (15, true), (16, true), (17, false)] (ov D2 [(q8, .cells (itc kk kn krv kc) 51 (0, 0))]) mixed (by kernel_rfl) (View.le_refl _) fun K hK => ?_
      simp only [rslv_cons, rslv_nil, List.getElem?_toArray, List.getElem?_cons_zero, List.getElem?_cons_succ, gres]
      iterate 14 (refine seqR_hide fun R hR => ?_; simp [go_sem, hwn, h01, xindexAt, hj, hw1, hcz, hco, d288, d828, g5, g6, g8, g9, g19, g20, g21, g29, g30, g31, hi, hii, hw2, hk1, hk2, hk42, hwk, hwk2, hki, hki2, hki3, hki4, hki5, hki6, hw33, bc hP cr, bc hP cz, vload]; refine hR _ _ _ ?_; clear hR R)
      refine seqR_hide fun R hR => ?_
      simp [go_sem, hwn, h01, xindexAt, hj, hw1, hcz, hco, d288, d828, g5, g6, g8, g9, g19, g20, g21, g29, g30, g31, hi, hii, hw2, hk1, hk2, hk42, hwk, hwk2, hki, hki2, hki3, hki4, hki5, hki6, hw33, bc hP cr, bc hP cz, vload]
      refine call_ov hP (takes20 D2 x _ ck (hci.le hAD2) hx hclx) ?_
      clear hP
      rintro _ D3 ⟨rfl, hD3⟩ hP
      have hbn3 := hD3 _ _ hbn2
      have hbm3 := hD3 _ _ hbm2
      have hst3 := (bstore (L := [(q8, .cells (itc kk kn krv kc) 51 (0, 0))]) hP hbn3 (i := k + 1) (by omega) (takes x ck))
      have hb := hst3.1
      have hsetle3 : ∀ o, A1 ≤ D3.set q28 o := fun o k ob hk => by
        rw [set_other (fun hx => by rw [hx, hAn] at hk; cases hk)]; exact hD3 _ _ (hAD2 _ _ hk)
      have hsetm3 : ∀ o, (D3.set q28 o) bm = some (.cells (bcl l) 4 (0, 0)) := fun o => by
        rw [set_other (fun hx => hnm hx.symm)]; exact hbm3
      refine hR _ _ _ ?_; clear hR R
      iterate 2 (refine seqR_hide fun R hR => ?_; simp [go_sem, hwn, h01, xindexAt, hj, hw1, hcz, hco, d288, d828, g5, g6, g8, g9, g19, g20, g21, g29, g30, g31, hi, hii, hw2, hk1, hk2, hk42, hwk, hwk2, hki, hki2, hki3, hki4, hki5, hki6, hw33, vload, hb]; refine hR _ _ _ ?_; clear hR R)
      refine seqR_hide fun R hR => ?_
      simp [go_sem, hwn, h01, xindexAt, hj, hw1, hcz, hco, d288, d828, g5, g6, g8, g9, g19, g20, g21, g29, g30, g31, hi, hii, hw2, hk1, hk2, hk42, hwk, hwk2, hki, hki2, hki3, hki4, hki5, hki6, hw33, vload, hb]
      refine hR _ _ _ ?_; clear hR R
      rw [seqR_nil]
      refine hK _ _ _ ?_; clear hK K
      refine hN16 _ _ _ ?_
      refine xc_reg1 2 rfl fun K hK => ?_
      simp only [show (List.range 2).map (·, true) = [(0, true), (1, true)] from rfl, rslv_cons, rslv_nil, List.getElem?_toArray, List.getElem?_cons_zero, List.getElem?_cons_succ, gres]
      iterate 2 (refine seqX_hide2 fun R hR => ?_; simp [go_sem, hwn, h01, xindexAt, hj, hw1, hcz, hco, d288, d828, g5, g6, g8, g9, g19, g20, g21, g29, g30, g31, hi, hii, hw2, hk1, hk2, hk42, hwk, hwk2, hki, hki2, hki3, hki4, hki5, hki6, hw33, vload, hb]; refine hR _ _ _ ?_; clear hR R)
      rw [seqX_nil]
      refine hK _ _ _ ?_; clear hK K
      have hP := hst3.2
      refine hJ2 (s.size + 1 - (k + 1 + 1)) _ _ _ (by omega) ⟨k + 1 + 1, D3.set q28 (.cells (bcl (l2.set (k + 1) (takes x ck))) 4 (0, 0)), l2.set (k + 1) (takes x ck), rfl, rfl, rfl, hP, by simp [go_sem, hwn, h01, xindexAt, hj, hw1, hcz, hco, d288, d828, g5, g6, g8, g9, g19, g20, g21, g29, g30, g31, hi, hii, hw2, hk1, hk2, hk42, hwk, hwk2, hki, hki2, hki3, hki4, hki5, hki6, hw33, vload, hb], by simp [go_sem, hwn, h01, xindexAt, hj, hw1, hcz, hco, d288, d828, g5, g6, g8, g9, g19, g20, g21, g29, g30, g31, hi, hii, hw2, hk1, hk2, hk42, hwk, hwk2, hki, hki2, hki3, hki4, hki5, hki6, hw33, vload, hb], by simp [go_sem, hwn, h01, xindexAt, hj, hw1, hcz, hco, d288, d828, g5, g6, g8, g9, g19, g20, g21, g29, g30, g31, hi, hii, hw2, hk1, hk2, hk42, hwk, hwk2, hki, hki2, hki3, hki4, hki5, hki6, hw33, vload, hb], by simp [go_sem, hwn, h01, xindexAt, hj, hw1, hcz, hco, d288, d828, g5, g6, g8, g9, g19, g20, g21, g29, g30, g31, hi, hii, hw2, hk1, hk2, hk42, hwk, hwk2, hki, hki2, hki3, hki4, hki5, hki6, hw33, vload, hb], by simp [go_sem, hwn, h01, xindexAt, hj, hw1, hcz, hco, d288, d828, g5, g6, g8, g9, g19, g20, g21, g29, g30, g31, hi, hii, hw2, hk1, hk2, hk42, hwk, hwk2, hki, hki2, hki3, hki4, hki5, hki6, hw33, vload, hb], by simp [go_sem, hwn, h01, xindexAt, hj, hw1, hcz, hco, d288, d828, g5, g6, g8, g9, g19, g20, g21, g29, g30, g31, hi, hii, hw2, hk1, hk2, hk42, hwk, hwk2, hki, hki2, hki3, hki4, hki5, hki6, hw33, vload, hb], by simp [go_sem, hwn, h01, xindexAt, hj, hw1, hcz, hco, d288, d828, g5, g6, g8, g9, g19, g20, g21, g29, g30, g31, hi, hii, hw2, hk1, hk2, hk42, hwk, hwk2, hki, hki2, hki3, hki4, hki5, hki6, hw33, vload, hb], by simp [go_sem, hwn, h01, xindexAt, hj, hw1, hcz, hco, d288, d828, g5, g6, g8, g9, g19, g20, g21, g29, g30, g31, hi, hii, hw2, hk1, hk2, hk42, hwk, hwk2, hki, hki2, hki3, hki4, hki5, hki6, hw33, vload, hb], by simp [go_sem, hwn, h01, xindexAt, hj, hw1, hcz, hco, d288, d828, g5, g6, g8, g9, g19, g20, g21, g29, g30, g31, hi, hii, hw2, hk1, hk2, hk42, hwk, hwk2, hki, hki2, hki3, hki4, hki5, hki6, hw33, vload, hb], by simp [go_sem, hwn, h01, xindexAt, hj, hw1, hcz, hco, d288, d828, g5, g6, g8, g9, g19, g20, g21, g29, g30, g31, hi, hii, hw2, hk1, hk2, hk42, hwk, hwk2, hki, hki2, hki3, hki4, hki5, hki6, hw33, vload, hb], by omega, hsetle3 _, set_at _ _ _, hsetm3 _, by rw [htk]; exact hput (takes x ck) ⟨fun h => hiff2.2 ⟨rfl, h⟩, fun h => (hiff2.1 h).2⟩, hfput (takes x ck)⟩
end Go.Proofs.YthjbgpmcfcijgaaDoorV

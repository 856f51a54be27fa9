/- Shell patterns: the reference's Pattern. -/
import Derived.Test.YthjbgpmcfcijgaaDoorPN
namespace Go.Proofs.YthjbgpmcfcijgaaDoorV
open Go.RowKit
open Pm (nb nb_len nb_get nb_drop nb_nil nb_cons nb_extract extract_size' It takes chr1 cls1 clsGo rng pat)
set_option linter.unusedSimpArgs false
set_option linter.unusedVariables false
/-- What Pattern tells. -/
def PtR (A : View) (q : Option (List It)) (r : Value) : Prop := match q with
  | none => ∃ v, r = .tuple #[v, .bool false]
  | some l => ∃ v, r = .tuple #[v, .bool true] ∧ Its A v l
set_option maxRecDepth 20000 in
theorem app_item {D0 D : View} {L : List (Nat × Obj)} {u v : Value} {n : Nat} {vs : List Value} {x : It} {c : Array Value} {K : Value → View → Prop} (hP : Priv D (addrs L)) (hO : Own D0 D 51 4 u n vs) (hD : D0 ≤ D)
    (hx : appended Tryd.prog (ov D L) 4 v = some (c.toList, 1)) (hc : IsIt D0 x c) (hs : isStr v = false) (hn : n ≤ 1000000)
    (k : ∀ v' D', D0 ≤ D' → Own D0 D' 51 4 v' (n + 1) (vs ++ c.toList) → eraseB D u ≤ eraseB D' v' → Priv D' (addrs L) → K v' (ov D' L)) : xappend Tryd.prog 26 26 u v (ov D L) K := by
  refine append_ov hP ti26 ti26 (fun k => by simp) ti51 rfl (by decide) hO hD hx (fun h => absurd (hs.symm.trans h) (by decide)) (fun v hv => List.all_eq_true.1 hc.ones v hv) (by omega) k
theorem map_map_app {u : Option (List It)} {its : List It} {x : It} : (u.map (x :: ·)).map (its ++ ·) = u.map ((its ++ [x]) ++ ·) := by
  cases u <;> simp
theorem own_block {A0 A : View} {e : TypeId} {size n : Nat} {u : Value} {cs : List Value} (h : Own A0 A e size u n cs) {b : Nat} (hb : A b = none) : blockOf u ≠ some b := by
  obtain ⟨h1, ⟨rfl, rfl⟩ | ⟨a, cap, rfl, hn⟩⟩ := h
  · simp [blockOf]
  · obtain ⟨c', h3, _⟩ := sliceIn_block h1
    intro hx
    simp only [blockOf, Option.some.injEq] at hx
    rw [hx, hb] at h3
    cases h3
theorem keep_erase {A0 D E D3 : View} {e : TypeId} {size n : Nat} {uv : Value} {cs : List Value} (hO : Own A0 D e size uv n cs) (hED : E ≤ D3) (hK : Keep (eraseB D uv) D E D3) : E ≤ eraseB D3 uv := fun b o hb => by
  by_cases hx : blockOf uv = some b
  · exfalso
    have h1 : eraseB D uv b = none := by
      cases he : eraseB D uv b with
      | none => rfl
      | some o' => exact absurd hx (eraseB_some he).1
    cases hd : D b with
    | none => exact own_block hO hd hx
    | some o' =>
      have := (hK b o' h1 hd).1
      rw [this] at hb; cases hb
  · rw [eraseB_apart hx]; exact hED _ _ hb
set_option maxRecDepth 20000 in
set_option maxHeartbeats 8000000 in
theorem pattern8 (A : View) (s : ByteArray) (hs : s.size ≤ 200) (ha : Asc s) : VCalls Tryd.prog 8 #[.string s] A fun r A' => PtR A' (pat true (nb s)) r ∧ A ≤ A' := by
  have hsl := nb_len s
  refine xcalls Tryd.func8 rfl (by simp [Tryd.ntmps8]) ?_
  simp only [Tryd.f8]
  have hP : Priv A (addrs []) := Priv.nil A
  show xc _ _ _ _ _ _ (ov A [])
  refine xc_two fun N1 hN1 => ?_
  refine xc_reg1 2 rfl fun K hK => ?_
  simp only [show (List.range 2).map (·, true) = [(0, true), (1, true)] from rfl, rslv_cons, rslv_nil, List.getElem?_toArray, List.getElem?_cons_zero, List.getElem?_cons_succ, gres]
  iterate 2 (refine seqX_hide2 fun R hR => ?_; simp [go_sem]; refine hR _ _ _ ?_; clear hR R)
  rw [seqX_nil]
  refine hK _ _ _ ?_; clear hK K
  refine hN1 _ _ _ ?_
  refine xc_two fun N2 hN2 => ?_
  refine xc_reg1 3 rfl fun K hK => ?_
  simp only [show (List.range 3).map (·, true) = [(0, true), (1, true), (2, true)] from rfl, rslv_cons, rslv_nil, List.getElem?_toArray, List.getElem?_cons_zero, List.getElem?_cons_succ, gres]
  (refine seqX_hide2 fun R hR => ?_; simp [go_sem]; refine hR _ _ _ ?_; clear hR R)
  refine seqX_hide2 fun R hR => ?_
  simp [go_sem]
  refine xs2r (S := s) Tryd.underlying9 Tryd.underlying48 Tryd.underlying21 (asc_rune ha) (by simp [go_sem]) fun b hb cap hcap => ?_
  have lb : A ≤ A.set b (.cells (runeCells s cap) 21 (0, 0)) := le_set hb
  have hR0 : Rn (A.set b (.cells (runeCells s cap) 21 (0, 0))) (.slice (some ⟨b, 0, none⟩) s.size cap) (nb s) := Rn.of hcap (set_at _ _ _)
  show R _ _ (ov (A.set b (.cells (runeCells s cap) 21 (0, 0))) [])
  generalize A.set b (.cells (runeCells s cap) 21 (0, 0)) = A1 at lb hR0 ⊢
  replace hP : Priv A1 (addrs []) := Priv.nil A1
  refine hR _ _ _ ?_; clear hR R
  (refine seqX_hide2 fun R hR => ?_; simp [go_sem]; refine hR _ _ _ ?_; clear hR R)
  rw [seqX_nil]
  refine hK _ _ _ ?_; clear hK K
  refine hN2 _ _ _ ?_
  refine xc_two fun N3 hN3 => ?_
  refine xc_reg1 1 rfl fun K hK => ?_
  simp only [show (List.range 1).map (·, true) = [(0, true)] from rfl, rslv_cons, rslv_nil, List.getElem?_toArray, List.getElem?_cons_zero, List.getElem?_cons_succ, gres]
  (refine seqX_hide2 fun R hR => ?_; simp [go_sem]; refine hR _ _ _ ?_; clear hR R)
  rw [seqX_nil]
  refine hK _ _ _ ?_; clear hK K
  refine hN3 _ _ _ ?_
  refine xc_two fun N4 hN4 => ?_
  rw [xc_block]
  rw [xc_loop]
  refine vloopK (fun k' e ds A' => ∃ (v3 : Value) (l3 : List Nat) (D : View) (uv : Value) (its : List It) (vs : List Value), k' = l3.length ∧ ds = [] ∧ A' = ov D [] ∧ Priv D [] ∧ e 4 = v3 ∧ e 5 = uv ∧ (A1 ≤ eraseB D uv) ∧ (Own (eraseB D uv) D 51 4 uv its.length vs) ∧ (Parts 4 vs its (IsIt (eraseB D uv))) ∧ (Rn (eraseB D uv) v3 l3) ∧ (pat true (nb s) = (pat true l3).map (its ++ ·)) ∧ (its.length + l3.length ≤ 200)) _ ⟨.slice (some ⟨b, 0, none⟩) s.size cap, nb s, A1, .slice none 0 0, [], [], rfl, rfl, rfl, hP, by simp [go_sem], by simp [go_sem], View.le_refl _, Own.nil _ _ _ _, Parts.nil _ _, hR0, by simp, by simp; omega⟩ ?_
  clear hP
  rintro k' e ds A' ⟨v3, l3, D, uv, its, vs, rfl, rfl, hV, hP, g4, g5, hAD, hO, hp, hRn, hpat, hlen⟩ J1 X1 hJ1 hX1
  refine xc_sound _ ?_
  replace hV := Eq.symm hV; subst hV; replace hP : Priv D (addrs []) := hP
  have hA2 := View.le_trans hAD (eraseB_le D uv)
  obtain ⟨b3, o3, cap3, rfl⟩ := hRn.form
  cases l3 with
  | nil =>
    rw [Pm.pat_nil] at hpat
    simp only [Option.map_some, List.append_nil] at hpat
    refine xc_two fun N5 hN5 => ?_
    refine xc_two fun N6 hN6 => ?_
    refine xc_reg1 3 rfl fun K hK => ?_
    simp only [show (List.range 3).map (·, true) = [(0, true), (1, true), (2, true)] from rfl, rslv_cons, rslv_nil, List.getElem?_toArray, List.getElem?_cons_zero, List.getElem?_cons_succ, gres]
    iterate 3 (refine seqX_hide2 fun R hR => ?_; simp [go_sem, g4, g5, List.length_nil]; refine hR _ _ _ ?_; clear hR R)
    rw [seqX_nil]
    refine hK _ _ _ ?_; clear hK K
    refine hN6 _ _ _ ?_
    refine xc_iffalse (by simp [go_sem, g4, g5, List.length_nil]) ?_
    refine hX1 _ _ _ _ ?_
    refine hN4 _ _ _ ?_
    refine xc_two fun N7 hN7 => ?_
    refine xc_reg1 3 rfl fun K hK => ?_
    simp only [show (List.range 3).map (·, true) = [(0, true), (1, true), (2, true)] from rfl, rslv_cons, rslv_nil, List.getElem?_toArray, List.getElem?_cons_zero, List.getElem?_cons_succ, gres]
    iterate 3 (refine seqX_hide2 fun R hR => ?_; simp [go_sem, g4, g5, List.length_nil]; refine hR _ _ _ ?_; clear hR R)
    rw [seqX_nil]
    refine hK _ _ _ ?_; clear hK K
    refine hN7 _ _ _ ?_
    simp [go_sem, g4, g5, List.length_nil]
    rw [hpat]
    exact ⟨⟨_, rfl, hO.elems (hp.le fun _ _ h => h.le (eraseB_le _ _))⟩, View.le_trans lb hA2⟩
  | cons c r =>
    obtain ⟨u3, hc3⟩ := hRn.head
    have hlen3 : (c :: r).length = r.length + 1 := rfl
    have hT := hRn.tail
    have p1 : (0 : Int) < (r.length : Int) + 1 := by omega
    have p2 : (1 : Int) ≤ (r.length : Int) + 1 := by omega
    rw [hlen3] at hlen
    have u3 := le_cell (eraseB_le D uv) u3
    -- one item more
    have hgo : ∀ {D3 D4 D5 : View} {v4 : Value} {x : It} {ci : Array Value}, eraseB D uv ≤ eraseB D3 uv → eraseB D3 uv ≤ eraseB D4 v4 → D4 ≤ D5 → IsIt (eraseB D3 uv) x ci → Own (eraseB D3 uv) D4 51 4 v4 (its.length + 1) (vs ++ ci.toList) →
        A1 ≤ eraseB D5 v4 ∧ Own (eraseB D5 v4) D5 51 4 v4 (its ++ [x]).length (vs ++ ci.toList) ∧ Parts 4 (vs ++ ci.toList) (its ++ [x]) (IsIt (eraseB D5 v4)) ∧ eraseB D3 uv ≤ eraseB D5 v4 := by
      intro D3 D4 D5 v4 x ci h0 h1 h2 h3 h4
      have h5 := View.le_trans h1 (eraseB_mono h2 v4)
      refine ⟨View.le_trans hAD (View.le_trans h0 h5), ?_, ?_, h5⟩
      · rw [List.length_append]; exact own_rebase (h4.le h2)
      · exact (hp.le fun _ _ h => h.le (View.le_trans h0 h5)).push hO.clen h3.size (h3.le h5)
    by_cases k1 : c = 42
    · subst k1
      have hw : IntKind.u8.wrap 42 = 42 := by decide
      refine xc_two fun N5 hN5 => ?_
      refine xc_two fun N6 hN6 => ?_
      refine xc_reg1 3 rfl fun K hK => ?_
      simp only [show (List.range 3).map (·, true) = [(0, true), (1, true), (2, true)] from rfl, rslv_cons, rslv_nil, List.getElem?_toArray, List.getElem?_cons_zero, List.getElem?_cons_succ, gres]
      iterate 3 (refine seqX_hide2 fun R hR => ?_; simp [go_sem, g4, g5, hlen3, p1, p2, hc3, bc hP u3, xindexAt, vload, xslice, hw]; refine hR _ _ _ ?_; clear hR R)
      rw [seqX_nil]
      refine hK _ _ _ ?_; clear hK K
      refine hN6 _ _ _ ?_
      refine xc_iftrue (by simp [go_sem, g4, g5, hlen3, p1, p2, hc3, bc hP u3, xindexAt, vload, xslice, hw]) ?_
      refine hN5 _ _ _ ?_
      rw [xc_block]
      refine xc_two fun N7 hN7 => ?_
      refine xc_reg1 4 rfl fun K hK => ?_
      simp only [show (List.range 4).map (·, true) = [(0, true), (1, true), (2, true), (3, true)] from rfl, rslv_cons, rslv_nil, List.getElem?_toArray, List.getElem?_cons_zero, List.getElem?_cons_succ, gres]
      iterate 4 (refine seqX_hide2 fun R hR => ?_; simp [go_sem, g4, g5, hlen3, p1, p2, hc3, bc hP u3, xindexAt, vload, xslice, hw]; refine hR _ _ _ ?_; clear hR R)
      rw [seqX_nil]
      refine hK _ _ _ ?_; clear hK K
      refine hN7 _ _ _ ?_
      refine xc_two fun N8 hN8 => ?_
      refine xc_reg1 3 rfl fun K hK => ?_
      simp only [show (List.range 3).map (·, true) = [(0, true), (1, true), (2, true)] from rfl, rslv_cons, rslv_nil, List.getElem?_toArray, List.getElem?_cons_zero, List.getElem?_cons_succ, gres]
      iterate 3 (refine seqX_hide2 fun R hR => ?_; simp [go_sem, g4, g5, hlen3, p1, p2, hc3, bc hP u3, xindexAt, vload, xslice, hw]; refine hR _ _ _ ?_; clear hR R)
      rw [seqX_nil]
      refine hK _ _ _ ?_; clear hK K
      refine hN8 _ _ _ ?_
      refine xc_two fun N9 hN9 => ?_
      refine xc_reg1 1 rfl fun K hK => ?_
      simp only [show (List.range 1).map (·, true) = [(0, true)] from rfl, rslv_cons, rslv_nil, List.getElem?_toArray, List.getElem?_cons_zero, List.getElem?_cons_succ, gres]
      (refine seqX_hide2 fun R hR => ?_; simp [go_sem, g4, g5, hlen3, p1, p2, hc3, bc hP u3, xindexAt, vload, xslice, hw]; refine hR _ _ _ ?_; clear hR R)
      rw [seqX_nil]
      refine hK _ _ _ ?_; clear hK K
      refine hN9 _ _ _ ?_
      rw [xc_block]
      refine xc_two fun N10 hN10 => ?_
      refine xc_two fun N11 hN11 => ?_
      refine xc_reg1 2 rfl fun K hK => ?_
      simp only [show (List.range 2).map (·, true) = [(0, true), (1, true)] from rfl, rslv_cons, rslv_nil, List.getElem?_toArray, List.getElem?_cons_zero, List.getElem?_cons_succ, gres]
      iterate 2 (refine seqX_hide2 fun R hR => ?_; simp [go_sem, g4, g5, hlen3, p1, p2, hc3, bc hP u3, xindexAt, vload, xslice, hw]; refine hR _ _ _ ?_; clear hR R)
      rw [seqX_nil]
      refine hK _ _ _ ?_; clear hK K
      refine hN11 _ _ _ ?_
      refine xc_iftrue (by simp [go_sem, g4, g5, hlen3, p1, p2, hc3, bc hP u3, xindexAt, vload, xslice, hw]) ?_
      refine hN10 _ _ _ ?_
      refine xc_iftrue (by simp [go_sem, g4, g5, hlen3, p1, p2, hc3, bc hP u3, xindexAt, vload, xslice, hw]) ?_
      refine xc_reg1 7 rfl fun K hK => ?_
      simp only [show (List.range 7).map (·, true) = [(0, true), (1, true), (2, true), (3, true), (4, true), (5, true), (6, true)] from rfl, rslv_cons, rslv_nil, List.getElem?_toArray, List.getElem?_cons_zero, List.getElem?_cons_succ, gres]
      iterate 2 (refine seqX_hide2 fun R hR => ?_; simp [go_sem, g4, g5, hlen3, p1, p2, hc3, bc hP u3, xindexAt, vload, xslice, hw]; refine hR _ _ _ ?_; clear hR R)
      refine seqX_hide2 fun R hR => ?_
      simp [go_sem, g4, g5, hlen3, p1, p2, hc3, bc hP u3, xindexAt, vload, xslice, hw]
      refine hR _ _ _ ?_; clear hR R
      (refine seqX_hide2 fun R hR => ?_; simp [go_sem, g4, g5, hlen3, p1, p2, hc3, xindexAt, vload, xslice, hw]; refine hR _ _ _ ?_; clear hR R)
      refine seqX_hide2 fun R hR => ?_
      simp [go_sem, g4, g5, hlen3, p1, p2, hc3, xindexAt, vload, xslice, hw]
      intro q33 hq33
      replace hP := hP.cons hq33
      clear hq33
      refine hR _ _ _ ?_; clear hR R
      refine seqX_hide2 fun R hR => ?_
      simp [go_sem, g4, g5, hlen3, p1, p2, hc3, xindexAt, vload, xslice, hw]
      refine app_item (x := .star) hP hO (eraseB_le D uv) (by simp [appended, go_sem]) rfl rfl (by omega) ?_
      clear hP
      rintro v4 D4 h4 hO4 h4e hP
      refine hR _ _ _ ?_; clear hR R
      (refine seqX_hide2 fun R hR => ?_; simp [go_sem, g4, g5, hlen3, p1, p2, hc3, xindexAt, vload, xslice, hw]; refine hR _ _ _ ?_; clear hR R)
      rw [seqX_nil]
      refine hK _ _ _ ?_; clear hK K
      refine sink_goal 0 hP rfl fun hPn lq33 nq33 => ?_
      clear hP; have hP := hPn; clear hPn
      simp only [List.eraseIdx_cons_zero, List.eraseIdx_cons_succ, addrs_cons, addrs_nil] at hP ⊢
      obtain ⟨g1, g2, g3, g4⟩ := hgo (x := .star) (View.le_refl _) h4e lq33 (rfl) hO4
      refine hJ1 ((r).length) _ _ _ (by omega) ⟨_, r, _, v4, its ++ [.star], _, rfl, rfl, rfl, hP, by simp [go_sem, g4, g5, hlen3, p1, p2, hc3, xindexAt, vload, xslice, hw], by simp [go_sem, g4, g5, hlen3, p1, p2, hc3, xindexAt, vload, xslice, hw], g1, g2, g3, (hT.le g4), by rw [hpat, Pm.pat_cons, if_pos ⟨rfl, rfl⟩, map_map_app], by rw [List.length_append]; simp; omega⟩
    have k1b : ((c : Int) == 42) = false := beq_eq_false_iff_ne.2 (by omega)
    have k1n : ¬ (c : Int) = 42 := by omega
    by_cases k2 : c = 63
    · subst k2
      have hw : IntKind.u8.wrap 63 = 63 := by decide
      refine xc_two fun N5 hN5 => ?_
      refine xc_two fun N6 hN6 => ?_
      refine xc_reg1 3 rfl fun K hK => ?_
      simp only [show (List.range 3).map (·, true) = [(0, true), (1, true), (2, true)] from rfl, rslv_cons, rslv_nil, List.getElem?_toArray, List.getElem?_cons_zero, List.getElem?_cons_succ, gres]
      iterate 3 (refine seqX_hide2 fun R hR => ?_; simp [go_sem, g4, g5, hlen3, p1, p2, hc3, bc hP u3, xindexAt, vload, xslice, k1, k1b, k1n, hw]; refine hR _ _ _ ?_; clear hR R)
      rw [seqX_nil]
      refine hK _ _ _ ?_; clear hK K
      refine hN6 _ _ _ ?_
      refine xc_iftrue (by simp [go_sem, g4, g5, hlen3, p1, p2, hc3, bc hP u3, xindexAt, vload, xslice, k1, k1b, k1n, hw]) ?_
      refine hN5 _ _ _ ?_
      rw [xc_block]
      refine xc_two fun N7 hN7 => ?_
      refine xc_reg1 4 rfl fun K hK => ?_
      simp only [show (List.range 4).map (·, true) = [(0, true), (1, true), (2, true), (3, true)] from rfl, rslv_cons, rslv_nil, List.getElem?_toArray, List.getElem?_cons_zero, List.getElem?_cons_succ, gres]
      iterate 4 (refine seqX_hide2 fun R hR => ?_; simp [go_sem, g4, g5, hlen3, p1, p2, hc3, bc hP u3, xindexAt, vload, xslice, k1, k1b, k1n, hw]; refine hR _ _ _ ?_; clear hR R)
      rw [seqX_nil]
      refine hK _ _ _ ?_; clear hK K
      refine hN7 _ _ _ ?_
      refine xc_two fun N8 hN8 => ?_
      refine xc_reg1 3 rfl fun K hK => ?_
      simp only [show (List.range 3).map (·, true) = [(0, true), (1, true), (2, true)] from rfl, rslv_cons, rslv_nil, List.getElem?_toArray, List.getElem?_cons_zero, List.getElem?_cons_succ, gres]
      iterate 3 (refine seqX_hide2 fun R hR => ?_; simp [go_sem, g4, g5, hlen3, p1, p2, hc3, bc hP u3, xindexAt, vload, xslice, k1, k1b, k1n, hw]; refine hR _ _ _ ?_; clear hR R)
      rw [seqX_nil]
      refine hK _ _ _ ?_; clear hK K
      refine hN8 _ _ _ ?_
      refine xc_two fun N9 hN9 => ?_
      refine xc_reg1 1 rfl fun K hK => ?_
      simp only [show (List.range 1).map (·, true) = [(0, true)] from rfl, rslv_cons, rslv_nil, List.getElem?_toArray, List.getElem?_cons_zero, List.getElem?_cons_succ, gres]
      (refine seqX_hide2 fun R hR => ?_; simp [go_sem, g4, g5, hlen3, p1, p2, hc3, bc hP u3, xindexAt, vload, xslice, k1, k1b, k1n, hw]; refine hR _ _ _ ?_; clear hR R)
      rw [seqX_nil]
      refine hK _ _ _ ?_; clear hK K
      refine hN9 _ _ _ ?_
      rw [xc_block]
      refine xc_two fun N10 hN10 => ?_
      refine xc_two fun N11 hN11 => ?_
      refine xc_reg1 2 rfl fun K hK => ?_
      simp only [show (List.range 2).map (·, true) = [(0, true), (1, true)] from rfl, rslv_cons, rslv_nil, List.getElem?_toArray, List.getElem?_cons_zero, List.getElem?_cons_succ, gres]
      iterate 2 (refine seqX_hide2 fun R hR => ?_; simp [go_sem, g4, g5, hlen3, p1, p2, hc3, bc hP u3, xindexAt, vload, xslice, k1, k1b, k1n, hw]; refine hR _ _ _ ?_; clear hR R)
      rw [seqX_nil]
      refine hK _ _ _ ?_; clear hK K
      refine hN11 _ _ _ ?_
      refine xc_iffalse (by simp [go_sem, g4, g5, hlen3, p1, p2, hc3, bc hP u3, xindexAt, vload, xslice, k1, k1b, k1n, hw]) ?_
      refine xc_reg1 2 rfl fun K hK => ?_
      simp only [show (List.range 2).map (·, true) = [(0, true), (1, true)] from rfl, rslv_cons, rslv_nil, List.getElem?_toArray, List.getElem?_cons_zero, List.getElem?_cons_succ, gres]
      iterate 2 (refine seqX_hide2 fun R hR => ?_; simp [go_sem, g4, g5, hlen3, p1, p2, hc3, bc hP u3, xindexAt, vload, xslice, k1, k1b, k1n, hw]; refine hR _ _ _ ?_; clear hR R)
      rw [seqX_nil]
      refine hK _ _ _ ?_; clear hK K
      refine hN10 _ _ _ ?_
      refine xc_iftrue (by simp [go_sem, g4, g5, hlen3, p1, p2, hc3, bc hP u3, xindexAt, vload, xslice, k1, k1b, k1n, hw]) ?_
      refine xc_reg1 7 rfl fun K hK => ?_
      simp only [show (List.range 7).map (·, true) = [(0, true), (1, true), (2, true), (3, true), (4, true), (5, true), (6, true)] from rfl, rslv_cons, rslv_nil, List.getElem?_toArray, List.getElem?_cons_zero, List.getElem?_cons_succ, gres]
      iterate 2 (refine seqX_hide2 fun R hR => ?_; simp [go_sem, g4, g5, hlen3, p1, p2, hc3, bc hP u3, xindexAt, vload, xslice, k1, k1b, k1n, hw]; refine hR _ _ _ ?_; clear hR R)
      refine seqX_hide2 fun R hR => ?_
      simp [go_sem, g4, g5, hlen3, p1, p2, hc3, bc hP u3, xindexAt, vload, xslice, k1, k1b, k1n, hw]
      refine hR _ _ _ ?_; clear hR R
      (refine seqX_hide2 fun R hR => ?_; simp [go_sem, g4, g5, hlen3, p1, p2, hc3, xindexAt, vload, xslice, k1, k1b, k1n, hw]; refine hR _ _ _ ?_; clear hR R)
      refine seqX_hide2 fun R hR => ?_
      simp [go_sem, g4, g5, hlen3, p1, p2, hc3, xindexAt, vload, xslice, k1, k1b, k1n, hw]
      intro q33 hq33
      replace hP := hP.cons hq33
      clear hq33
      refine hR _ _ _ ?_; clear hR R
      refine seqX_hide2 fun R hR => ?_
      simp [go_sem, g4, g5, hlen3, p1, p2, hc3, xindexAt, vload, xslice, k1, k1b, k1n, hw]
      refine app_item (x := .any) hP hO (eraseB_le D uv) (by simp [appended, go_sem]) rfl rfl (by omega) ?_
      clear hP
      rintro v4 D4 h4 hO4 h4e hP
      refine hR _ _ _ ?_; clear hR R
      (refine seqX_hide2 fun R hR => ?_; simp [go_sem, g4, g5, hlen3, p1, p2, hc3, xindexAt, vload, xslice, k1, k1b, k1n, hw]; refine hR _ _ _ ?_; clear hR R)
      rw [seqX_nil]
      refine hK _ _ _ ?_; clear hK K
      refine sink_goal 0 hP rfl fun hPn lq33 nq33 => ?_
      clear hP; have hP := hPn; clear hPn
      simp only [List.eraseIdx_cons_zero, List.eraseIdx_cons_succ, addrs_cons, addrs_nil] at hP ⊢
      obtain ⟨g1, g2, g3, g4⟩ := hgo (x := .any) (View.le_refl _) h4e lq33 (rfl) hO4
      refine hJ1 ((r).length) _ _ _ (by omega) ⟨_, r, _, v4, its ++ [.any], _, rfl, rfl, rfl, hP, by simp [go_sem, g4, g5, hlen3, p1, p2, hc3, xindexAt, vload, xslice, k1, k1b, k1n, hw], by simp [go_sem, g4, g5, hlen3, p1, p2, hc3, xindexAt, vload, xslice, k1, k1b, k1n, hw], g1, g2, g3, (hT.le g4), by rw [hpat, Pm.pat_any, map_map_app], by rw [List.length_append]; simp; omega⟩
    have k2b : ((c : Int) == 63) = false := beq_eq_false_iff_ne.2 (by omega)
    have k2n : ¬ (c : Int) = 63 := by omega
    by_cases k3 : c = 91
    · subst k3
      have hrl : r.length ≤ 1000 := by omega
      refine xc_two fun N5 hN5 => ?_
      refine xc_two fun N6 hN6 => ?_
      refine xc_reg1 3 rfl fun K hK => ?_
      simp only [show (List.range 3).map (·, true) = [(0, true), (1, true), (2, true)] from rfl, rslv_cons, rslv_nil, List.getElem?_toArray, List.getElem?_cons_zero, List.getElem?_cons_succ, gres]
      iterate 3 (refine seqX_hide2 fun R hR => ?_; simp [go_sem, g4, g5, hlen3, p1, p2, hc3, bc hP u3, xindexAt, vload, xslice, k1, k1b, k1n, k2, k2b, k2n]; refine hR _ _ _ ?_; clear hR R)
      rw [seqX_nil]
      refine hK _ _ _ ?_; clear hK K
      refine hN6 _ _ _ ?_
      refine xc_iftrue (by simp [go_sem, g4, g5, hlen3, p1, p2, hc3, bc hP u3, xindexAt, vload, xslice, k1, k1b, k1n, k2, k2b, k2n]) ?_
      refine hN5 _ _ _ ?_
      rw [xc_block]
      refine xc_two fun N7 hN7 => ?_
      refine xc_reg1 4 rfl fun K hK => ?_
      simp only [show (List.range 4).map (·, true) = [(0, true), (1, true), (2, true), (3, true)] from rfl, rslv_cons, rslv_nil, List.getElem?_toArray, List.getElem?_cons_zero, List.getElem?_cons_succ, gres]
      iterate 4 (refine seqX_hide2 fun R hR => ?_; simp [go_sem, g4, g5, hlen3, p1, p2, hc3, bc hP u3, xindexAt, vload, xslice, k1, k1b, k1n, k2, k2b, k2n]; refine hR _ _ _ ?_; clear hR R)
      rw [seqX_nil]
      refine hK _ _ _ ?_; clear hK K
      refine hN7 _ _ _ ?_
      refine xc_two fun N8 hN8 => ?_
      refine xc_reg1 3 rfl fun K hK => ?_
      simp only [show (List.range 3).map (·, true) = [(0, true), (1, true), (2, true)] from rfl, rslv_cons, rslv_nil, List.getElem?_toArray, List.getElem?_cons_zero, List.getElem?_cons_succ, gres]
      iterate 3 (refine seqX_hide2 fun R hR => ?_; simp [go_sem, g4, g5, hlen3, p1, p2, hc3, bc hP u3, xindexAt, vload, xslice, k1, k1b, k1n, k2, k2b, k2n]; refine hR _ _ _ ?_; clear hR R)
      rw [seqX_nil]
      refine hK _ _ _ ?_; clear hK K
      refine hN8 _ _ _ ?_
      refine xc_two fun N9 hN9 => ?_
      refine xc_reg1 1 rfl fun K hK => ?_
      simp only [show (List.range 1).map (·, true) = [(0, true)] from rfl, rslv_cons, rslv_nil, List.getElem?_toArray, List.getElem?_cons_zero, List.getElem?_cons_succ, gres]
      (refine seqX_hide2 fun R hR => ?_; simp [go_sem, g4, g5, hlen3, p1, p2, hc3, bc hP u3, xindexAt, vload, xslice, k1, k1b, k1n, k2, k2b, k2n]; refine hR _ _ _ ?_; clear hR R)
      rw [seqX_nil]
      refine hK _ _ _ ?_; clear hK K
      refine hN9 _ _ _ ?_
      rw [xc_block]
      refine xc_two fun N10 hN10 => ?_
      refine xc_two fun N11 hN11 => ?_
      refine xc_reg1 2 rfl fun K hK => ?_
      simp only [show (List.range 2).map (·, true) = [(0, true), (1, true)] from rfl, rslv_cons, rslv_nil, List.getElem?_toArray, List.getElem?_cons_zero, List.getElem?_cons_succ, gres]
      iterate 2 (refine seqX_hide2 fun R hR => ?_; simp [go_sem, g4, g5, hlen3, p1, p2, hc3, bc hP u3, xindexAt, vload, xslice, k1, k1b, k1n, k2, k2b, k2n]; refine hR _ _ _ ?_; clear hR R)
      rw [seqX_nil]
      refine hK _ _ _ ?_; clear hK K
      refine hN11 _ _ _ ?_
      refine xc_iffalse (by simp [go_sem, g4, g5, hlen3, p1, p2, hc3, bc hP u3, xindexAt, vload, xslice, k1, k1b, k1n, k2, k2b, k2n]) ?_
      refine xc_reg1 2 rfl fun K hK => ?_
      simp only [show (List.range 2).map (·, true) = [(0, true), (1, true)] from rfl, rslv_cons, rslv_nil, List.getElem?_toArray, List.getElem?_cons_zero, List.getElem?_cons_succ, gres]
      iterate 2 (refine seqX_hide2 fun R hR => ?_; simp [go_sem, g4, g5, hlen3, p1, p2, hc3, bc hP u3, xindexAt, vload, xslice, k1, k1b, k1n, k2, k2b, k2n]; refine hR _ _ _ ?_; clear hR R)
      rw [seqX_nil]
      refine hK _ _ _ ?_; clear hK K
      refine hN10 _ _ _ ?_
      refine xc_iffalse (by simp [go_sem, g4, g5, hlen3, p1, p2, hc3, bc hP u3, xindexAt, vload, xslice, k1, k1b, k1n, k2, k2b, k2n]) ?_
      refine xc_two fun N12 hN12 => ?_
      refine xc_reg1 2 rfl fun K hK => ?_
      simp only [show (List.range 2).map (·, true) = [(0, true), (1, true)] from rfl, rslv_cons, rslv_nil, List.getElem?_toArray, List.getElem?_cons_zero, List.getElem?_cons_succ, gres]
      iterate 2 (refine seqX_hide2 fun R hR => ?_; simp [go_sem, g4, g5, hlen3, p1, p2, hc3, bc hP u3, xindexAt, vload, xslice, k1, k1b, k1n, k2, k2b, k2n]; refine hR _ _ _ ?_; clear hR R)
      rw [seqX_nil]
      refine hK _ _ _ ?_; clear hK K
      refine hN12 _ _ _ ?_
      refine xc_iftrue (by simp [go_sem, g4, g5, hlen3, p1, p2, hc3, bc hP u3, xindexAt, vload, xslice, k1, k1b, k1n, k2, k2b, k2n]) ?_
      refine xc_two fun N13 hN13 => ?_
      refine xc_reg1 10 rfl fun K hK => ?_
      simp only [show (List.range 10).map (·, true) = [(0, true), (1, true), (2, true), (3, true), (4, true), (5, true), (6, true), (7, true), (8, true), (9, true)] from rfl, rslv_cons, rslv_nil, List.getElem?_toArray, List.getElem?_cons_zero, List.getElem?_cons_succ, gres]
      (refine seqX_hide2 fun R hR => ?_; simp [go_sem, g4, g5, hlen3, p1, p2, hc3, bc hP u3, xindexAt, vload, xslice, k1, k1b, k1n, k2, k2b, k2n]; refine hR _ _ _ ?_; clear hR R)
      refine seqX_hide2 fun R hR => ?_
      simp [go_sem, g4, g5, hlen3, p1, p2, hc3, bc hP u3, xindexAt, vload, xslice, k1, k1b, k1n, k2, k2b, k2n]
      refine call_sub hP (eraseB_le D uv) (class19 (eraseB D uv) _ r hT hrl) ?_
      clear hP
      rintro r4 E D3 ⟨hC, hAE⟩ hED hKp hmono hP
      have hDD := hmono hAE
      have hE3 := keep_erase hO hED hKp
      have h03 := View.le_trans hAE hE3
      have hO3 := own_rebase (hO.le hDD)
      cases hcl : cls1 r with
      | none =>
        rw [hcl] at hC
        obtain ⟨ci, sv, rfl, hz, ho⟩ := hC
        have hpn : pat true (nb s) = none := by rw [hpat, Pm.pat_cls, hcl]; rfl
        refine hR _ _ _ ?_; clear hR R
        iterate 4 (refine seqX_hide2 fun R hR => ?_; simp [go_sem, g4, g5, hlen3, p1, p2, hc3, xindexAt, vload, xslice, k1, k1b, k1n, k2, k2b, k2n, hz, ho]; refine hR _ _ _ ?_; clear hR R)
        refine seqX_hide2 fun R hR => ?_
        simp [go_sem, g4, g5, hlen3, p1, p2, hc3, xindexAt, vload, xslice, k1, k1b, k1n, k2, k2b, k2n, hz, ho]
        intro q7 hq7
        replace hP := hP.cons hq7
        clear hq7
        refine hR _ _ _ ?_; clear hR R
        refine seqX_hide2 fun R hR => ?_
        simp [go_sem, g4, g5, hlen3, p1, p2, hc3, xindexAt, vload, xslice, k1, k1b, k1n, k2, k2b, k2n, hz, ho]
        refine hR _ _ _ ?_; clear hR R
        iterate 2 (refine seqX_hide2 fun R hR => ?_; simp [go_sem, g4, g5, hlen3, p1, p2, hc3, xindexAt, vload, xslice, k1, k1b, k1n, k2, k2b, k2n, hz, ho]; refine hR _ _ _ ?_; clear hR R)
        rw [seqX_nil]
        refine hK _ _ _ ?_; clear hK K
        refine hN13 _ _ _ ?_
        refine xc_two fun N14 hN14 => ?_
        refine xc_two fun N15 hN15 => ?_
        refine xc_reg1 2 rfl fun K hK => ?_
        simp only [show (List.range 2).map (·, true) = [(0, true), (1, true)] from rfl, rslv_cons, rslv_nil, List.getElem?_toArray, List.getElem?_cons_zero, List.getElem?_cons_succ, gres]
        iterate 2 (refine seqX_hide2 fun R hR => ?_; simp [go_sem, g4, g5, hlen3, p1, p2, hc3, xindexAt, vload, xslice, k1, k1b, k1n, k2, k2b, k2n, hz, ho]; refine hR _ _ _ ?_; clear hR R)
        rw [seqX_nil]
        refine hK _ _ _ ?_; clear hK K
        refine hN15 _ _ _ ?_
        refine xc_iftrue (by simp [go_sem, g4, g5, hlen3, p1, p2, hc3, xindexAt, vload, xslice, k1, k1b, k1n, k2, k2b, k2n, hz, ho]) ?_
        refine xc_two fun N16 hN16 => ?_
        refine xc_reg1 2 rfl fun K hK => ?_
        simp only [show (List.range 2).map (·, true) = [(0, true), (1, true)] from rfl, rslv_cons, rslv_nil, List.getElem?_toArray, List.getElem?_cons_zero, List.getElem?_cons_succ, gres]
        iterate 2 (refine seqX_hide2 fun R hR => ?_; simp [go_sem, g4, g5, hlen3, p1, p2, hc3, xindexAt, vload, xslice, k1, k1b, k1n, k2, k2b, k2n, hz, ho]; refine hR _ _ _ ?_; clear hR R)
        rw [seqX_nil]
        refine hK _ _ _ ?_; clear hK K
        refine hN16 _ _ _ ?_
        refine hX1 _ _ _ _ ?_
        simp [go_sem, g4, g5, hlen3, p1, p2, hc3, xindexAt, vload, xslice, k1, k1b, k1n, k2, k2b, k2n, hz, ho]
        rw [hpn]
        refine ⟨⟨_, rfl⟩, View.le_trans lb (View.le_trans hA2 (View.le_trans hDD ?_))⟩
        exact le_ov hP
      | some y =>
        obtain ⟨x, rest⟩ := y
        rw [hcl] at hC
        obtain ⟨ci, v7, rfl, hx, hR7⟩ := hC
        have hz := hx.size
        have ho := hx.ones
        have hrest := Pm.cls1_len hcl
        have hx3 := hx.le hE3
        have hT7 := hR7.le hE3
        refine hR _ _ _ ?_; clear hR R
        iterate 4 (refine seqX_hide2 fun R hR => ?_; simp [go_sem, g4, g5, hlen3, p1, p2, hc3, xindexAt, vload, xslice, k1, k1b, k1n, k2, k2b, k2n, hz, ho]; refine hR _ _ _ ?_; clear hR R)
        refine seqX_hide2 fun R hR => ?_
        simp [go_sem, g4, g5, hlen3, p1, p2, hc3, xindexAt, vload, xslice, k1, k1b, k1n, k2, k2b, k2n, hz, ho]
        intro q7 hq7
        replace hP := hP.cons hq7
        clear hq7
        refine hR _ _ _ ?_; clear hR R
        refine seqX_hide2 fun R hR => ?_
        simp [go_sem, g4, g5, hlen3, p1, p2, hc3, xindexAt, vload, xslice, k1, k1b, k1n, k2, k2b, k2n, hz, ho]
        refine hR _ _ _ ?_; clear hR R
        iterate 2 (refine seqX_hide2 fun R hR => ?_; simp [go_sem, g4, g5, hlen3, p1, p2, hc3, xindexAt, vload, xslice, k1, k1b, k1n, k2, k2b, k2n, hz, ho]; refine hR _ _ _ ?_; clear hR R)
        rw [seqX_nil]
        refine hK _ _ _ ?_; clear hK K
        refine hN13 _ _ _ ?_
        refine xc_two fun N14 hN14 => ?_
        refine xc_two fun N15 hN15 => ?_
        refine xc_reg1 2 rfl fun K hK => ?_
        simp only [show (List.range 2).map (·, true) = [(0, true), (1, true)] from rfl, rslv_cons, rslv_nil, List.getElem?_toArray, List.getElem?_cons_zero, List.getElem?_cons_succ, gres]
        iterate 2 (refine seqX_hide2 fun R hR => ?_; simp [go_sem, g4, g5, hlen3, p1, p2, hc3, xindexAt, vload, xslice, k1, k1b, k1n, k2, k2b, k2n, hz, ho]; refine hR _ _ _ ?_; clear hR R)
        rw [seqX_nil]
        refine hK _ _ _ ?_; clear hK K
        refine hN15 _ _ _ ?_
        refine xc_iffalse (by simp [go_sem, g4, g5, hlen3, p1, p2, hc3, xindexAt, vload, xslice, k1, k1b, k1n, k2, k2b, k2n, hz, ho]) ?_
        refine hN14 _ _ _ ?_
        refine xc_reg1 7 rfl fun K hK => ?_
        simp only [show (List.range 7).map (·, true) = [(0, true), (1, true), (2, true), (3, true), (4, true), (5, true), (6, true)] from rfl, rslv_cons, rslv_nil, List.getElem?_toArray, List.getElem?_cons_zero, List.getElem?_cons_succ, gres]
        iterate 2 (refine seqX_hide2 fun R hR => ?_; simp [go_sem, g4, g5, hlen3, p1, p2, hc3, xindexAt, vload, xslice, k1, k1b, k1n, k2, k2b, k2n, hz, ho]; refine hR _ _ _ ?_; clear hR R)
        refine seqX_hide2 fun R hR => ?_
        simp [go_sem, g4, g5, hlen3, p1, p2, hc3, xindexAt, vload, xslice, k1, k1b, k1n, k2, k2b, k2n, hz, ho]
        intro q47 hq47
        replace hP := hP.cons hq47
        clear hq47
        have d477 : q47 ≠ q7 := (hP.ne q7 (by simp [addrs])).1
        have d747 : q7 ≠ q47 := (hP.ne q7 (by simp [addrs])).2
        refine hR _ _ _ ?_; clear hR R
        refine seqX_hide2 fun R hR => ?_
        simp [go_sem, g4, g5, hlen3, p1, p2, hc3, xindexAt, vload, xslice, k1, k1b, k1n, k2, k2b, k2n, hz, ho, d477, d747]
        refine app_item (x := x) hP hO3 (eraseB_le D3 uv) (by simp [appended, go_sem, hz]) hx3 rfl (by omega) ?_
        clear hP
        rintro v4 D4 h4 hO4 h4e hP
        refine hR _ _ _ ?_; clear hR R
        iterate 3 (refine seqX_hide2 fun R hR => ?_; simp [go_sem, g4, g5, hlen3, p1, p2, hc3, xindexAt, vload, xslice, k1, k1b, k1n, k2, k2b, k2n, hz, ho, d477, d747]; refine hR _ _ _ ?_; clear hR R)
        rw [seqX_nil]
        refine hK _ _ _ ?_; clear hK K
        refine sink_goal 0 hP rfl fun hPn lq47 nq47 => ?_
        clear hP; have hP := hPn; clear hPn
        simp only [List.eraseIdx_cons_zero, List.eraseIdx_cons_succ, addrs_cons, addrs_nil] at hP ⊢
        refine sink_goal 0 hP rfl fun hPn lq7 nq7 => ?_
        clear hP; have hP := hPn; clear hPn
        simp only [List.eraseIdx_cons_zero, List.eraseIdx_cons_succ, addrs_cons, addrs_nil] at hP ⊢
        obtain ⟨g1, g2, g3, g4⟩ := hgo (x := x) (h03) h4e (View.le_trans lq47 lq7) (hx3) hO4
        refine hJ1 ((rest).length) _ _ _ (by omega) ⟨_, rest, _, v4, its ++ [x], _, rfl, rfl, rfl, hP, by simp [go_sem, g4, g5, hlen3, p1, p2, hc3, xindexAt, vload, xslice, k1, k1b, k1n, k2, k2b, k2n, hz, ho, d477, d747], by simp [go_sem, g4, g5, hlen3, p1, p2, hc3, xindexAt, vload, xslice, k1, k1b, k1n, k2, k2b, k2n, hz, ho, d477, d747], g1, g2, g3, (hT7.le g4), by rw [hpat, Pm.pat_cls, hcl, map_map_app], by rw [List.length_append]; simp; omega⟩
    have k3b : ((c : Int) == 91) = false := beq_eq_false_iff_ne.2 (by omega)
    have k3n : ¬ (c : Int) = 91 := by omega
    by_cases k4 : c = 92
    · subst k4
      cases r with
      | nil =>
        have hpn : pat true (nb s) = none := by rw [hpat, Pm.pat_esc0]; rfl
        refine xc_two fun N5 hN5 => ?_
        refine xc_two fun N6 hN6 => ?_
        refine xc_reg1 3 rfl fun K hK => ?_
        simp only [show (List.range 3).map (·, true) = [(0, true), (1, true), (2, true)] from rfl, rslv_cons, rslv_nil, List.getElem?_toArray, List.getElem?_cons_zero, List.getElem?_cons_succ, gres]
        iterate 3 (refine seqX_hide2 fun R hR => ?_; simp [go_sem, g4, g5, hlen3, p1, p2, hc3, bc hP u3, xindexAt, vload, xslice, k1, k1b, k1n, k2, k2b, k2n, k3, k3b, k3n, List.length_nil]; refine hR _ _ _ ?_; clear hR R)
        rw [seqX_nil]
        refine hK _ _ _ ?_; clear hK K
        refine hN6 _ _ _ ?_
        refine xc_iftrue (by simp [go_sem, g4, g5, hlen3, p1, p2, hc3, bc hP u3, xindexAt, vload, xslice, k1, k1b, k1n, k2, k2b, k2n, k3, k3b, k3n, List.length_nil]) ?_
        refine hN5 _ _ _ ?_
        rw [xc_block]
        refine xc_two fun N7 hN7 => ?_
        refine xc_reg1 4 rfl fun K hK => ?_
        simp only [show (List.range 4).map (·, true) = [(0, true), (1, true), (2, true), (3, true)] from rfl, rslv_cons, rslv_nil, List.getElem?_toArray, List.getElem?_cons_zero, List.getElem?_cons_succ, gres]
        iterate 4 (refine seqX_hide2 fun R hR => ?_; simp [go_sem, g4, g5, hlen3, p1, p2, hc3, bc hP u3, xindexAt, vload, xslice, k1, k1b, k1n, k2, k2b, k2n, k3, k3b, k3n, List.length_nil]; refine hR _ _ _ ?_; clear hR R)
        rw [seqX_nil]
        refine hK _ _ _ ?_; clear hK K
        refine hN7 _ _ _ ?_
        refine xc_two fun N8 hN8 => ?_
        refine xc_reg1 3 rfl fun K hK => ?_
        simp only [show (List.range 3).map (·, true) = [(0, true), (1, true), (2, true)] from rfl, rslv_cons, rslv_nil, List.getElem?_toArray, List.getElem?_cons_zero, List.getElem?_cons_succ, gres]
        iterate 3 (refine seqX_hide2 fun R hR => ?_; simp [go_sem, g4, g5, hlen3, p1, p2, hc3, bc hP u3, xindexAt, vload, xslice, k1, k1b, k1n, k2, k2b, k2n, k3, k3b, k3n, List.length_nil]; refine hR _ _ _ ?_; clear hR R)
        rw [seqX_nil]
        refine hK _ _ _ ?_; clear hK K
        refine hN8 _ _ _ ?_
        refine xc_two fun N9 hN9 => ?_
        refine xc_reg1 1 rfl fun K hK => ?_
        simp only [show (List.range 1).map (·, true) = [(0, true)] from rfl, rslv_cons, rslv_nil, List.getElem?_toArray, List.getElem?_cons_zero, List.getElem?_cons_succ, gres]
        (refine seqX_hide2 fun R hR => ?_; simp [go_sem, g4, g5, hlen3, p1, p2, hc3, bc hP u3, xindexAt, vload, xslice, k1, k1b, k1n, k2, k2b, k2n, k3, k3b, k3n, List.length_nil]; refine hR _ _ _ ?_; clear hR R)
        rw [seqX_nil]
        refine hK _ _ _ ?_; clear hK K
        refine hN9 _ _ _ ?_
        rw [xc_block]
        refine xc_two fun N10 hN10 => ?_
        refine xc_two fun N11 hN11 => ?_
        refine xc_reg1 2 rfl fun K hK => ?_
        simp only [show (List.range 2).map (·, true) = [(0, true), (1, true)] from rfl, rslv_cons, rslv_nil, List.getElem?_toArray, List.getElem?_cons_zero, List.getElem?_cons_succ, gres]
        iterate 2 (refine seqX_hide2 fun R hR => ?_; simp [go_sem, g4, g5, hlen3, p1, p2, hc3, bc hP u3, xindexAt, vload, xslice, k1, k1b, k1n, k2, k2b, k2n, k3, k3b, k3n, List.length_nil]; refine hR _ _ _ ?_; clear hR R)
        rw [seqX_nil]
        refine hK _ _ _ ?_; clear hK K
        refine hN11 _ _ _ ?_
        refine xc_iffalse (by simp [go_sem, g4, g5, hlen3, p1, p2, hc3, bc hP u3, xindexAt, vload, xslice, k1, k1b, k1n, k2, k2b, k2n, k3, k3b, k3n, List.length_nil]) ?_
        refine xc_reg1 2 rfl fun K hK => ?_
        simp only [show (List.range 2).map (·, true) = [(0, true), (1, true)] from rfl, rslv_cons, rslv_nil, List.getElem?_toArray, List.getElem?_cons_zero, List.getElem?_cons_succ, gres]
        iterate 2 (refine seqX_hide2 fun R hR => ?_; simp [go_sem, g4, g5, hlen3, p1, p2, hc3, bc hP u3, xindexAt, vload, xslice, k1, k1b, k1n, k2, k2b, k2n, k3, k3b, k3n, List.length_nil]; refine hR _ _ _ ?_; clear hR R)
        rw [seqX_nil]
        refine hK _ _ _ ?_; clear hK K
        refine hN10 _ _ _ ?_
        refine xc_iffalse (by simp [go_sem, g4, g5, hlen3, p1, p2, hc3, bc hP u3, xindexAt, vload, xslice, k1, k1b, k1n, k2, k2b, k2n, k3, k3b, k3n, List.length_nil]) ?_
        refine xc_two fun N12 hN12 => ?_
        refine xc_reg1 2 rfl fun K hK => ?_
        simp only [show (List.range 2).map (·, true) = [(0, true), (1, true)] from rfl, rslv_cons, rslv_nil, List.getElem?_toArray, List.getElem?_cons_zero, List.getElem?_cons_succ, gres]
        iterate 2 (refine seqX_hide2 fun R hR => ?_; simp [go_sem, g4, g5, hlen3, p1, p2, hc3, bc hP u3, xindexAt, vload, xslice, k1, k1b, k1n, k2, k2b, k2n, k3, k3b, k3n, List.length_nil]; refine hR _ _ _ ?_; clear hR R)
        rw [seqX_nil]
        refine hK _ _ _ ?_; clear hK K
        refine hN12 _ _ _ ?_
        refine xc_iffalse (by simp [go_sem, g4, g5, hlen3, p1, p2, hc3, bc hP u3, xindexAt, vload, xslice, k1, k1b, k1n, k2, k2b, k2n, k3, k3b, k3n, List.length_nil]) ?_
        refine xc_two fun N13 hN13 => ?_
        refine xc_reg1 2 rfl fun K hK => ?_
        simp only [show (List.range 2).map (·, true) = [(0, true), (1, true)] from rfl, rslv_cons, rslv_nil, List.getElem?_toArray, List.getElem?_cons_zero, List.getElem?_cons_succ, gres]
        iterate 2 (refine seqX_hide2 fun R hR => ?_; simp [go_sem, g4, g5, hlen3, p1, p2, hc3, bc hP u3, xindexAt, vload, xslice, k1, k1b, k1n, k2, k2b, k2n, k3, k3b, k3n, List.length_nil]; refine hR _ _ _ ?_; clear hR R)
        rw [seqX_nil]
        refine hK _ _ _ ?_; clear hK K
        refine hN13 _ _ _ ?_
        refine xc_iftrue (by simp [go_sem, g4, g5, hlen3, p1, p2, hc3, bc hP u3, xindexAt, vload, xslice, k1, k1b, k1n, k2, k2b, k2n, k3, k3b, k3n, List.length_nil]) ?_
        refine xc_two fun N14 hN14 => ?_
        refine xc_two fun N15 hN15 => ?_
        refine xc_reg1 3 rfl fun K hK => ?_
        simp only [show (List.range 3).map (·, true) = [(0, true), (1, true), (2, true)] from rfl, rslv_cons, rslv_nil, List.getElem?_toArray, List.getElem?_cons_zero, List.getElem?_cons_succ, gres]
        iterate 3 (refine seqX_hide2 fun R hR => ?_; simp [go_sem, g4, g5, hlen3, p1, p2, hc3, bc hP u3, xindexAt, vload, xslice, k1, k1b, k1n, k2, k2b, k2n, k3, k3b, k3n, List.length_nil]; refine hR _ _ _ ?_; clear hR R)
        rw [seqX_nil]
        refine hK _ _ _ ?_; clear hK K
        refine hN15 _ _ _ ?_
        refine xc_iftrue (by simp [go_sem, g4, g5, hlen3, p1, p2, hc3, bc hP u3, xindexAt, vload, xslice, k1, k1b, k1n, k2, k2b, k2n, k3, k3b, k3n, List.length_nil]) ?_
        refine xc_two fun N16 hN16 => ?_
        refine xc_reg1 2 rfl fun K hK => ?_
        simp only [show (List.range 2).map (·, true) = [(0, true), (1, true)] from rfl, rslv_cons, rslv_nil, List.getElem?_toArray, List.getElem?_cons_zero, List.getElem?_cons_succ, gres]
        iterate 2 (refine seqX_hide2 fun R hR => ?_; simp [go_sem, g4, g5, hlen3, p1, p2, hc3, bc hP u3, xindexAt, vload, xslice, k1, k1b, k1n, k2, k2b, k2n, k3, k3b, k3n, List.length_nil]; refine hR _ _ _ ?_; clear hR R)
        rw [seqX_nil]
        refine hK _ _ _ ?_; clear hK K
        refine hN16 _ _ _ ?_
        refine hX1 _ _ _ _ ?_
        simp [go_sem, g4, g5, hlen3, p1, p2, hc3, bc hP u3, xindexAt, vload, xslice, k1, k1b, k1n, k2, k2b, k2n, k3, k3b, k3n, List.length_nil]
        rw [hpn]
        exact ⟨⟨_, rfl⟩, View.le_trans lb hA2⟩
      | cons d r' =>
        have hlen4 : (d :: r').length = r'.length + 1 := rfl
        rw [hlen4] at hc3 hlen
        have hc1 : ¬ cap3 = 1 := by omega
        rw [if_neg hc1] at hT
        obtain ⟨u4, hc4⟩ := hT.head
        have hT2 := hT.tail
        rw [hlen4] at hT
        have u4e := u4
        have u4 := le_cell (eraseB_le D uv) u4
        have p3 : (0 : Int) < (r'.length : Int) + 1 := by omega
        have p4 : (1 : Int) ≤ (r'.length : Int) + 1 := by omega
        have p5 : ¬ ((r'.length : Int) + 1) = 0 := by omega
        have p7 : (0 : Int) < (r'.length : Int) + 1 + 1 := by omega
        have p8 : (1 : Int) ≤ (r'.length : Int) + 1 + 1 := by omega
        have p6 : (((r'.length : Int) + 1) == 0) = false := beq_eq_false_iff_ne.2 (by omega)
        refine xc_two fun N5 hN5 => ?_
        refine xc_two fun N6 hN6 => ?_
        refine xc_reg1 3 rfl fun K hK => ?_
        simp only [show (List.range 3).map (·, true) = [(0, true), (1, true), (2, true)] from rfl, rslv_cons, rslv_nil, List.getElem?_toArray, List.getElem?_cons_zero, List.getElem?_cons_succ, gres]
        iterate 3 (refine seqX_hide2 fun R hR => ?_; simp [go_sem, g4, g5, hlen3, p1, p2, hc3, bc hP u3, xindexAt, vload, xslice, k1, k1b, k1n, k2, k2b, k2n, k3, k3b, k3n, hlen4, hc1, p3, p4, p5, p6, p7, p8, hc4, bc hP u4, bc (Priv.nil (eraseB D uv)) u4e]; refine hR _ _ _ ?_; clear hR R)
        rw [seqX_nil]
        refine hK _ _ _ ?_; clear hK K
        refine hN6 _ _ _ ?_
        refine xc_iftrue (by simp [go_sem, g4, g5, hlen3, p1, p2, hc3, bc hP u3, xindexAt, vload, xslice, k1, k1b, k1n, k2, k2b, k2n, k3, k3b, k3n, hlen4, hc1, p3, p4, p5, p6, p7, p8, hc4, bc hP u4, bc (Priv.nil (eraseB D uv)) u4e]) ?_
        refine hN5 _ _ _ ?_
        rw [xc_block]
        refine xc_two fun N7 hN7 => ?_
        refine xc_reg1 4 rfl fun K hK => ?_
        simp only [show (List.range 4).map (·, true) = [(0, true), (1, true), (2, true), (3, true)] from rfl, rslv_cons, rslv_nil, List.getElem?_toArray, List.getElem?_cons_zero, List.getElem?_cons_succ, gres]
        iterate 4 (refine seqX_hide2 fun R hR => ?_; simp [go_sem, g4, g5, hlen3, p1, p2, hc3, bc hP u3, xindexAt, vload, xslice, k1, k1b, k1n, k2, k2b, k2n, k3, k3b, k3n, hlen4, hc1, p3, p4, p5, p6, p7, p8, hc4, bc hP u4, bc (Priv.nil (eraseB D uv)) u4e]; refine hR _ _ _ ?_; clear hR R)
        rw [seqX_nil]
        refine hK _ _ _ ?_; clear hK K
        refine hN7 _ _ _ ?_
        refine xc_two fun N8 hN8 => ?_
        refine xc_reg1 3 rfl fun K hK => ?_
        simp only [show (List.range 3).map (·, true) = [(0, true), (1, true), (2, true)] from rfl, rslv_cons, rslv_nil, List.getElem?_toArray, List.getElem?_cons_zero, List.getElem?_cons_succ, gres]
        iterate 3 (refine seqX_hide2 fun R hR => ?_; simp [go_sem, g4, g5, hlen3, p1, p2, hc3, bc hP u3, xindexAt, vload, xslice, k1, k1b, k1n, k2, k2b, k2n, k3, k3b, k3n, hlen4, hc1, p3, p4, p5, p6, p7, p8, hc4, bc hP u4, bc (Priv.nil (eraseB D uv)) u4e]; refine hR _ _ _ ?_; clear hR R)
        rw [seqX_nil]
        refine hK _ _ _ ?_; clear hK K
        refine hN8 _ _ _ ?_
        refine xc_two fun N9 hN9 => ?_
        refine xc_reg1 1 rfl fun K hK => ?_
        simp only [show (List.range 1).map (·, true) = [(0, true)] from rfl, rslv_cons, rslv_nil, List.getElem?_toArray, List.getElem?_cons_zero, List.getElem?_cons_succ, gres]
        (refine seqX_hide2 fun R hR => ?_; simp [go_sem, g4, g5, hlen3, p1, p2, hc3, bc hP u3, xindexAt, vload, xslice, k1, k1b, k1n, k2, k2b, k2n, k3, k3b, k3n, hlen4, hc1, p3, p4, p5, p6, p7, p8, hc4, bc hP u4, bc (Priv.nil (eraseB D uv)) u4e]; refine hR _ _ _ ?_; clear hR R)
        rw [seqX_nil]
        refine hK _ _ _ ?_; clear hK K
        refine hN9 _ _ _ ?_
        rw [xc_block]
        refine xc_two fun N10 hN10 => ?_
        refine xc_two fun N11 hN11 => ?_
        refine xc_reg1 2 rfl fun K hK => ?_
        simp only [show (List.range 2).map (·, true) = [(0, true), (1, true)] from rfl, rslv_cons, rslv_nil, List.getElem?_toArray, List.getElem?_cons_zero, List.getElem?_cons_succ, gres]
        iterate 2 (refine seqX_hide2 fun R hR => ?_; simp [go_sem, g4, g5, hlen3, p1, p2, hc3, bc hP u3, xindexAt, vload, xslice, k1, k1b, k1n, k2, k2b, k2n, k3, k3b, k3n, hlen4, hc1, p3, p4, p5, p6, p7, p8, hc4, bc hP u4, bc (Priv.nil (eraseB D uv)) u4e]; refine hR _ _ _ ?_; clear hR R)
        rw [seqX_nil]
        refine hK _ _ _ ?_; clear hK K
        refine hN11 _ _ _ ?_
        refine xc_iffalse (by simp [go_sem, g4, g5, hlen3, p1, p2, hc3, bc hP u3, xindexAt, vload, xslice, k1, k1b, k1n, k2, k2b, k2n, k3, k3b, k3n, hlen4, hc1, p3, p4, p5, p6, p7, p8, hc4, bc hP u4, bc (Priv.nil (eraseB D uv)) u4e]) ?_
        refine xc_reg1 2 rfl fun K hK => ?_
        simp only [show (List.range 2).map (·, true) = [(0, true), (1, true)] from rfl, rslv_cons, rslv_nil, List.getElem?_toArray, List.getElem?_cons_zero, List.getElem?_cons_succ, gres]
        iterate 2 (refine seqX_hide2 fun R hR => ?_; simp [go_sem, g4, g5, hlen3, p1, p2, hc3, bc hP u3, xindexAt, vload, xslice, k1, k1b, k1n, k2, k2b, k2n, k3, k3b, k3n, hlen4, hc1, p3, p4, p5, p6, p7, p8, hc4, bc hP u4, bc (Priv.nil (eraseB D uv)) u4e]; refine hR _ _ _ ?_; clear hR R)
        rw [seqX_nil]
        refine hK _ _ _ ?_; clear hK K
        refine hN10 _ _ _ ?_
        refine xc_iffalse (by simp [go_sem, g4, g5, hlen3, p1, p2, hc3, bc hP u3, xindexAt, vload, xslice, k1, k1b, k1n, k2, k2b, k2n, k3, k3b, k3n, hlen4, hc1, p3, p4, p5, p6, p7, p8, hc4, bc hP u4, bc (Priv.nil (eraseB D uv)) u4e]) ?_
        refine xc_two fun N12 hN12 => ?_
        refine xc_reg1 2 rfl fun K hK => ?_
        simp only [show (List.range 2).map (·, true) = [(0, true), (1, true)] from rfl, rslv_cons, rslv_nil, List.getElem?_toArray, List.getElem?_cons_zero, List.getElem?_cons_succ, gres]
        iterate 2 (refine seqX_hide2 fun R hR => ?_; simp [go_sem, g4, g5, hlen3, p1, p2, hc3, bc hP u3, xindexAt, vload, xslice, k1, k1b, k1n, k2, k2b, k2n, k3, k3b, k3n, hlen4, hc1, p3, p4, p5, p6, p7, p8, hc4, bc hP u4, bc (Priv.nil (eraseB D uv)) u4e]; refine hR _ _ _ ?_; clear hR R)
        rw [seqX_nil]
        refine hK _ _ _ ?_; clear hK K
        refine hN12 _ _ _ ?_
        refine xc_iffalse (by simp [go_sem, g4, g5, hlen3, p1, p2, hc3, bc hP u3, xindexAt, vload, xslice, k1, k1b, k1n, k2, k2b, k2n, k3, k3b, k3n, hlen4, hc1, p3, p4, p5, p6, p7, p8, hc4, bc hP u4, bc (Priv.nil (eraseB D uv)) u4e]) ?_
        refine xc_two fun N13 hN13 => ?_
        refine xc_reg1 2 rfl fun K hK => ?_
        simp only [show (List.range 2).map (·, true) = [(0, true), (1, true)] from rfl, rslv_cons, rslv_nil, List.getElem?_toArray, List.getElem?_cons_zero, List.getElem?_cons_succ, gres]
        iterate 2 (refine seqX_hide2 fun R hR => ?_; simp [go_sem, g4, g5, hlen3, p1, p2, hc3, bc hP u3, xindexAt, vload, xslice, k1, k1b, k1n, k2, k2b, k2n, k3, k3b, k3n, hlen4, hc1, p3, p4, p5, p6, p7, p8, hc4, bc hP u4, bc (Priv.nil (eraseB D uv)) u4e]; refine hR _ _ _ ?_; clear hR R)
        rw [seqX_nil]
        refine hK _ _ _ ?_; clear hK K
        refine hN13 _ _ _ ?_
        refine xc_iftrue (by simp [go_sem, g4, g5, hlen3, p1, p2, hc3, bc hP u3, xindexAt, vload, xslice, k1, k1b, k1n, k2, k2b, k2n, k3, k3b, k3n, hlen4, hc1, p3, p4, p5, p6, p7, p8, hc4, bc hP u4, bc (Priv.nil (eraseB D uv)) u4e]) ?_
        refine xc_two fun N14 hN14 => ?_
        refine xc_two fun N15 hN15 => ?_
        refine xc_reg1 3 rfl fun K hK => ?_
        simp only [show (List.range 3).map (·, true) = [(0, true), (1, true), (2, true)] from rfl, rslv_cons, rslv_nil, List.getElem?_toArray, List.getElem?_cons_zero, List.getElem?_cons_succ, gres]
        iterate 3 (refine seqX_hide2 fun R hR => ?_; simp [go_sem, g4, g5, hlen3, p1, p2, hc3, bc hP u3, xindexAt, vload, xslice, k1, k1b, k1n, k2, k2b, k2n, k3, k3b, k3n, hlen4, hc1, p3, p4, p5, p6, p7, p8, hc4, bc hP u4, bc (Priv.nil (eraseB D uv)) u4e]; refine hR _ _ _ ?_; clear hR R)
        rw [seqX_nil]
        refine hK _ _ _ ?_; clear hK K
        refine hN15 _ _ _ ?_
        refine xc_iffalse (by simp [go_sem, g4, g5, hlen3, p1, p2, hc3, bc hP u3, xindexAt, vload, xslice, k1, k1b, k1n, k2, k2b, k2n, k3, k3b, k3n, hlen4, hc1, p3, p4, p5, p6, p7, p8, hc4, bc hP u4, bc (Priv.nil (eraseB D uv)) u4e]) ?_
        refine hN14 _ _ _ ?_
        rw [xc_draws]
        refine vdrawK [(0, true), (1, true), (2, true), (3, true), (4, true), (5, true), (6, false), (7, true), (8, true), (9, true), (10, true)] (ov (eraseB D uv) []) mixed (by kernel_rfl) (eraseB_le D uv) fun K hK => ?_
        simp only [rslv_cons, rslv_nil, List.getElem?_toArray, List.getElem?_cons_zero, List.getElem?_cons_succ, gres]
        iterate 5 (refine seqR_hide fun R hR => ?_; simp [go_sem, g4, g5, hlen3, p1, p2, hc3, bc hP u3, xindexAt, vload, xslice, k1, k1b, k1n, k2, k2b, k2n, k3, k3b, k3n, hlen4, hc1, p3, p4, p5, p6, p7, p8, hc4, bc hP u4, bc (Priv.nil (eraseB D uv)) u4e]; refine hR _ _ _ ?_; clear hR R)
        refine seqR_hide fun R hR => ?_
        simp [go_sem, g4, g5, hlen3, p1, p2, hc3, bc hP u3, xindexAt, vload, xslice, k1, k1b, k1n, k2, k2b, k2n, k3, k3b, k3n, hlen4, hc1, p3, p4, p5, p6, p7, p8, hc4, bc hP u4, bc (Priv.nil (eraseB D uv)) u4e]
        intro q60 hq60
        replace hP := hP.cons hq60
        clear hq60
        refine hR _ _ _ ?_; clear hR R
        refine seqR_hide fun R hR => ?_
        simp [go_sem, g4, g5, hlen3, p1, p2, hc3, bc hP u3, xindexAt, vload, xslice, k1, k1b, k1n, k2, k2b, k2n, k3, k3b, k3n, hlen4, hc1, p3, p4, p5, p6, p7, p8, hc4, bc hP u4, bc (Priv.nil (eraseB D uv)) u4e]
        refine app_item (x := .chr d) hP hO (eraseB_le D uv) (by simp [appended, go_sem]) rfl rfl (by omega) ?_
        clear hP
        rintro v4 D4 h4 hO4 h4e hP
        refine hR _ _ _ ?_; clear hR R
        iterate 4 (refine seqR_hide fun R hR => ?_; simp [go_sem, g4, g5, hlen3, p1, p2, hc3, xindexAt, vload, xslice, k1, k1b, k1n, k2, k2b, k2n, k3, k3b, k3n, hlen4, hc1, p3, p4, p5, p6, p7, p8, hc4, bc (Priv.nil (eraseB D uv)) u4e]; refine hR _ _ _ ?_; clear hR R)
        rw [seqR_nil]
        refine hK _ _ _ ?_; clear hK K
        refine sink_goal 0 hP rfl fun hPn lq60 nq60 => ?_
        clear hP; have hP := hPn; clear hPn
        simp only [List.eraseIdx_cons_zero, List.eraseIdx_cons_succ, addrs_cons, addrs_nil] at hP ⊢
        obtain ⟨g1, g2, g3, g4⟩ := hgo (x := .chr d) (View.le_refl _) h4e lq60 rfl hO4
        refine hJ1 ((r').length) _ _ _ (by omega) ⟨_, r', _, v4, its ++ [.chr d], _, rfl, rfl, rfl, hP, by simp [go_sem, g4, g5, hlen3, p1, p2, hc3, xindexAt, vload, xslice, k1, k1b, k1n, k2, k2b, k2n, k3, k3b, k3n, hlen4, hc1, p3, p4, p5, p6, p7, p8, hc4, bc (Priv.nil (eraseB D uv)) u4e], by simp [go_sem, g4, g5, hlen3, p1, p2, hc3, xindexAt, vload, xslice, k1, k1b, k1n, k2, k2b, k2n, k3, k3b, k3n, hlen4, hc1, p3, p4, p5, p6, p7, p8, hc4, bc (Priv.nil (eraseB D uv)) u4e], g1, g2, g3, hT2.le g4, by rw [hpat, Pm.pat_esc, map_map_app], by rw [List.length_append]; simp; omega⟩
    have k4b : ((c : Int) == 92) = false := beq_eq_false_iff_ne.2 (by omega)
    have k4n : ¬ (c : Int) = 92 := by omega
    refine xc_two fun N5 hN5 => ?_
    refine xc_two fun N6 hN6 => ?_
    refine xc_reg1 3 rfl fun K hK => ?_
    simp only [show (List.range 3).map (·, true) = [(0, true), (1, true), (2, true)] from rfl, rslv_cons, rslv_nil, List.getElem?_toArray, List.getElem?_cons_zero, List.getElem?_cons_succ, gres]
    iterate 3 (refine seqX_hide2 fun R hR => ?_; simp [go_sem, g4, g5, hlen3, p1, p2, hc3, bc hP u3, xindexAt, vload, xslice, k1, k1b, k1n, k2, k2b, k2n, k3, k3b, k3n, k4, k4b, k4n]; refine hR _ _ _ ?_; clear hR R)
    rw [seqX_nil]
    refine hK _ _ _ ?_; clear hK K
    refine hN6 _ _ _ ?_
    refine xc_iftrue (by simp [go_sem, g4, g5, hlen3, p1, p2, hc3, bc hP u3, xindexAt, vload, xslice, k1, k1b, k1n, k2, k2b, k2n, k3, k3b, k3n, k4, k4b, k4n]) ?_
    refine hN5 _ _ _ ?_
    rw [xc_block]
    refine xc_two fun N7 hN7 => ?_
    refine xc_reg1 4 rfl fun K hK => ?_
    simp only [show (List.range 4).map (·, true) = [(0, true), (1, true), (2, true), (3, true)] from rfl, rslv_cons, rslv_nil, List.getElem?_toArray, List.getElem?_cons_zero, List.getElem?_cons_succ, gres]
    iterate 4 (refine seqX_hide2 fun R hR => ?_; simp [go_sem, g4, g5, hlen3, p1, p2, hc3, bc hP u3, xindexAt, vload, xslice, k1, k1b, k1n, k2, k2b, k2n, k3, k3b, k3n, k4, k4b, k4n]; refine hR _ _ _ ?_; clear hR R)
    rw [seqX_nil]
    refine hK _ _ _ ?_; clear hK K
    refine hN7 _ _ _ ?_
    refine xc_two fun N8 hN8 => ?_
    refine xc_reg1 3 rfl fun K hK => ?_
    simp only [show (List.range 3).map (·, true) = [(0, true), (1, true), (2, true)] from rfl, rslv_cons, rslv_nil, List.getElem?_toArray, List.getElem?_cons_zero, List.getElem?_cons_succ, gres]
    iterate 3 (refine seqX_hide2 fun R hR => ?_; simp [go_sem, g4, g5, hlen3, p1, p2, hc3, bc hP u3, xindexAt, vload, xslice, k1, k1b, k1n, k2, k2b, k2n, k3, k3b, k3n, k4, k4b, k4n]; refine hR _ _ _ ?_; clear hR R)
    rw [seqX_nil]
    refine hK _ _ _ ?_; clear hK K
    refine hN8 _ _ _ ?_
    refine xc_two fun N9 hN9 => ?_
    refine xc_reg1 1 rfl fun K hK => ?_
    simp only [show (List.range 1).map (·, true) = [(0, true)] from rfl, rslv_cons, rslv_nil, List.getElem?_toArray, List.getElem?_cons_zero, List.getElem?_cons_succ, gres]
    (refine seqX_hide2 fun R hR => ?_; simp [go_sem, g4, g5, hlen3, p1, p2, hc3, bc hP u3, xindexAt, vload, xslice, k1, k1b, k1n, k2, k2b, k2n, k3, k3b, k3n, k4, k4b, k4n]; refine hR _ _ _ ?_; clear hR R)
    rw [seqX_nil]
    refine hK _ _ _ ?_; clear hK K
    refine hN9 _ _ _ ?_
    rw [xc_block]
    refine xc_two fun N10 hN10 => ?_
    refine xc_two fun N11 hN11 => ?_
    refine xc_reg1 2 rfl fun K hK => ?_
    simp only [show (List.range 2).map (·, true) = [(0, true), (1, true)] from rfl, rslv_cons, rslv_nil, List.getElem?_toArray, List.getElem?_cons_zero, List.getElem?_cons_succ, gres]
    iterate 2 (refine seqX_hide2 fun R hR => ?_; simp [go_sem, g4, g5, hlen3, p1, p2, hc3, bc hP u3, xindexAt, vload, xslice, k1, k1b, k1n, k2, k2b, k2n, k3, k3b, k3n, k4, k4b, k4n]; refine hR _ _ _ ?_; clear hR R)
    rw [seqX_nil]
    refine hK _ _ _ ?_; clear hK K
    refine hN11 _ _ _ ?_
    refine xc_iffalse (by simp [go_sem, g4, g5, hlen3, p1, p2, hc3, bc hP u3, xindexAt, vload, xslice, k1, k1b, k1n, k2, k2b, k2n, k3, k3b, k3n, k4, k4b, k4n]) ?_
    refine xc_reg1 2 rfl fun K hK => ?_
    simp only [show (List.range 2).map (·, true) = [(0, true), (1, true)] from rfl, rslv_cons, rslv_nil, List.getElem?_toArray, List.getElem?_cons_zero, List.getElem?_cons_succ, gres]
    iterate 2 (refine seqX_hide2 fun R hR => ?_; simp [go_sem, g4, g5, hlen3, p1, p2, hc3, bc hP u3, xindexAt, vload, xslice, k1, k1b, k1n, k2, k2b, k2n, k3, k3b, k3n, k4, k4b, k4n]; refine hR _ _ _ ?_; clear hR R)
    rw [seqX_nil]
    refine hK _ _ _ ?_; clear hK K
    refine hN10 _ _ _ ?_
    refine xc_iffalse (by simp [go_sem, g4, g5, hlen3, p1, p2, hc3, bc hP u3, xindexAt, vload, xslice, k1, k1b, k1n, k2, k2b, k2n, k3, k3b, k3n, k4, k4b, k4n]) ?_
    refine xc_two fun N12 hN12 => ?_
    refine xc_reg1 2 rfl fun K hK => ?_
    simp only [show (List.range 2).map (·, true) = [(0, true), (1, true)] from rfl, rslv_cons, rslv_nil, List.getElem?_toArray, List.getElem?_cons_zero, List.getElem?_cons_succ, gres]
    iterate 2 (refine seqX_hide2 fun R hR => ?_; simp [go_sem, g4, g5, hlen3, p1, p2, hc3, bc hP u3, xindexAt, vload, xslice, k1, k1b, k1n, k2, k2b, k2n, k3, k3b, k3n, k4, k4b, k4n]; refine hR _ _ _ ?_; clear hR R)
    rw [seqX_nil]
    refine hK _ _ _ ?_; clear hK K
    refine hN12 _ _ _ ?_
    refine xc_iffalse (by simp [go_sem, g4, g5, hlen3, p1, p2, hc3, bc hP u3, xindexAt, vload, xslice, k1, k1b, k1n, k2, k2b, k2n, k3, k3b, k3n, k4, k4b, k4n]) ?_
    refine xc_two fun N13 hN13 => ?_
    refine xc_reg1 2 rfl fun K hK => ?_
    simp only [show (List.range 2).map (·, true) = [(0, true), (1, true)] from rfl, rslv_cons, rslv_nil, List.getElem?_toArray, List.getElem?_cons_zero, List.getElem?_cons_succ, gres]
    iterate 2 (refine seqX_hide2 fun R hR => ?_; simp [go_sem, g4, g5, hlen3, p1, p2, hc3, bc hP u3, xindexAt, vload, xslice, k1, k1b, k1n, k2, k2b, k2n, k3, k3b, k3n, k4, k4b, k4n]; refine hR _ _ _ ?_; clear hR R)
    rw [seqX_nil]
    refine hK _ _ _ ?_; clear hK K
    refine hN13 _ _ _ ?_
    refine xc_iffalse (by simp [go_sem, g4, g5, hlen3, p1, p2, hc3, bc hP u3, xindexAt, vload, xslice, k1, k1b, k1n, k2, k2b, k2n, k3, k3b, k3n, k4, k4b, k4n]) ?_
    refine xc_reg1 6 rfl fun K hK => ?_
    simp only [show (List.range 6).map (·, true) = [(0, true), (1, true), (2, true), (3, true), (4, true), (5, true)] from rfl, rslv_cons, rslv_nil, List.getElem?_toArray, List.getElem?_cons_zero, List.getElem?_cons_succ, gres]
    iterate 3 (refine seqX_hide2 fun R hR => ?_; simp [go_sem, g4, g5, hlen3, p1, p2, hc3, bc hP u3, xindexAt, vload, xslice, k1, k1b, k1n, k2, k2b, k2n, k3, k3b, k3n, k4, k4b, k4n]; refine hR _ _ _ ?_; clear hR R)
    refine seqX_hide2 fun R hR => ?_
    simp [go_sem, g4, g5, hlen3, p1, p2, hc3, bc hP u3, xindexAt, vload, xslice, k1, k1b, k1n, k2, k2b, k2n, k3, k3b, k3n, k4, k4b, k4n]
    intro q24 hq24
    replace hP := hP.cons hq24
    clear hq24
    refine hR _ _ _ ?_; clear hR R
    refine seqX_hide2 fun R hR => ?_
    simp [go_sem, g4, g5, hlen3, p1, p2, hc3, bc hP u3, xindexAt, vload, xslice, k1, k1b, k1n, k2, k2b, k2n, k3, k3b, k3n, k4, k4b, k4n]
    refine app_item (x := .chr c) hP hO (eraseB_le D uv) (by simp [appended, go_sem]) rfl rfl (by omega) ?_
    clear hP
    rintro v4 D4 h4 hO4 h4e hP
    refine hR _ _ _ ?_; clear hR R
    (refine seqX_hide2 fun R hR => ?_; simp [go_sem, g4, g5, hlen3, p1, p2, hc3, xindexAt, vload, xslice, k1, k1b, k1n, k2, k2b, k2n, k3, k3b, k3n, k4, k4b, k4n]; refine hR _ _ _ ?_; clear hR R)
    rw [seqX_nil]
    refine hK _ _ _ ?_; clear hK K
    refine sink_goal 0 hP rfl fun hPn lq24 nq24 => ?_
    clear hP; have hP := hPn; clear hPn
    simp only [List.eraseIdx_cons_zero, List.eraseIdx_cons_succ, addrs_cons, addrs_nil] at hP ⊢
    obtain ⟨g1, g2, g3, g4⟩ := hgo (x := .chr c) (View.le_refl _) h4e lq24 (rfl) hO4
    refine hJ1 ((r).length) _ _ _ (by omega) ⟨_, r, _, v4, its ++ [.chr c], _, rfl, rfl, rfl, hP, by simp [go_sem, g4, g5, hlen3, p1, p2, hc3, xindexAt, vload, xslice, k1, k1b, k1n, k2, k2b, k2n, k3, k3b, k3n, k4, k4b, k4n], by simp [go_sem, g4, g5, hlen3, p1, p2, hc3, xindexAt, vload, xslice, k1, k1b, k1n, k2, k2b, k2n, k3, k3b, k3n, k4, k4b, k4n], g1, g2, g3, (hT.le g4), by rw [hpat, Pm.pat_chr _ (fun h => k1 h.1) k2 k3 k4, map_map_app], by rw [List.length_append]; simp; omega⟩
end Go.Proofs.YthjbgpmcfcijgaaDoorV

/- Shell patterns: zzMatch, ZzMatch, impl.PathMatches. -/
import Derived.Test.YthjbgpmcfcijgaaDoorPI
namespace Go.Proofs.YthjbgpmcfcijgaaDoorV
open Go.RowKit
open Pm (nb nb_len nb_get nb_drop nb_nil nb_cons nb_extract extract_size' pat out Pc GL mcI)
set_option linter.unusedSimpArgs false
set_option linter.unusedVariables false
def MtR (res : Option Bool) (r : Value) : Prop := match res with
  | none => ∃ i y, r = .tuple #[.bool false, .iface i y]
  | some b => r = .tuple #[.bool b, .nilIface]
def Told (p s : List Nat) (r : Value) : Prop := ∃ res, GL p s res ∧ MtR res r
theorem Pc_mem {p c r : List Nat} {n : Nat} (h : Pc p n c r) : (∀ x ∈ c, x ∈ p) ∧ ∀ x ∈ r, x ∈ p := by
  obtain ⟨p', rfl, hs⟩ := h.e
  have := Pm.scan_append p' false
  rw [hs] at this
  simp only at this
  rw [← this]
  exact ⟨fun x hx => by simp [hx], fun x hx => by simp [hx]⟩
/-- A piece stands nowhere up to a place. -/
def Nowhere (a : List Pm.It) (r s : List Nat) (i : Nat) : Prop := ∀ k, k ≤ i → mcI a (s.drop k) = none ∨ (r = [] ∧ ∃ t, mcI a (s.drop k) = some t ∧ t ≠ [])
theorem Nowhere.push {a : List Pm.It} {r s : List Nat} {i : Nat} (h : Nowhere a r s i) (h1 : mcI a (s.drop (i + 1)) = none ∨ (r = [] ∧ ∃ t, mcI a (s.drop (i + 1)) = some t ∧ t ≠ [])) : Nowhere a r s (i + 1) := fun k hk => by
  rcases Nat.lt_or_eq_of_le hk with h2 | h2
  · exact h k (by omega)
  · subst h2; exact h1
theorem GL_fail {p s c r : List Nat} {n i : Nat} {a : List Pm.It} (h : Pc p n c r) (hc : pat false c = some a) (hn : Nowhere a r s i) (hi : i = s.length ∨ s[i]? = some 47 ∨ n = 0) : GL p s (some false) := by
  refine GL.fail h hc fun u v e hu hn0 => ?_
  have hul : u.length ≤ i := by
    rcases hi with hi | hi | hi
    · subst hi; rw [e, List.length_append]; omega
    · by_cases hx : u.length ≤ i
      · exact hx
      · exfalso
        rw [e, List.getElem?_append_left (by omega)] at hi
        exact hu (List.mem_of_getElem? hi)
    · rw [hn0 hi]; exact Nat.zero_le _
  have hv : s.drop u.length = v := by rw [e, List.drop_left]
  have := hn u.length hul
  rw [hv] at this
  exact this
theorem GL_star {p s c r t : List Nat} {n i : Nat} {a : List Pm.It} {res : Option Bool} (h : Pc p (n + 1) c r) (hc : pat false c = some a) (hns : 47 ∉ s.take i) (hi : i ≤ s.length) (hn : ∀ k, k < i → mcI a (s.drop k) = none ∨ (r = [] ∧ ∃ t, mcI a (s.drop k) = some t ∧ t ≠ [])) (hm : mcI a (s.drop i) = some t) (ht : r = [] → t = []) (hg : GL r t res) : GL p s res := by
  have e : s = s.take i ++ s.drop i := (List.take_append_drop i s).symm
  rw [e]
  refine GL.star h hc hns hm ht (fun u' w hu hw => ?_) hg
  have hl : (s.take i).length = i := by rw [List.length_take]; omega
  have hul : u'.length < i := by
    have h1 : (s.take i).length = u'.length + w.length := by rw [hu, List.length_append]
    have h2 := List.length_pos_iff.2 hw
    omega
  have hd : w ++ s.drop i = s.drop u'.length := by
    conv => rhs; rw [e, hu]
    rw [List.append_assoc, List.drop_left]
  rw [hd]
  exact hn u'.length hul
set_option maxRecDepth 20000 in
set_option maxHeartbeats 8000000 in
theorem match28 (A : View) (p0 s0 : ByteArray) (hs1 : p0.size ≤ 1000000) (hs2 : s0.size ≤ 1000000) (ha1 : Asc p0) (ha2 : Asc s0) : VCalls Tryd.prog 28 #[.string p0, .string s0] A fun r A' => Told (nb p0) (nb s0) r ∧ A ≤ A' := by
  refine xcalls Tryd.func28 rfl (by simp [Tryd.ntmps28]) ?_
  simp only [Tryd.f28]
  have hP : Priv A (addrs []) := Priv.nil A
  show xc _ _ _ _ _ _ (ov A [])
  refine xc_two fun N1 hN1 => ?_
  refine xc_reg1 2 rfl fun K hK => ?_
  simp only [show (List.range 2).map (·, true) = [(0, true), (1, true)] from rfl, rslv_cons, rslv_nil, List.getElem?_toArray, List.getElem?_cons_zero, List.getElem?_cons_succ, gres]
  iterate 2 (refine seqX_hide2 fun R hR => ?_; simp [go_sem]; refine hR _ _ _ ?_; clear hR R)
  rw [seqX_nil]
  refine hK _ _ _ ?_; clear hK K
  refine hN1 _ _ _ ?_
  refine xc_scope ?_
  refine xc_two fun N2 hN2 => ?_
  refine xc_label ?_
  refine hN2 _ _ _ ?_
  refine xc_two fun N3 hN3 => ?_
  rw [xc_block]
  rw [xc_loop]
  refine vloopK (fun k' e ds A' => ∃ (p : ByteArray) (s : ByteArray) (D : View), k' = p.size ∧ ds = [] ∧ A' = ov D [] ∧ Priv D [] ∧ e 0 = .string p ∧ e 1 = .string s ∧ (A ≤ D) ∧ (p.size ≤ 1000000) ∧ (s.size ≤ 1000000) ∧ (Asc p) ∧ (Asc s) ∧ (∀ res, GL (nb p) (nb s) res → GL (nb p0) (nb s0) res)) _ ⟨p0, s0, A, rfl, rfl, rfl, hP, by simp [go_sem], by simp [go_sem], View.le_refl _, hs1, hs2, ha1, ha2, fun _ h => h⟩ ?_
  clear hP
  rintro k' e ds A' ⟨p, s, D, rfl, rfl, hV, hP, g0, g1, hAD, hps, hss, hap, has, hg⟩ J1 X1 hJ1 hX1
  refine xc_sound _ ?_
  replace hV := Eq.symm hV; subst hV; replace hP : Priv D (addrs []) := hP
  by_cases h0 : 0 < p.size
  rotate_left
  · have hz : p.size = 0 := by omega
    have hz0 : ¬ (0 : Int) < p.size := by omega
    have hn : nb p = [] := nb_nil.2 hz
    refine xc_two fun N4 hN4 => ?_
    refine xc_two fun N5 hN5 => ?_
    refine xc_reg1 3 rfl fun K hK => ?_
    simp only [show (List.range 3).map (·, true) = [(0, true), (1, true), (2, true)] from rfl, rslv_cons, rslv_nil, List.getElem?_toArray, List.getElem?_cons_zero, List.getElem?_cons_succ, gres]
    iterate 3 (refine seqX_hide2 fun R hR => ?_; simp [go_sem, g0, g1, hz, h0, hz0]; refine hR _ _ _ ?_; clear hR R)
    rw [seqX_nil]
    refine hK _ _ _ ?_; clear hK K
    refine hN5 _ _ _ ?_
    refine xc_iffalse (by simp [go_sem, g0, g1, hz, h0, hz0]) ?_
    refine hX1 _ _ _ _ ?_
    refine hN3 _ _ _ ?_
    refine xc_two fun N6 hN6 => ?_
    refine xc_reg1 5 rfl fun K hK => ?_
    simp only [show (List.range 5).map (·, true) = [(0, true), (1, true), (2, true), (3, true), (4, true)] from rfl, rslv_cons, rslv_nil, List.getElem?_toArray, List.getElem?_cons_zero, List.getElem?_cons_succ, gres]
    iterate 5 (refine seqX_hide2 fun R hR => ?_; simp [go_sem, g0, g1, hz, h0, hz0]; refine hR _ _ _ ?_; clear hR R)
    rw [seqX_nil]
    refine hK _ _ _ ?_; clear hK K
    refine hN6 _ _ _ ?_
    simp [go_sem, g0, g1, hz, h0, hz0, noG]
    refine ⟨⟨some (decide (nb s = [])), hg _ (by rw [hn]; exact GL.end), ?_⟩, hAD⟩
    have he : ((s.size : Int) == 0) = decide (nb s = []) := by
      by_cases h : s.size = 0
      · rw [nb_nil.2 h, h]; rfl
      · rw [decide_eq_false (fun hx => h (nb_nil.1 hx))]
        exact beq_eq_false_iff_ne.2 (by omega)
    show _ = _
    rw [he]
  · have hz0 : (0 : Int) < p.size := by omega
    refine xc_two fun N4 hN4 => ?_
    refine xc_two fun N5 hN5 => ?_
    refine xc_reg1 3 rfl fun K hK => ?_
    simp only [show (List.range 3).map (·, true) = [(0, true), (1, true), (2, true)] from rfl, rslv_cons, rslv_nil, List.getElem?_toArray, List.getElem?_cons_zero, List.getElem?_cons_succ, gres]
    iterate 3 (refine seqX_hide2 fun R hR => ?_; simp [go_sem, g0, g1, hz0, h0]; refine hR _ _ _ ?_; clear hR R)
    rw [seqX_nil]
    refine hK _ _ _ ?_; clear hK K
    refine hN5 _ _ _ ?_
    refine xc_iftrue (by simp [go_sem, g0, g1, hz0, h0]) ?_
    refine hN4 _ _ _ ?_
    rw [xc_block]
    refine xc_two fun N6 hN6 => ?_
    refine xc_reg1 1 rfl fun K hK => ?_
    simp only [show (List.range 1).map (·, true) = [(0, true)] from rfl, rslv_cons, rslv_nil, List.getElem?_toArray, List.getElem?_cons_zero, List.getElem?_cons_succ, gres]
    (refine seqX_hide2 fun R hR => ?_; simp [go_sem, g0, g1, hz0, h0]; refine hR _ _ _ ?_; clear hR R)
    rw [seqX_nil]
    refine hK _ _ _ ?_; clear hK K
    refine hN6 _ _ _ ?_
    refine xc_two fun N7 hN7 => ?_
    refine xc_reg1 1 rfl fun K hK => ?_
    simp only [show (List.range 1).map (·, true) = [(0, true)] from rfl, rslv_cons, rslv_nil, List.getElem?_toArray, List.getElem?_cons_zero, List.getElem?_cons_succ, gres]
    (refine seqX_hide2 fun R hR => ?_; simp [go_sem, g0, g1, hz0, h0]; refine hR _ _ _ ?_; clear hR R)
    rw [seqX_nil]
    refine hK _ _ _ ?_; clear hK K
    refine hN7 _ _ _ ?_
    refine xc_two fun N8 hN8 => ?_
    refine xc_reg1 9 rfl fun K hK => ?_
    simp only [show (List.range 9).map (·, true) = [(0, true), (1, true), (2, true), (3, true), (4, true), (5, true), (6, true), (7, true), (8, true)] from rfl, rslv_cons, rslv_nil, List.getElem?_toArray, List.getElem?_cons_zero, List.getElem?_cons_succ, gres]
    (refine seqX_hide2 fun R hR => ?_; simp [go_sem, g0, g1, hz0, h0]; refine hR _ _ _ ?_; clear hR R)
    refine seqX_hide2 fun R hR => ?_
    simp [go_sem, g0, g1, hz0, h0]
    refine call_same hP (scan41 D p (by omega)) ?_
    rintro _ ⟨n, c, q, rfl, hPc, hcs, hqs, hprog, hsum, hstc⟩
    have hqp : q.size < p.size := by omega
    have hac : Asc c := fun x hx => hap x ((Pc_mem hPc).1 x hx)
    have haq : Asc q := fun x hx => hap x ((Pc_mem hPc).2 x hx)
    by_cases hst : 0 < n ∧ c.size = 0
    · obtain ⟨hn, hc0⟩ := hst
      obtain ⟨m, rfl⟩ : ∃ m, n = m + 1 := ⟨n - 1, by omega⟩
      have hce := isEmpty_zero hc0
      have hnd : decide (0 < m + 1) = true := by simp
      refine hR _ _ _ ?_; clear hR R
      iterate 7 (refine seqX_hide2 fun R hR => ?_; simp [go_sem, g0, g1, hz0, h0, hce, hnd]; refine hR _ _ _ ?_; clear hR R)
      rw [seqX_nil]
      refine hK _ _ _ ?_; clear hK K
      refine hN8 _ _ _ ?_
      refine xc_two fun N9 hN9 => ?_
      refine xc_two fun N10 hN10 => ?_
      refine xc_reg1 5 rfl fun K hK => ?_
      simp only [show (List.range 5).map (·, true) = [(0, true), (1, true), (2, true), (3, true), (4, true)] from rfl, rslv_cons, rslv_nil, List.getElem?_toArray, List.getElem?_cons_zero, List.getElem?_cons_succ, gres]
      iterate 5 (refine seqX_hide2 fun R hR => ?_; simp [go_sem, g0, g1, hz0, h0, hce, hnd]; refine hR _ _ _ ?_; clear hR R)
      rw [seqX_nil]
      refine hK _ _ _ ?_; clear hK K
      refine hN10 _ _ _ ?_
      refine xc_iftrue (by simp [go_sem, g0, g1, hz0, h0, hce, hnd]) ?_
      refine xc_two fun N11 hN11 => ?_
      refine xc_reg1 5 rfl fun K hK => ?_
      simp only [show (List.range 5).map (·, true) = [(0, true), (1, true), (2, true), (3, true), (4, true)] from rfl, rslv_cons, rslv_nil, List.getElem?_toArray, List.getElem?_cons_zero, List.getElem?_cons_succ, gres]
      (refine seqX_hide2 fun R hR => ?_; simp [go_sem, g0, g1, hz0, h0, hce, hnd]; refine hR _ _ _ ?_; clear hR R)
      refine seqX_hide2 fun R hR => ?_
      simp [go_sem, g0, g1, hz0, h0, hce, hnd]
      refine call_same hP (index42 D s hss) ?_
      rintro _ ⟨k, rfl, hk⟩
      refine hR _ _ _ ?_; clear hR R
      iterate 3 (refine seqX_hide2 fun R hR => ?_; simp [go_sem, g0, g1, hz0, h0, hce, hnd]; refine hR _ _ _ ?_; clear hR R)
      rw [seqX_nil]
      refine hK _ _ _ ?_; clear hK K
      refine hN11 _ _ _ ?_
      refine hX1 _ _ _ _ ?_
      simp [go_sem, g0, g1, hz0, h0, hce, hnd, noG]
      refine ⟨⟨some (decide (47 ∉ nb s)), hg _ (GL.stars (hPc.1 |> fun h => ⟨by rw [nb_nil.2 hc0] at h; exact h⟩) (nb_nil.2 (hstc hn hc0))), ?_⟩, hAD⟩
      show _ = _
      rw [show decide (47 ∉ nb s) = decide (k < 0) from decide_eq_decide.2 hk.symm]
    · have hz31 : n = 0 ∨ 0 < c.size := by omega
      refine hR _ _ _ ?_; clear hR R
      iterate 7 (refine seqX_hide2 fun R hR => ?_; simp [go_sem, g0, g1, hz0, h0]; refine hR _ _ _ ?_; clear hR R)
      rw [seqX_nil]
      refine hK _ _ _ ?_; clear hK K
      refine hN8 _ _ _ ?_
      refine xc_two fun N9 hN9 => ?_
      refine xc_two fun N10 hN10 => ?_
      have go : ∀  (e : Env), Priv D [] → e 0 = .string q → e 1 = .string s → e 6 = .bool (decide (0 < n)) → e 7 = .string c → N9 e [] (ov D []) := by
        clear g0 g1
        clear hP
        intro e hP g0 g1 g6 g7
        refine hN9 _ _ _ ?_
        refine xc_two fun N11 hN11 => ?_
        refine xc_reg1 10 rfl fun K hK => ?_
        simp only [show (List.range 10).map (·, true) = [(0, true), (1, true), (2, true), (3, true), (4, true), (5, true), (6, true), (7, true), (8, true), (9, true)] from rfl, rslv_cons, rslv_nil, List.getElem?_toArray, List.getElem?_cons_zero, List.getElem?_cons_succ, gres]
        iterate 2 (refine seqX_hide2 fun R hR => ?_; simp [go_sem, hz0, h0, g0, g1, g6, g7]; refine hR _ _ _ ?_; clear hR R)
        refine seqX_hide2 fun R hR => ?_
        simp [go_sem, hz0, h0, g0, g1, g6, g7]
        refine call_ov hP (chunk43 D c s (by omega) hss hac has) ?_
        clear hP
        rintro r D1 ⟨hM, hD1⟩ hP
        -- no match at the beginning: what is to be shown there
        have hAD1 := View.le_trans hAD hD1
        cases ho : out false (nb c) (nb s) with
        | none =>
          rw [ho] at hM
          obtain ⟨i, y, rfl⟩ := hM
          refine hR _ _ _ ?_; clear hR R
          iterate 7 (refine seqX_hide2 fun R hR => ?_; simp [go_sem, hz0, h0, g0, g1, g6, g7]; refine hR _ _ _ ?_; clear hR R)
          rw [seqX_nil]
          refine hK _ _ _ ?_; clear hK K
          refine hN11 _ _ _ ?_
          refine xc_two fun N12 hN12 => ?_
          refine xc_two fun N13 hN13 => ?_
          refine xc_reg1 11 rfl fun K hK => ?_
          simp only [show (List.range 11).map (·, true) = [(0, true), (1, true), (2, true), (3, true), (4, true), (5, true), (6, true), (7, true), (8, true), (9, true), (10, true)] from rfl, rslv_cons, rslv_nil, List.getElem?_toArray, List.getElem?_cons_zero, List.getElem?_cons_succ, gres]
          iterate 11 (refine seqX_hide2 fun R hR => ?_; simp [go_sem, hz0, h0, g0, g1, g6, g7]; refine hR _ _ _ ?_; clear hR R)
          rw [seqX_nil]
          refine hK _ _ _ ?_; clear hK K
          refine hN13 _ _ _ ?_
          refine xc_iffalse (by simp [go_sem, hz0, h0, g0, g1, g6, g7]) ?_
          refine hN12 _ _ _ ?_
          refine xc_two fun N14 hN14 => ?_
          refine xc_two fun N15 hN15 => ?_
          refine xc_reg1 2 rfl fun K hK => ?_
          simp only [show (List.range 2).map (·, true) = [(0, true), (1, true)] from rfl, rslv_cons, rslv_nil, List.getElem?_toArray, List.getElem?_cons_zero, List.getElem?_cons_succ, gres]
          iterate 2 (refine seqX_hide2 fun R hR => ?_; simp [go_sem, hz0, h0, g0, g1, g6, g7]; refine hR _ _ _ ?_; clear hR R)
          rw [seqX_nil]
          refine hK _ _ _ ?_; clear hK K
          refine hN15 _ _ _ ?_
          refine xc_iftrue (by simp [go_sem, hz0, h0, g0, g1, g6, g7]) ?_
          refine xc_two fun N16 hN16 => ?_
          refine xc_reg1 3 rfl fun K hK => ?_
          simp only [show (List.range 3).map (·, true) = [(0, true), (1, true), (2, true)] from rfl, rslv_cons, rslv_nil, List.getElem?_toArray, List.getElem?_cons_zero, List.getElem?_cons_succ, gres]
          iterate 3 (refine seqX_hide2 fun R hR => ?_; simp [go_sem, hz0, h0, g0, g1, g6, g7]; refine hR _ _ _ ?_; clear hR R)
          rw [seqX_nil]
          refine hK _ _ _ ?_; clear hK K
          refine hN16 _ _ _ ?_
          refine hX1 _ _ _ _ ?_
          simp [go_sem, hz0, h0, g0, g1, g6, g7, noG]
          exact ⟨⟨none, hg _ (GL.err hPc (Pm.out_none ho)), _, _, rfl⟩, hAD1⟩
        | some o =>
          obtain ⟨a, hpa, hma⟩ := Pm.out_some ho
          rw [ho] at hM
          have hown : ∃ (t : ByteArray) (b : Bool), r = .tuple #[.string t, .bool b, .nilIface] ∧ ((b = false ∧ mcI a (nb s) = none) ∨ (b = true ∧ mcI a (nb s) = some (nb t))) := by
            cases o with
            | none => exact ⟨_, false, hM, .inl ⟨rfl, hma⟩⟩
            | some l =>
              obtain ⟨t, ht, e⟩ := hM
              exact ⟨t, true, ht, .inr ⟨rfl, by rw [hma, e]⟩⟩
          obtain ⟨t, b, rfl, hb⟩ := hown
          clear hM ho hma
          refine hR _ _ _ ?_; clear hR R
          iterate 7 (refine seqX_hide2 fun R hR => ?_; simp [go_sem, hz0, h0, g0, g1, g6, g7]; refine hR _ _ _ ?_; clear hR R)
          rw [seqX_nil]
          refine hK _ _ _ ?_; clear hK K
          refine hN11 _ _ _ ?_
          refine xc_two fun N12 hN12 => ?_
          refine xc_two fun N13 hN13 => ?_
          have st : ∀  (e : Env), Priv D1 [] → e 0 = .string q → e 1 = .string s → e 6 = .bool (decide (0 < n)) → e 7 = .string c → e 10 = .nilIface → (mcI a (nb s) = none ∨ (nb q = [] ∧ ∃ t, mcI a (nb s) = some t ∧ t ≠ [])) → N12 e [] (ov D1 []) := by
            clear g0 g1 g6 g7
            clear hP
            intro e hP g0 g1 g6 g7 g10 hno0
            refine hN12 _ _ _ ?_
            refine xc_two fun N14 hN14 => ?_
            refine xc_two fun N15 hN15 => ?_
            refine xc_reg1 2 rfl fun K hK => ?_
            simp only [show (List.range 2).map (·, true) = [(0, true), (1, true)] from rfl, rslv_cons, rslv_nil, List.getElem?_toArray, List.getElem?_cons_zero, List.getElem?_cons_succ, gres]
            iterate 2 (refine seqX_hide2 fun R hR => ?_; simp [go_sem, hz0, h0, g0, g1, g6, g7, g10]; refine hR _ _ _ ?_; clear hR R)
            rw [seqX_nil]
            refine hK _ _ _ ?_; clear hK K
            refine hN15 _ _ _ ?_
            refine xc_iffalse (by simp [go_sem, hz0, h0, g0, g1, g6, g7, g10]) ?_
            refine hN14 _ _ _ ?_
            refine xc_two fun N16 hN16 => ?_
            refine xc_two fun N17 hN17 => ?_
            refine xc_reg1 1 rfl fun K hK => ?_
            simp only [show (List.range 1).map (·, true) = [(0, true)] from rfl, rslv_cons, rslv_nil, List.getElem?_toArray, List.getElem?_cons_zero, List.getElem?_cons_succ, gres]
            (refine seqX_hide2 fun R hR => ?_; simp [go_sem, hz0, h0, g0, g1, g6, g7, g10]; refine hR _ _ _ ?_; clear hR R)
            rw [seqX_nil]
            refine hK _ _ _ ?_; clear hK K
            refine hN17 _ _ _ ?_
            have chk : ∀ (D2 : View) (e : Env), Priv D2 [] → e 0 = .string q → (A ≤ D2) → (GL (nb p) (nb s) (some false)) → N16 e [] (ov D2 []) := by
              clear g0 g1 g6 g7 g10
              clear hP
              intro D2 e hP g0 hAD2 hfail
              refine hN16 _ _ _ ?_
              refine xc_two fun N18 hN18 => ?_
              rw [xc_block]
              rw [xc_loop]
              refine vloopK (fun k' e ds A' => ∃ (q' : ByteArray) (D3 : View), k' = q'.size ∧ ds = [] ∧ A' = ov D3 [] ∧ Priv D3 [] ∧ e 0 = .string q' ∧ (A ≤ D3) ∧ (q'.size ≤ 1000000) ∧ (Asc q') ∧ (pat true (nb q') = none → pat true (nb p) = none)) _ ⟨q, D2, rfl, rfl, rfl, hP, by simp [go_sem, hz0, h0, g0], hAD2, by omega, haq, fun h => hPc.bad h⟩ ?_
              clear g0
              clear hP
              rintro k' e ds A' ⟨q', D3, rfl, rfl, hV, hP, g0, hAD3, hq's, haq', hbad⟩ J2 X2 hJ2 hX2
              refine xc_sound _ ?_
              replace hV := Eq.symm hV; subst hV; replace hP : Priv D3 (addrs []) := hP
              by_cases hq0 : 0 < q'.size
              rotate_left
              · have hq00 : ¬ (0 : Int) < q'.size := by omega
                refine xc_two fun N19 hN19 => ?_
                refine xc_two fun N20 hN20 => ?_
                refine xc_reg1 3 rfl fun K hK => ?_
                simp only [show (List.range 3).map (·, true) = [(0, true), (1, true), (2, true)] from rfl, rslv_cons, rslv_nil, List.getElem?_toArray, List.getElem?_cons_zero, List.getElem?_cons_succ, gres]
                iterate 3 (refine seqX_hide2 fun R hR => ?_; simp [go_sem, hz0, h0, g0, hq0, hq00]; refine hR _ _ _ ?_; clear hR R)
                rw [seqX_nil]
                refine hK _ _ _ ?_; clear hK K
                refine hN20 _ _ _ ?_
                refine xc_iffalse (by simp [go_sem, hz0, h0, g0, hq0, hq00]) ?_
                refine hX2 _ _ _ _ ?_
                refine hN18 _ _ _ ?_
                refine xc_two fun N21 hN21 => ?_
                refine xc_reg1 2 rfl fun K hK => ?_
                simp only [show (List.range 2).map (·, true) = [(0, true), (1, true)] from rfl, rslv_cons, rslv_nil, List.getElem?_toArray, List.getElem?_cons_zero, List.getElem?_cons_succ, gres]
                iterate 2 (refine seqX_hide2 fun R hR => ?_; simp [go_sem, hz0, h0, g0, hq0, hq00]; refine hR _ _ _ ?_; clear hR R)
                rw [seqX_nil]
                refine hK _ _ _ ?_; clear hK K
                refine hN21 _ _ _ ?_
                refine hX1 _ _ _ _ ?_
                simp [go_sem, hz0, h0, g0, hq0, hq00, noG]
                exact ⟨⟨some false, hg _ hfail, rfl⟩, hAD3⟩
              have hq00 : (0 : Int) < q'.size := by omega
              refine xc_two fun N19 hN19 => ?_
              refine xc_two fun N20 hN20 => ?_
              refine xc_reg1 3 rfl fun K hK => ?_
              simp only [show (List.range 3).map (·, true) = [(0, true), (1, true), (2, true)] from rfl, rslv_cons, rslv_nil, List.getElem?_toArray, List.getElem?_cons_zero, List.getElem?_cons_succ, gres]
              iterate 3 (refine seqX_hide2 fun R hR => ?_; simp [go_sem, hz0, h0, g0, hq0, hq00]; refine hR _ _ _ ?_; clear hR R)
              rw [seqX_nil]
              refine hK _ _ _ ?_; clear hK K
              refine hN20 _ _ _ ?_
              refine xc_iftrue (by simp [go_sem, hz0, h0, g0, hq0, hq00]) ?_
              refine hN19 _ _ _ ?_
              rw [xc_block]
              refine xc_two fun N21 hN21 => ?_
              refine xc_reg1 8 rfl fun K hK => ?_
              simp only [show (List.range 8).map (·, true) = [(0, true), (1, true), (2, true), (3, true), (4, true), (5, true), (6, true), (7, true)] from rfl, rslv_cons, rslv_nil, List.getElem?_toArray, List.getElem?_cons_zero, List.getElem?_cons_succ, gres]
              (refine seqX_hide2 fun R hR => ?_; simp [go_sem, hz0, h0, g0, hq0, hq00]; refine hR _ _ _ ?_; clear hR R)
              refine seqX_hide2 fun R hR => ?_
              simp [go_sem, hz0, h0, g0, hq0, hq00]
              refine call_same hP (scan41 D3 q' (by omega)) ?_
              rintro _ ⟨n', c', r', rfl, hPc', hcs', hqs', hprog', hsum', _⟩
              have hac' : Asc c' := fun x hx => haq' x ((Pc_mem hPc').1 x hx)
              have har' : Asc r' := fun x hx => haq' x ((Pc_mem hPc').2 x hx)
              refine hR _ _ _ ?_; clear hR R
              iterate 6 (refine seqX_hide2 fun R hR => ?_; simp [go_sem, hz0, h0, g0, hq0, hq00]; refine hR _ _ _ ?_; clear hR R)
              rw [seqX_nil]
              refine hK _ _ _ ?_; clear hK K
              refine hN21 _ _ _ ?_
              refine xc_two fun N22 hN22 => ?_
              refine xc_reg1 9 rfl fun K hK => ?_
              simp only [show (List.range 9).map (·, true) = [(0, true), (1, true), (2, true), (3, true), (4, true), (5, true), (6, true), (7, true), (8, true)] from rfl, rslv_cons, rslv_nil, List.getElem?_toArray, List.getElem?_cons_zero, List.getElem?_cons_succ, gres]
              (refine seqX_hide2 fun R hR => ?_; simp [go_sem, hz0, h0, g0, hq0, hq00]; refine hR _ _ _ ?_; clear hR R)
              refine seqX_hide2 fun R hR => ?_
              simp [go_sem, hz0, h0, g0, hq0, hq00]
              refine call_ov hP (chunk43 D3 c' ⟨#[]⟩ (by omega) (Nat.zero_le _) hac' (fun x hx => by cases hx)) ?_
              clear hP
              rintro r2 D4 ⟨hM, hD4⟩ hP
              cases ho : out false (nb c') (nb ⟨#[]⟩) with
              | none =>
                rw [ho] at hM
                obtain ⟨i, y, rfl⟩ := hM
                refine hR _ _ _ ?_; clear hR R
                iterate 7 (refine seqX_hide2 fun R hR => ?_; simp [go_sem, hz0, h0, g0, hq0, hq00]; refine hR _ _ _ ?_; clear hR R)
                rw [seqX_nil]
                refine hK _ _ _ ?_; clear hK K
                refine hN22 _ _ _ ?_
                refine xc_two fun N23 hN23 => ?_
                refine xc_reg1 2 rfl fun K hK => ?_
                simp only [show (List.range 2).map (·, true) = [(0, true), (1, true)] from rfl, rslv_cons, rslv_nil, List.getElem?_toArray, List.getElem?_cons_zero, List.getElem?_cons_succ, gres]
                iterate 2 (refine seqX_hide2 fun R hR => ?_; simp [go_sem, hz0, h0, g0, hq0, hq00]; refine hR _ _ _ ?_; clear hR R)
                rw [seqX_nil]
                refine hK _ _ _ ?_; clear hK K
                refine hN23 _ _ _ ?_
                refine xc_iftrue (by simp [go_sem, hz0, h0, g0, hq0, hq00]) ?_
                refine xc_two fun N24 hN24 => ?_
                refine xc_reg1 3 rfl fun K hK => ?_
                simp only [show (List.range 3).map (·, true) = [(0, true), (1, true), (2, true)] from rfl, rslv_cons, rslv_nil, List.getElem?_toArray, List.getElem?_cons_zero, List.getElem?_cons_succ, gres]
                iterate 3 (refine seqX_hide2 fun R hR => ?_; simp [go_sem, hz0, h0, g0, hq0, hq00]; refine hR _ _ _ ?_; clear hR R)
                rw [seqX_nil]
                refine hK _ _ _ ?_; clear hK K
                refine hN24 _ _ _ ?_
                refine hX2 _ _ _ _ ?_
                refine hX1 _ _ _ _ ?_
                simp [go_sem, hz0, h0, g0, hq0, hq00, noG]
                exact ⟨⟨none, hg _ (GL.err0 (hbad (hPc'.bad1 (Pm.out_none ho)))), _, _, rfl⟩, View.le_trans hAD3 hD4⟩
              | some o =>
                rw [ho] at hM
                have hown : ∃ (t : ByteArray) (b : Bool), r2 = .tuple #[.string t, .bool b, .nilIface] := by
                  cases o with
                  | none => exact ⟨_, false, hM⟩
                  | some l => obtain ⟨t, ht, e⟩ := hM; exact ⟨t, true, ht⟩
                obtain ⟨t2, b2, rfl⟩ := hown
                refine hR _ _ _ ?_; clear hR R
                iterate 7 (refine seqX_hide2 fun R hR => ?_; simp [go_sem, hz0, h0, g0, hq0, hq00]; refine hR _ _ _ ?_; clear hR R)
                rw [seqX_nil]
                refine hK _ _ _ ?_; clear hK K
                refine hN22 _ _ _ ?_
                refine xc_two fun N23 hN23 => ?_
                refine xc_reg1 2 rfl fun K hK => ?_
                simp only [show (List.range 2).map (·, true) = [(0, true), (1, true)] from rfl, rslv_cons, rslv_nil, List.getElem?_toArray, List.getElem?_cons_zero, List.getElem?_cons_succ, gres]
                iterate 2 (refine seqX_hide2 fun R hR => ?_; simp [go_sem, hz0, h0, g0, hq0, hq00]; refine hR _ _ _ ?_; clear hR R)
                rw [seqX_nil]
                refine hK _ _ _ ?_; clear hK K
                refine hN23 _ _ _ ?_
                refine xc_iffalse (by simp [go_sem, hz0, h0, g0, hq0, hq00]) ?_
                refine hJ2 ((r').size) _ _ _ (by omega) ⟨r', D4, rfl, rfl, rfl, hP, by simp [go_sem, hz0, h0, g0, hq0, hq00], View.le_trans hAD3 hD4, by omega, har', fun h => hbad (hPc'.bad h)⟩
            by_cases hn : 0 < n
            rotate_left
            · have hnd : decide (0 < n) = false := by simp; omega
              refine xc_iffalse (by simp [go_sem, hz0, h0, g0, g1, g6, g7, g10, hnd]) ?_
              exact chk (D1) _ hP (by simp [go_sem, hz0, h0, g0, g1, g6, g7, g10, hnd]) (hAD1) (GL_fail hPc hpa (i := 0) (fun k hk => by rw [Nat.le_zero.1 hk]; exact hno0) (.inr (.inr (by omega))))
            obtain ⟨m, rfl⟩ : ∃ m, n = m + 1 := ⟨n - 1, by omega⟩
            have hnd : decide (0 < m + 1) = true := by simp
            refine xc_iftrue (by simp [go_sem, hz0, h0, g0, g1, g6, g7, g10, hnd]) ?_
            refine xc_two fun N18 hN18 => ?_
            refine xc_reg1 1 rfl fun K hK => ?_
            simp only [show (List.range 1).map (·, true) = [(0, true)] from rfl, rslv_cons, rslv_nil, List.getElem?_toArray, List.getElem?_cons_zero, List.getElem?_cons_succ, gres]
            (refine seqX_hide2 fun R hR => ?_; simp [go_sem, hz0, h0, g0, g1, g6, g7, g10, hnd]; refine hR _ _ _ ?_; clear hR R)
            rw [seqX_nil]
            refine hK _ _ _ ?_; clear hK K
            refine hN18 _ _ _ ?_
            rw [xc_block]
            rw [xc_loop]
            refine vloopK (fun k' e ds A' => ∃ (i : Nat) (D2 : View), k' = s.size - i ∧ ds = [] ∧ A' = ov D2 [] ∧ Priv D2 [] ∧ e 0 = .string q ∧ e 1 = .string s ∧ e 7 = .string c ∧ e 11 = .int .i64 i ∧ (i ≤ s.size) ∧ (A ≤ D2) ∧ (47 ∉ (nb s).take i) ∧ (Nowhere a (nb q) (nb s) i)) _ ⟨0, D1, rfl, rfl, rfl, hP, by simp [go_sem, hz0, h0, g0, g1, g6, g7, g10, hnd], by simp [go_sem, hz0, h0, g0, g1, g6, g7, g10, hnd], by simp [go_sem, hz0, h0, g0, g1, g6, g7, g10, hnd], by simp [go_sem, hz0, h0, g0, g1, g6, g7, g10, hnd], by omega, hAD1, by simp, fun k hk => by rw [Nat.le_zero.1 hk]; exact hno0⟩ ?_
            clear g0 g1 g6 g7 g10
            clear hP
            rintro k' e ds A' ⟨i, D2, rfl, rfl, hV, hP, g0, g1, g7, g11, hil, hAD2, hns, hno⟩ J2 X2 hJ2 hX2
            refine xc_sound _ ?_
            replace hV := Eq.symm hV; subst hV; replace hP : Priv D2 (addrs []) := hP
            have hw1 := wrap_nat (i := i) (by omega)
            have hnl := nb_len s
            by_cases hi : i < s.size
            rotate_left
            · have hii : ¬ (i : Int) < s.size := by omega
              refine xc_two fun N19 hN19 => ?_
              refine xc_two fun N20 hN20 => ?_
              refine xc_reg1 10 rfl fun K hK => ?_
              simp only [show (List.range 10).map (·, true) = [(0, true), (1, true), (2, true), (3, true), (4, true), (5, true), (6, true), (7, true), (8, true), (9, true)] from rfl, rslv_cons, rslv_nil, List.getElem?_toArray, List.getElem?_cons_zero, List.getElem?_cons_succ, gres]
              iterate 10 (refine seqX_hide2 fun R hR => ?_; simp [go_sem, hz0, h0, hnd, g0, g1, g7, g11, hi, hii]; refine hR _ _ _ ?_; clear hR R)
              rw [seqX_nil]
              refine hK _ _ _ ?_; clear hK K
              refine hN20 _ _ _ ?_
              refine xc_iffalse (by simp [go_sem, hz0, h0, hnd, g0, g1, g7, g11, hi, hii]) ?_
              refine hX2 _ _ _ _ ?_
              exact chk (D2) _ hP (by simp [go_sem, hz0, h0, hnd, g0, g1, g7, g11, hi, hii]) (hAD2) (GL_fail hPc hpa hno (.inl (by omega)))
            have hii : (i : Int) < s.size := by omega
            have hgi : s[i]? = some s[i] := getElem?_pos s i hi
            by_cases h47 : s[i].toNat = 47
            · have hb2 : ((s[i].toNat : Int) == 47) = true := by simp [h47]
              refine xc_two fun N19 hN19 => ?_
              refine xc_two fun N20 hN20 => ?_
              refine xc_reg1 10 rfl fun K hK => ?_
              simp only [show (List.range 10).map (·, true) = [(0, true), (1, true), (2, true), (3, true), (4, true), (5, true), (6, true), (7, true), (8, true), (9, true)] from rfl, rslv_cons, rslv_nil, List.getElem?_toArray, List.getElem?_cons_zero, List.getElem?_cons_succ, gres]
              iterate 10 (refine seqX_hide2 fun R hR => ?_; simp [go_sem, hz0, h0, hnd, g0, g1, g7, g11, hi, hii, hgi, hw1, xindex, xslice, h47, hb2]; refine hR _ _ _ ?_; clear hR R)
              rw [seqX_nil]
              refine hK _ _ _ ?_; clear hK K
              refine hN20 _ _ _ ?_
              refine xc_iffalse (by simp [go_sem, hz0, h0, hnd, g0, g1, g7, g11, hi, hii, hgi, hw1, xindex, xslice, h47, hb2]) ?_
              refine hX2 _ _ _ _ ?_
              exact chk (D2) _ hP (by simp [go_sem, hz0, h0, hnd, g0, g1, g7, g11, hi, hii, hgi, hw1, xindex, xslice, h47, hb2]) (hAD2) (GL_fail hPc hpa hno (.inr (.inl (by rw [nb_get hi, h47]))))
            have hb2 : ((s[i].toNat : Int) == 47) = false := beq_eq_false_iff_ne.2 (by omega)
            have hbn2 : ¬ (s[i].toNat : Int) = 47 := by omega
            have hi1 : i + 1 ≤ s.size := by omega
            have hi1i : (i : Int) + 1 ≤ s.size := by omega
            have h0i : (0 : Int) ≤ (i : Int) + 1 := by omega
            have hns' : 47 ∉ (nb s).take (i + 1) := by
              rw [nb_take1 hi]
              intro hx
              rcases List.mem_append.1 hx with hx | hx
              · exact hns hx
              · rw [List.mem_singleton] at hx; exact h47 hx.symm
            have hdr := nb_drop s (i + 1)
            have hex := extract_size' s (i + 1) hi1
            refine xc_two fun N19 hN19 => ?_
            refine xc_two fun N20 hN20 => ?_
            refine xc_reg1 10 rfl fun K hK => ?_
            simp only [show (List.range 10).map (·, true) = [(0, true), (1, true), (2, true), (3, true), (4, true), (5, true), (6, true), (7, true), (8, true), (9, true)] from rfl, rslv_cons, rslv_nil, List.getElem?_toArray, List.getElem?_cons_zero, List.getElem?_cons_succ, gres]
            iterate 10 (refine seqX_hide2 fun R hR => ?_; simp [go_sem, hz0, h0, hnd, g0, g1, g7, g11, hi, hii, hgi, hw1, xindex, xslice, h47, hb2, hbn2, hi1, hi1i, h0i]; refine hR _ _ _ ?_; clear hR R)
            rw [seqX_nil]
            refine hK _ _ _ ?_; clear hK K
            refine hN20 _ _ _ ?_
            refine xc_iftrue (by simp [go_sem, hz0, h0, hnd, g0, g1, g7, g11, hi, hii, hgi, hw1, xindex, xslice, h47, hb2, hbn2, hi1, hi1i, h0i]) ?_
            refine hN19 _ _ _ ?_
            refine xc_two fun N21 hN21 => ?_
            rw [xc_block]
            refine xc_two fun N22 hN22 => ?_
            refine xc_reg1 13 rfl fun K hK => ?_
            simp only [show (List.range 13).map (·, true) = [(0, true), (1, true), (2, true), (3, true), (4, true), (5, true), (6, true), (7, true), (8, true), (9, true), (10, true), (11, true), (12, true)] from rfl, rslv_cons, rslv_nil, List.getElem?_toArray, List.getElem?_cons_zero, List.getElem?_cons_succ, gres]
            iterate 5 (refine seqX_hide2 fun R hR => ?_; simp [go_sem, hz0, h0, hnd, g0, g1, g7, g11, hi, hii, hgi, hw1, xindex, xslice, h47, hb2, hbn2, hi1, hi1i, h0i]; refine hR _ _ _ ?_; clear hR R)
            refine seqX_hide2 fun R hR => ?_
            simp [go_sem, hz0, h0, hnd, g0, g1, g7, g11, hi, hii, hgi, hw1, xindex, xslice, h47, hb2, hbn2, hi1, hi1i, h0i]
            refine call_ov hP (chunk43 D2 c (s.extract (i + 1) s.size) (by omega) (by omega) hac (has.drop _)) ?_
            clear hP
            rintro r2 D3 ⟨hM, hD3⟩ hP
            rw [hdr] at hM
            have hown : ∃ (t : ByteArray) (b : Bool), r2 = .tuple #[.string t, .bool b, .nilIface] ∧ ((b = false ∧ mcI a ((nb s).drop (i + 1)) = none) ∨ (b = true ∧ mcI a ((nb s).drop (i + 1)) = some (nb t))) := by
              have ho : out false (nb c) ((nb s).drop (i + 1)) = some (mcI a ((nb s).drop (i + 1))) := by unfold out; rw [hpa]; rfl
              rw [ho] at hM
              cases hmm : mcI a ((nb s).drop (i + 1)) with
              | none => rw [hmm] at hM; exact ⟨_, false, hM, .inl ⟨rfl, rfl⟩⟩
              | some l =>
                rw [hmm] at hM
                obtain ⟨t, ht, e⟩ := hM
                exact ⟨t, true, ht, .inr ⟨rfl, by rw [e]⟩⟩
            obtain ⟨t2, b2, rfl, hb3⟩ := hown
            rcases hb3 with ⟨rfl, hm2⟩ | ⟨rfl, hm2⟩
            · skip
              refine hR _ _ _ ?_; clear hR R
              iterate 7 (refine seqX_hide2 fun R hR => ?_; simp [go_sem, hz0, h0, hnd, g0, g1, g7, g11, hi, hii, hgi, hw1, xindex, xslice, h47, hb2, hbn2, hi1, hi1i, h0i]; refine hR _ _ _ ?_; clear hR R)
              rw [seqX_nil]
              refine hK _ _ _ ?_; clear hK K
              refine hN22 _ _ _ ?_
              refine xc_two fun N23 hN23 => ?_
              refine xc_two fun N24 hN24 => ?_
              refine xc_reg1 1 rfl fun K hK => ?_
              simp only [show (List.range 1).map (·, true) = [(0, true)] from rfl, rslv_cons, rslv_nil, List.getElem?_toArray, List.getElem?_cons_zero, List.getElem?_cons_succ, gres]
              (refine seqX_hide2 fun R hR => ?_; simp [go_sem, hz0, h0, hnd, g0, g1, g7, g11, hi, hii, hgi, hw1, xindex, xslice, h47, hb2, hbn2, hi1, hi1i, h0i]; refine hR _ _ _ ?_; clear hR R)
              rw [seqX_nil]
              refine hK _ _ _ ?_; clear hK K
              refine hN24 _ _ _ ?_
              refine xc_iffalse (by simp [go_sem, hz0, h0, hnd, g0, g1, g7, g11, hi, hii, hgi, hw1, xindex, xslice, h47, hb2, hbn2, hi1, hi1i, h0i]) ?_
              refine hN23 _ _ _ ?_
              refine xc_two fun N25 hN25 => ?_
              refine xc_reg1 2 rfl fun K hK => ?_
              simp only [show (List.range 2).map (·, true) = [(0, true), (1, true)] from rfl, rslv_cons, rslv_nil, List.getElem?_toArray, List.getElem?_cons_zero, List.getElem?_cons_succ, gres]
              iterate 2 (refine seqX_hide2 fun R hR => ?_; simp [go_sem, hz0, h0, hnd, g0, g1, g7, g11, hi, hii, hgi, hw1, xindex, xslice, h47, hb2, hbn2, hi1, hi1i, h0i]; refine hR _ _ _ ?_; clear hR R)
              rw [seqX_nil]
              refine hK _ _ _ ?_; clear hK K
              refine hN25 _ _ _ ?_
              refine xc_iffalse (by simp [go_sem, hz0, h0, hnd, g0, g1, g7, g11, hi, hii, hgi, hw1, xindex, xslice, h47, hb2, hbn2, hi1, hi1i, h0i]) ?_
              refine hN21 _ _ _ ?_
              refine xc_reg1 3 rfl fun K hK => ?_
              simp only [show (List.range 3).map (·, true) = [(0, true), (1, true), (2, true)] from rfl, rslv_cons, rslv_nil, List.getElem?_toArray, List.getElem?_cons_zero, List.getElem?_cons_succ, gres]
              iterate 3 (refine seqX_hide2 fun R hR => ?_; simp [go_sem, hz0, h0, hnd, g0, g1, g7, g11, hi, hii, hgi, hw1, xindex, xslice, h47, hb2, hbn2, hi1, hi1i, h0i]; refine hR _ _ _ ?_; clear hR R)
              rw [seqX_nil]
              refine hK _ _ _ ?_; clear hK K
              refine hJ2 (s.size - (i + 1)) _ _ _ (by omega) ⟨i + 1, D3, rfl, rfl, rfl, hP, by simp [go_sem, hz0, h0, hnd, g0, g1, g7, g11, hi, hii, hgi, hw1, xindex, xslice, h47, hb2, hbn2, hi1, hi1i, h0i], by simp [go_sem, hz0, h0, hnd, g0, g1, g7, g11, hi, hii, hgi, hw1, xindex, xslice, h47, hb2, hbn2, hi1, hi1i, h0i], by simp [go_sem, hz0, h0, hnd, g0, g1, g7, g11, hi, hii, hgi, hw1, xindex, xslice, h47, hb2, hbn2, hi1, hi1i, h0i], by simp [go_sem, hz0, h0, hnd, g0, g1, g7, g11, hi, hii, hgi, hw1, xindex, xslice, h47, hb2, hbn2, hi1, hi1i, h0i], by omega, View.le_trans hAD2 hD3, hns', hno.push (.inl hm2)⟩
            · skip
              refine hR _ _ _ ?_; clear hR R
              iterate 7 (refine seqX_hide2 fun R hR => ?_; simp [go_sem, hz0, h0, hnd, g0, g1, g7, g11, hi, hii, hgi, hw1, xindex, xslice, h47, hb2, hbn2, hi1, hi1i, h0i]; refine hR _ _ _ ?_; clear hR R)
              rw [seqX_nil]
              refine hK _ _ _ ?_; clear hK K
              refine hN22 _ _ _ ?_
              refine xc_two fun N23 hN23 => ?_
              refine xc_two fun N24 hN24 => ?_
              refine xc_reg1 1 rfl fun K hK => ?_
              simp only [show (List.range 1).map (·, true) = [(0, true)] from rfl, rslv_cons, rslv_nil, List.getElem?_toArray, List.getElem?_cons_zero, List.getElem?_cons_succ, gres]
              (refine seqX_hide2 fun R hR => ?_; simp [go_sem, hz0, h0, hnd, g0, g1, g7, g11, hi, hii, hgi, hw1, xindex, xslice, h47, hb2, hbn2, hi1, hi1i, h0i]; refine hR _ _ _ ?_; clear hR R)
              rw [seqX_nil]
              refine hK _ _ _ ?_; clear hK K
              refine hN24 _ _ _ ?_
              refine xc_iftrue (by simp [go_sem, hz0, h0, hnd, g0, g1, g7, g11, hi, hii, hgi, hw1, xindex, xslice, h47, hb2, hbn2, hi1, hi1i, h0i]) ?_
              refine xc_two fun N25 hN25 => ?_
              refine xc_two fun N26 hN26 => ?_
              by_cases hq0 : q.size = 0
              · have hq0i : (q.size : Int) = 0 := by omega
                have hqn : nb q = [] := nb_nil.2 hq0
                by_cases ht0 : 0 < t2.size
                · have ht0i : (0 : Int) < t2.size := by omega
                  refine xc_reg1 8 rfl fun K hK => ?_
                  simp only [show (List.range 8).map (·, true) = [(0, true), (1, true), (2, true), (3, true), (4, true), (5, true), (6, true), (7, true)] from rfl, rslv_cons, rslv_nil, List.getElem?_toArray, List.getElem?_cons_zero, List.getElem?_cons_succ, gres]
                  iterate 8 (refine seqX_hide2 fun R hR => ?_; simp [go_sem, hz0, h0, hnd, g0, g1, g7, g11, hi, hii, hgi, hw1, xindex, xslice, h47, hb2, hbn2, hi1, hi1i, h0i, hq0, hq0i, ht0, ht0i]; refine hR _ _ _ ?_; clear hR R)
                  rw [seqX_nil]
                  refine hK _ _ _ ?_; clear hK K
                  refine hN26 _ _ _ ?_
                  refine xc_iftrue (by simp [go_sem, hz0, h0, hnd, g0, g1, g7, g11, hi, hii, hgi, hw1, xindex, xslice, h47, hb2, hbn2, hi1, hi1i, h0i, hq0, hq0i, ht0, ht0i]) ?_
                  refine hN21 _ _ _ ?_
                  refine xc_reg1 3 rfl fun K hK => ?_
                  simp only [show (List.range 3).map (·, true) = [(0, true), (1, true), (2, true)] from rfl, rslv_cons, rslv_nil, List.getElem?_toArray, List.getElem?_cons_zero, List.getElem?_cons_succ, gres]
                  iterate 3 (refine seqX_hide2 fun R hR => ?_; simp [go_sem, hz0, h0, hnd, g0, g1, g7, g11, hi, hii, hgi, hw1, xindex, xslice, h47, hb2, hbn2, hi1, hi1i, h0i, hq0, hq0i, ht0, ht0i]; refine hR _ _ _ ?_; clear hR R)
                  rw [seqX_nil]
                  refine hK _ _ _ ?_; clear hK K
                  refine hJ2 (s.size - (i + 1)) _ _ _ (by omega) ⟨i + 1, D3, rfl, rfl, rfl, hP, by simp [go_sem, hz0, h0, hnd, g0, g1, g7, g11, hi, hii, hgi, hw1, xindex, xslice, h47, hb2, hbn2, hi1, hi1i, h0i, hq0, hq0i, ht0, ht0i], by simp [go_sem, hz0, h0, hnd, g0, g1, g7, g11, hi, hii, hgi, hw1, xindex, xslice, h47, hb2, hbn2, hi1, hi1i, h0i, hq0, hq0i, ht0, ht0i], by simp [go_sem, hz0, h0, hnd, g0, g1, g7, g11, hi, hii, hgi, hw1, xindex, xslice, h47, hb2, hbn2, hi1, hi1i, h0i, hq0, hq0i, ht0, ht0i], by simp [go_sem, hz0, h0, hnd, g0, g1, g7, g11, hi, hii, hgi, hw1, xindex, xslice, h47, hb2, hbn2, hi1, hi1i, h0i, hq0, hq0i, ht0, ht0i], by omega, View.le_trans hAD2 hD3, hns', hno.push (.inr ⟨hqn, _, hm2, fun hx => by rw [nb_nil] at hx; omega⟩)⟩
                · have ht0i : ¬ (0 : Int) < t2.size := by omega
                  refine xc_reg1 8 rfl fun K hK => ?_
                  simp only [show (List.range 8).map (·, true) = [(0, true), (1, true), (2, true), (3, true), (4, true), (5, true), (6, true), (7, true)] from rfl, rslv_cons, rslv_nil, List.getElem?_toArray, List.getElem?_cons_zero, List.getElem?_cons_succ, gres]
                  iterate 8 (refine seqX_hide2 fun R hR => ?_; simp [go_sem, hz0, h0, hnd, g0, g1, g7, g11, hi, hii, hgi, hw1, xindex, xslice, h47, hb2, hbn2, hi1, hi1i, h0i, hq0, hq0i, ht0, ht0i]; refine hR _ _ _ ?_; clear hR R)
                  rw [seqX_nil]
                  refine hK _ _ _ ?_; clear hK K
                  refine hN26 _ _ _ ?_
                  refine xc_iffalse (by simp [go_sem, hz0, h0, hnd, g0, g1, g7, g11, hi, hii, hgi, hw1, xindex, xslice, h47, hb2, hbn2, hi1, hi1i, h0i, hq0, hq0i, ht0, ht0i]) ?_
                  refine hN25 _ _ _ ?_
                  refine xc_two fun N27 hN27 => ?_
                  refine xc_reg1 2 rfl fun K hK => ?_
                  simp only [show (List.range 2).map (·, true) = [(0, true), (1, true)] from rfl, rslv_cons, rslv_nil, List.getElem?_toArray, List.getElem?_cons_zero, List.getElem?_cons_succ, gres]
                  iterate 2 (refine seqX_hide2 fun R hR => ?_; simp [go_sem, hz0, h0, hnd, g0, g1, g7, g11, hi, hii, hgi, hw1, xindex, xslice, h47, hb2, hbn2, hi1, hi1i, h0i, hq0, hq0i, ht0, ht0i]; refine hR _ _ _ ?_; clear hR R)
                  rw [seqX_nil]
                  refine hK _ _ _ ?_; clear hK K
                  refine hN27 _ _ _ ?_
                  refine hX2 _ _ _ _ ?_
                  refine hJ1 ((q).size) _ _ _ (by omega) ⟨q, t2, D3, rfl, rfl, rfl, hP, by simp [go_sem, hz0, h0, hnd, g0, g1, g7, g11, hi, hii, hgi, hw1, xindex, xslice, h47, hb2, hbn2, hi1, hi1i, h0i, hq0, hq0i, ht0, ht0i], by simp [go_sem, hz0, h0, hnd, g0, g1, g7, g11, hi, hii, hgi, hw1, xindex, xslice, h47, hb2, hbn2, hi1, hi1i, h0i, hq0, hq0i, ht0, ht0i], View.le_trans hAD2 hD3, by omega, ?_, haq, ?_, fun res h => hg res (GL_star hPc hpa hns' (by rw [nb_len]; exact hi1) (fun k hk => hno k (by omega)) hm2 (fun _ => nb_nil.2 (by omega)) h)⟩
                  · omega
                  · intro x hx; rw [nb_nil.2 (by omega : t2.size = 0)] at hx; cases hx
              · have hq0i : ¬ (q.size : Int) = 0 := by omega
                have hq0b : ((q.size : Int) == 0) = false := beq_eq_false_iff_ne.2 (by omega)
                refine xc_reg1 8 rfl fun K hK => ?_
                simp only [show (List.range 8).map (·, true) = [(0, true), (1, true), (2, true), (3, true), (4, true), (5, true), (6, true), (7, true)] from rfl, rslv_cons, rslv_nil, List.getElem?_toArray, List.getElem?_cons_zero, List.getElem?_cons_succ, gres]
                iterate 8 (refine seqX_hide2 fun R hR => ?_; simp [go_sem, hz0, h0, hnd, g0, g1, g7, g11, hi, hii, hgi, hw1, xindex, xslice, h47, hb2, hbn2, hi1, hi1i, h0i, hq0, hq0i, hq0b]; refine hR _ _ _ ?_; clear hR R)
                rw [seqX_nil]
                refine hK _ _ _ ?_; clear hK K
                refine hN26 _ _ _ ?_
                refine xc_iffalse (by simp [go_sem, hz0, h0, hnd, g0, g1, g7, g11, hi, hii, hgi, hw1, xindex, xslice, h47, hb2, hbn2, hi1, hi1i, h0i, hq0, hq0i, hq0b]) ?_
                refine hN25 _ _ _ ?_
                refine xc_two fun N27 hN27 => ?_
                refine xc_reg1 2 rfl fun K hK => ?_
                simp only [show (List.range 2).map (·, true) = [(0, true), (1, true)] from rfl, rslv_cons, rslv_nil, List.getElem?_toArray, List.getElem?_cons_zero, List.getElem?_cons_succ, gres]
                iterate 2 (refine seqX_hide2 fun R hR => ?_; simp [go_sem, hz0, h0, hnd, g0, g1, g7, g11, hi, hii, hgi, hw1, xindex, xslice, h47, hb2, hbn2, hi1, hi1i, h0i, hq0, hq0i, hq0b]; refine hR _ _ _ ?_; clear hR R)
                rw [seqX_nil]
                refine hK _ _ _ ?_; clear hK K
                refine hN27 _ _ _ ?_
                refine hX2 _ _ _ _ ?_
                have hmem := Pm.mcI_mem (Pm.pat_free _ hpa) hm2
                have hlen : t2.size ≤ s.size := by
                  obtain ⟨u, hu, -⟩ := (Pm.mcI_iff (Pm.pat_free _ hpa)).1 hm2
                  have h5 := congrArg List.length hu
                  rw [List.length_drop, List.length_append, nb_len, nb_len] at h5
                  omega
                refine hJ1 ((q).size) _ _ _ (by omega) ⟨q, t2, D3, rfl, rfl, rfl, hP, by simp [go_sem, hz0, h0, hnd, g0, g1, g7, g11, hi, hii, hgi, hw1, xindex, xslice, h47, hb2, hbn2, hi1, hi1i, h0i, hq0, hq0i, hq0b], by simp [go_sem, hz0, h0, hnd, g0, g1, g7, g11, hi, hii, hgi, hw1, xindex, xslice, h47, hb2, hbn2, hi1, hi1i, h0i, hq0, hq0i, hq0b], View.le_trans hAD2 hD3, by omega, by omega, haq, fun x hx => has x (List.mem_of_mem_drop (hmem x hx)), fun res h => hg res (GL_star hPc hpa hns' (by rw [nb_len]; exact hi1) (fun k hk => hno k (by omega)) hm2 (fun hx => absurd (nb_nil.1 hx) hq0) h)⟩
          rcases hb with ⟨rfl, hm⟩ | ⟨rfl, hm⟩
          · skip
            refine xc_reg1 11 rfl fun K hK => ?_
            simp only [show (List.range 11).map (·, true) = [(0, true), (1, true), (2, true), (3, true), (4, true), (5, true), (6, true), (7, true), (8, true), (9, true), (10, true)] from rfl, rslv_cons, rslv_nil, List.getElem?_toArray, List.getElem?_cons_zero, List.getElem?_cons_succ, gres]
            iterate 11 (refine seqX_hide2 fun R hR => ?_; simp [go_sem, hz0, h0, g0, g1, g6, g7]; refine hR _ _ _ ?_; clear hR R)
            rw [seqX_nil]
            refine hK _ _ _ ?_; clear hK K
            refine hN13 _ _ _ ?_
            refine xc_iffalse (by simp [go_sem, hz0, h0, g0, g1, g6, g7]) ?_
            exact st  _ hP (by simp [go_sem, hz0, h0, g0, g1, g6, g7]) (by simp [go_sem, hz0, h0, g0, g1, g6, g7]) (by simp [go_sem, hz0, h0, g0, g1, g6, g7]) (by simp [go_sem, hz0, h0, g0, g1, g6, g7]) (by simp [go_sem, hz0, h0, g0, g1, g6, g7]) (.inl hm)
          have hmem := Pm.mcI_mem (Pm.pat_free _ hpa) hm
          have hlen : t.size ≤ s.size := by
            obtain ⟨u, hu, -⟩ := (Pm.mcI_iff (Pm.pat_free _ hpa)).1 hm
            have h5 := congrArg List.length hu
            rw [nb_len, List.length_append, nb_len] at h5
            omega
          have hnext : (nb q = [] → nb t = []) → ∀ res, GL (nb q) (nb t) res → GL (nb p) (nb s) res := fun hx res h => by
            cases n with
            | zero => exact GL.plain hPc hpa hm h
            | succ n => exact GL_star (i := 0) hPc hpa (by simp) (Nat.zero_le _) (fun k hk => by omega) (by simpa using hm) hx h
          by_cases ht0 : t.size = 0
          · have ht0i : (t.size : Int) = 0 := by omega
            refine xc_reg1 11 rfl fun K hK => ?_
            simp only [show (List.range 11).map (·, true) = [(0, true), (1, true), (2, true), (3, true), (4, true), (5, true), (6, true), (7, true), (8, true), (9, true), (10, true)] from rfl, rslv_cons, rslv_nil, List.getElem?_toArray, List.getElem?_cons_zero, List.getElem?_cons_succ, gres]
            iterate 11 (refine seqX_hide2 fun R hR => ?_; simp [go_sem, hz0, h0, g0, g1, g6, g7, ht0, ht0i]; refine hR _ _ _ ?_; clear hR R)
            rw [seqX_nil]
            refine hK _ _ _ ?_; clear hK K
            refine hN13 _ _ _ ?_
            refine xc_iftrue (by simp [go_sem, hz0, h0, g0, g1, g6, g7, ht0, ht0i]) ?_
            refine xc_two fun N14 hN14 => ?_
            refine xc_reg1 2 rfl fun K hK => ?_
            simp only [show (List.range 2).map (·, true) = [(0, true), (1, true)] from rfl, rslv_cons, rslv_nil, List.getElem?_toArray, List.getElem?_cons_zero, List.getElem?_cons_succ, gres]
            iterate 2 (refine seqX_hide2 fun R hR => ?_; simp [go_sem, hz0, h0, g0, g1, g6, g7, ht0, ht0i]; refine hR _ _ _ ?_; clear hR R)
            rw [seqX_nil]
            refine hK _ _ _ ?_; clear hK K
            refine hN14 _ _ _ ?_
            refine hJ1 ((q).size) _ _ _ (by omega) ⟨q, t, D1, rfl, rfl, rfl, hP, by simp [go_sem, hz0, h0, g0, g1, g6, g7, ht0, ht0i], by simp [go_sem, hz0, h0, g0, g1, g6, g7, ht0, ht0i], hAD1, by omega, by omega, haq, fun x hx => has x (hmem x hx), fun res h => hg res (hnext (fun _ => nb_nil.2 ht0) res h)⟩
          have ht0i : ¬ (t.size : Int) = 0 := by omega
          have ht0b : ((t.size : Int) == 0) = false := beq_eq_false_iff_ne.2 (by omega)
          by_cases hq0 : 0 < q.size
          · have hq0i : (0 : Int) < q.size := by omega
            refine xc_reg1 11 rfl fun K hK => ?_
            simp only [show (List.range 11).map (·, true) = [(0, true), (1, true), (2, true), (3, true), (4, true), (5, true), (6, true), (7, true), (8, true), (9, true), (10, true)] from rfl, rslv_cons, rslv_nil, List.getElem?_toArray, List.getElem?_cons_zero, List.getElem?_cons_succ, gres]
            iterate 11 (refine seqX_hide2 fun R hR => ?_; simp [go_sem, hz0, h0, g0, g1, g6, g7, ht0, ht0i, ht0b, hq0, hq0i]; refine hR _ _ _ ?_; clear hR R)
            rw [seqX_nil]
            refine hK _ _ _ ?_; clear hK K
            refine hN13 _ _ _ ?_
            refine xc_iftrue (by simp [go_sem, hz0, h0, g0, g1, g6, g7, ht0, ht0i, ht0b, hq0, hq0i]) ?_
            refine xc_two fun N14 hN14 => ?_
            refine xc_reg1 2 rfl fun K hK => ?_
            simp only [show (List.range 2).map (·, true) = [(0, true), (1, true)] from rfl, rslv_cons, rslv_nil, List.getElem?_toArray, List.getElem?_cons_zero, List.getElem?_cons_succ, gres]
            iterate 2 (refine seqX_hide2 fun R hR => ?_; simp [go_sem, hz0, h0, g0, g1, g6, g7, ht0, ht0i, ht0b, hq0, hq0i]; refine hR _ _ _ ?_; clear hR R)
            rw [seqX_nil]
            refine hK _ _ _ ?_; clear hK K
            refine hN14 _ _ _ ?_
            refine hJ1 ((q).size) _ _ _ (by omega) ⟨q, t, D1, rfl, rfl, rfl, hP, by simp [go_sem, hz0, h0, g0, g1, g6, g7, ht0, ht0i, ht0b, hq0, hq0i], by simp [go_sem, hz0, h0, g0, g1, g6, g7, ht0, ht0i, ht0b, hq0, hq0i], hAD1, by omega, by omega, haq, fun x hx => has x (hmem x hx), fun res h => hg res (hnext (fun hx => absurd (nb_nil.1 hx) (by omega)) res h)⟩
          · have hq0i : ¬ (0 : Int) < q.size := by omega
            refine xc_reg1 11 rfl fun K hK => ?_
            simp only [show (List.range 11).map (·, true) = [(0, true), (1, true), (2, true), (3, true), (4, true), (5, true), (6, true), (7, true), (8, true), (9, true), (10, true)] from rfl, rslv_cons, rslv_nil, List.getElem?_toArray, List.getElem?_cons_zero, List.getElem?_cons_succ, gres]
            iterate 11 (refine seqX_hide2 fun R hR => ?_; simp [go_sem, hz0, h0, g0, g1, g6, g7, ht0, ht0i, ht0b, hq0, hq0i]; refine hR _ _ _ ?_; clear hR R)
            rw [seqX_nil]
            refine hK _ _ _ ?_; clear hK K
            refine hN13 _ _ _ ?_
            refine xc_iffalse (by simp [go_sem, hz0, h0, g0, g1, g6, g7, ht0, ht0i, ht0b, hq0, hq0i]) ?_
            exact st  _ hP (by simp [go_sem, hz0, h0, g0, g1, g6, g7, ht0, ht0i, ht0b, hq0, hq0i]) (by simp [go_sem, hz0, h0, g0, g1, g6, g7, ht0, ht0i, ht0b, hq0, hq0i]) (by simp [go_sem, hz0, h0, g0, g1, g6, g7, ht0, ht0i, ht0b, hq0, hq0i]) (by simp [go_sem, hz0, h0, g0, g1, g6, g7, ht0, ht0i, ht0b, hq0, hq0i]) (by simp [go_sem, hz0, h0, g0, g1, g6, g7, ht0, ht0i, ht0b, hq0, hq0i]) (.inr ⟨nb_nil.2 (by omega), _, hm, fun hx => ht0 (nb_nil.1 hx)⟩)
      by_cases hn : 0 < n
      · have hnd : decide (0 < n) = true := by simp [hn]
        have hce := isEmpty_pos (s := c) (by omega)
        refine xc_reg1 5 rfl fun K hK => ?_
        simp only [show (List.range 5).map (·, true) = [(0, true), (1, true), (2, true), (3, true), (4, true)] from rfl, rslv_cons, rslv_nil, List.getElem?_toArray, List.getElem?_cons_zero, List.getElem?_cons_succ, gres]
        iterate 5 (refine seqX_hide2 fun R hR => ?_; simp [go_sem, g0, g1, hz0, h0, hnd, hce]; refine hR _ _ _ ?_; clear hR R)
        rw [seqX_nil]
        refine hK _ _ _ ?_; clear hK K
        refine hN10 _ _ _ ?_
        refine xc_iffalse (by simp [go_sem, g0, g1, hz0, h0, hnd, hce]) ?_
        exact go  _ hP (by simp [go_sem, g0, g1, hz0, h0, hnd, hce]) (by simp [go_sem, g0, g1, hz0, h0, hnd, hce]) (by simp [go_sem, g0, g1, hz0, h0, hnd, hce]) (by simp [go_sem, g0, g1, hz0, h0, hnd, hce])
      · have hnd : decide (0 < n) = false := by simp; omega
        refine xc_reg1 5 rfl fun K hK => ?_
        simp only [show (List.range 5).map (·, true) = [(0, true), (1, true), (2, true), (3, true), (4, true)] from rfl, rslv_cons, rslv_nil, List.getElem?_toArray, List.getElem?_cons_zero, List.getElem?_cons_succ, gres]
        iterate 5 (refine seqX_hide2 fun R hR => ?_; simp [go_sem, g0, g1, hz0, h0, hnd]; refine hR _ _ _ ?_; clear hR R)
        rw [seqX_nil]
        refine hK _ _ _ ?_; clear hK K
        refine hN10 _ _ _ ?_
        refine xc_iffalse (by simp [go_sem, g0, g1, hz0, h0, hnd]) ?_
        exact go  _ hP (by simp [go_sem, g0, g1, hz0, h0, hnd]) (by simp [go_sem, g0, g1, hz0, h0, hnd]) (by simp [go_sem, g0, g1, hz0, h0, hnd]) (by simp [go_sem, g0, g1, hz0, h0, hnd])
theorem door18 (A : View) (p s : ByteArray) (hs1 : p.size ≤ 1000000) (hs2 : s.size ≤ 1000000) (ha1 : Asc p) (ha2 : Asc s) : VCalls Tryd.prog 18 #[.string p, .string s] A fun r A' => Told (nb p) (nb s) r ∧ A ≤ A' := by
  refine xcalls Tryd.func18 rfl (by simp [Tryd.ntmps18]) ?_
  simp only [Tryd.f18]
  have hP : Priv A (addrs []) := Priv.nil A
  show xc _ _ _ _ _ _ (ov A [])
  refine xc_two fun N1 hN1 => ?_
  refine xc_reg1 2 rfl fun K hK => ?_
  simp only [show (List.range 2).map (·, true) = [(0, true), (1, true)] from rfl, rslv_cons, rslv_nil, List.getElem?_toArray, List.getElem?_cons_zero, List.getElem?_cons_succ, gres]
  iterate 2 (refine seqX_hide2 fun R hR => ?_; simp [go_sem]; refine hR _ _ _ ?_; clear hR R)
  rw [seqX_nil]
  refine hK _ _ _ ?_; clear hK K
  refine hN1 _ _ _ ?_
  refine xc_two fun N2 hN2 => ?_
  refine xc_reg1 7 rfl fun K hK => ?_
  simp only [show (List.range 7).map (·, true) = [(0, true), (1, true), (2, true), (3, true), (4, true), (5, true), (6, true)] from rfl, rslv_cons, rslv_nil, List.getElem?_toArray, List.getElem?_cons_zero, List.getElem?_cons_succ, gres]
  iterate 2 (refine seqX_hide2 fun R hR => ?_; simp [go_sem]; refine hR _ _ _ ?_; clear hR R)
  refine seqX_hide2 fun R hR => ?_
  simp [go_sem]
  refine call_ov hP (match28 A p s hs1 hs2 ha1 ha2) ?_
  clear hP
  rintro _ D ⟨⟨res, hg, hr⟩, hAD⟩ hP
  cases res with
  | none =>
    obtain ⟨i, y, rfl⟩ := hr
    refine hR _ _ _ ?_; clear hR R
    iterate 4 (refine seqX_hide2 fun R hR => ?_; simp [go_sem]; refine hR _ _ _ ?_; clear hR R)
    rw [seqX_nil]
    refine hK _ _ _ ?_; clear hK K
    refine hN2 _ _ _ ?_
    simp [go_sem]
    exact ⟨⟨none, hg, _, _, rfl⟩, hAD⟩
  | some b =>
    obtain rfl := hr
    refine hR _ _ _ ?_; clear hR R
    iterate 4 (refine seqX_hide2 fun R hR => ?_; simp [go_sem]; refine hR _ _ _ ?_; clear hR R)
    rw [seqX_nil]
    refine hK _ _ _ ?_; clear hK K
    refine hN2 _ _ _ ?_
    simp [go_sem]
    exact ⟨⟨some b, hg, rfl⟩, hAD⟩
theorem caught17 (p q : Addr) (w : World) :
    CallsD Tryd.prog 17 #[.pointer (some p), .pointer (some q)] .returning w fun e u' w' => (∃ v, e = .returned v) ∧ u' = .returning ∧ w' = w := by
  refine callsD_of_wpS Tryd.func17 rfl fun c₀ cs hu => ?_
  apply wpS_seq
  apply wpS_region
  simp [wpOpsS, go_sem, recoverD, hu, Tryd.ntmps17, Exit.thenS]
  refine wpS_cond (t := false) (by simp [Act.eval, Array.replicate]) ?_
  simp only [Bool.false_eq_true, if_false]
  refine wpS_of_wp (wp_skip ?_)
  cases c₀
  simp_all [bodyPostS, results, Tryd.results17]
/-- What impl.PathMatches tells: a fault, or an answer. -/
def PmR (res : Option Bool) (r : Value) : Prop := match res with
  | none => r = .tuple #[.bool false, .int .i64 1]
  | some b => r = .tuple #[.bool b, .int .i64 0]
set_option maxRecDepth 20000 in
theorem path7 (A : View) (p s : ByteArray) (hs1 : p.size ≤ 200) (hs2 : s.size ≤ 200) (ha1 : Asc p) (ha2 : Asc s) : VCalls Tryd.prog 7 #[.string p, .string s] A fun r A' => (∃ res, GL (nb p) (nb s) res ∧ PmR res r) ∧ A ≤ A' := by
  have h1 : ¬ (1000 : Int) < p.size := by omega
  have h2 : ¬ (1000 : Int) < s.size := by omega
  have h3 : ¬ 1000 < p.size := by omega
  have h4 : ¬ 1000 < s.size := by omega
  refine xcallsD Tryd.func7 rfl (by simp [Tryd.ntmps7]) ?_
  simp only [Tryd.f7]
  have hP : Priv A (addrs []) := Priv.nil A
  show xc _ _ _ _ _ _ (ov A [])
  refine xc_two fun N1 hN1 => ?_
  refine xc_reg1 2 rfl fun K hK => ?_
  simp only [show (List.range 2).map (·, true) = [(0, true), (1, true)] from rfl, rslv_cons, rslv_nil, List.getElem?_toArray, List.getElem?_cons_zero, List.getElem?_cons_succ, gres]
  refine seqX_hide2 fun R hR => ?_
  simp [go_sem, h1, h2, h3, h4]
  intro q4 hq4
  replace hP := hP.cons hq4
  clear hq4
  refine hR _ _ _ ?_; clear hR R
  refine seqX_hide2 fun R hR => ?_
  simp [go_sem, h1, h2, h3, h4]
  intro q5 hq5
  replace hP := hP.cons hq5
  clear hq5
  have d54 : q5 ≠ q4 := (hP.ne q4 (by simp [addrs])).1
  have d45 : q4 ≠ q5 := (hP.ne q4 (by simp [addrs])).2
  refine hR _ _ _ ?_; clear hR R
  rw [seqX_nil]
  refine hK _ _ _ ?_; clear hK K
  refine hN1 _ _ _ ?_
  refine xc_two fun N2 hN2 => ?_
  refine xc_reg1 2 rfl fun K hK => ?_
  simp only [show (List.range 2).map (·, true) = [(0, true), (1, true)] from rfl, rslv_cons, rslv_nil, List.getElem?_toArray, List.getElem?_cons_zero, List.getElem?_cons_succ, gres]
  (refine seqX_hide2 fun R hR => ?_; simp [go_sem, h1, h2, h3, h4, d54, d45]; refine hR _ _ _ ?_; clear hR R)
  refine seqX_hide2 fun R hR => ?_
  simp [go_sem, h1, h2, h3, h4, d54, d45, toDefer]
  refine hR _ _ _ ?_; clear hR R
  rw [seqX_nil]
  refine hK _ _ _ ?_; clear hK K
  refine hN2 _ _ _ ?_
  refine xc_two fun N3 hN3 => ?_
  refine xc_two fun N4 hN4 => ?_
  refine xc_reg1 8 rfl fun K hK => ?_
  simp only [show (List.range 8).map (·, true) = [(0, true), (1, true), (2, true), (3, true), (4, true), (5, true), (6, true), (7, true)] from rfl, rslv_cons, rslv_nil, List.getElem?_toArray, List.getElem?_cons_zero, List.getElem?_cons_succ, gres]
  iterate 8 (refine seqX_hide2 fun R hR => ?_; simp [go_sem, h1, h2, h3, h4, d54, d45]; refine hR _ _ _ ?_; clear hR R)
  rw [seqX_nil]
  refine hK _ _ _ ?_; clear hK K
  refine hN4 _ _ _ ?_
  refine xc_iffalse (by simp [go_sem, h1, h2, h3, h4, d54, d45]) ?_
  refine hN3 _ _ _ ?_
  refine xc_two fun N5 hN5 => ?_
  refine xc_reg1 8 rfl fun K hK => ?_
  simp only [show (List.range 8).map (·, true) = [(0, true), (1, true), (2, true), (3, true), (4, true), (5, true), (6, true), (7, true)] from rfl, rslv_cons, rslv_nil, List.getElem?_toArray, List.getElem?_cons_zero, List.getElem?_cons_succ, gres]
  iterate 2 (refine seqX_hide2 fun R hR => ?_; simp [go_sem, h1, h2, h3, h4, d54, d45]; refine hR _ _ _ ?_; clear hR R)
  refine seqX_hide2 fun R hR => ?_
  simp [go_sem, h1, h2, h3, h4, d54, d45]
  refine call_ov hP (door18 A p s (by omega) (by omega) ha1 ha2) ?_
  clear hP
  rintro _ D ⟨⟨res, hg, hr⟩, hAD⟩ hP
  have hidle : Idle Tryd.prog { target := .fn (.func 17) #[.pointer (some ⟨q4, 0, none⟩), .pointer (some ⟨q5, 0, none⟩)], args := #[] } := by
    intro w'
    exact ⟨_, _, 17, #[.pointer (some ⟨q4, 0, none⟩), .pointer (some ⟨q5, 0, none⟩)], rfl, by simp [go_sem, invoke], caught17 _ _ _⟩
  cases res with
  | none =>
    obtain ⟨i, y, rfl⟩ := hr
    refine hR _ _ _ ?_; clear hR R
    iterate 5 (refine seqX_hide2 fun R hR => ?_; simp [go_sem, h1, h2, h3, h4, d54, d45]; refine hR _ _ _ ?_; clear hR R)
    rw [seqX_nil]
    refine hK _ _ _ ?_; clear hK K
    refine hN5 _ _ _ ?_
    refine xc_two fun N6 hN6 => ?_
    refine xc_two fun N7 hN7 => ?_
    refine xc_reg1 2 rfl fun K hK => ?_
    simp only [show (List.range 2).map (·, true) = [(0, true), (1, true)] from rfl, rslv_cons, rslv_nil, List.getElem?_toArray, List.getElem?_cons_zero, List.getElem?_cons_succ, gres]
    iterate 2 (refine seqX_hide2 fun R hR => ?_; simp [go_sem, h1, h2, h3, h4, d54, d45]; refine hR _ _ _ ?_; clear hR R)
    rw [seqX_nil]
    refine hK _ _ _ ?_; clear hK K
    refine hN7 _ _ _ ?_
    refine xc_iftrue (by simp [go_sem, h1, h2, h3, h4, d54, d45]) ?_
    refine xc_two fun N8 hN8 => ?_
    refine xc_reg1 2 rfl fun K hK => ?_
    simp only [show (List.range 2).map (·, true) = [(0, true), (1, true)] from rfl, rslv_cons, rslv_nil, List.getElem?_toArray, List.getElem?_cons_zero, List.getElem?_cons_succ, gres]
    refine seqX_hide2 fun R hR => ?_
    simp [go_sem, h1, h2, h3, h4, d54, d45]
    refine hR _ _ _ ?_; clear hR R
    refine seqX_hide2 fun R hR => ?_
    simp [go_sem, h1, h2, h3, h4, d54, d45]
    refine hR _ _ _ ?_; clear hR R
    rw [seqX_nil]
    refine hK _ _ _ ?_; clear hK K
    refine hN8 _ _ _ ?_
    simp [go_sem, h1, h2, h3, h4, d54, d45]
    refine ⟨hidle, ⟨none, hg, rfl⟩, View.le_trans hAD ?_⟩
    exact le_ov hP
  | some b =>
    obtain rfl := hr
    refine hR _ _ _ ?_; clear hR R
    iterate 5 (refine seqX_hide2 fun R hR => ?_; simp [go_sem, h1, h2, h3, h4, d54, d45]; refine hR _ _ _ ?_; clear hR R)
    rw [seqX_nil]
    refine hK _ _ _ ?_; clear hK K
    refine hN5 _ _ _ ?_
    refine xc_two fun N6 hN6 => ?_
    refine xc_two fun N7 hN7 => ?_
    refine xc_reg1 2 rfl fun K hK => ?_
    simp only [show (List.range 2).map (·, true) = [(0, true), (1, true)] from rfl, rslv_cons, rslv_nil, List.getElem?_toArray, List.getElem?_cons_zero, List.getElem?_cons_succ, gres]
    iterate 2 (refine seqX_hide2 fun R hR => ?_; simp [go_sem, h1, h2, h3, h4, d54, d45]; refine hR _ _ _ ?_; clear hR R)
    rw [seqX_nil]
    refine hK _ _ _ ?_; clear hK K
    refine hN7 _ _ _ ?_
    refine xc_iffalse (by simp [go_sem, h1, h2, h3, h4, d54, d45]) ?_
    refine hN6 _ _ _ ?_
    refine xc_two fun N8 hN8 => ?_
    refine xc_reg1 3 rfl fun K hK => ?_
    simp only [show (List.range 3).map (·, true) = [(0, true), (1, true), (2, true)] from rfl, rslv_cons, rslv_nil, List.getElem?_toArray, List.getElem?_cons_zero, List.getElem?_cons_succ, gres]
    (refine seqX_hide2 fun R hR => ?_; simp [go_sem, h1, h2, h3, h4, d54, d45]; refine hR _ _ _ ?_; clear hR R)
    refine seqX_hide2 fun R hR => ?_
    simp [go_sem, h1, h2, h3, h4, d54, d45]
    refine hR _ _ _ ?_; clear hR R
    refine seqX_hide2 fun R hR => ?_
    simp [go_sem, h1, h2, h3, h4, d54, d45]
    refine hR _ _ _ ?_; clear hR R
    rw [seqX_nil]
    refine hK _ _ _ ?_; clear hK K
    refine hN8 _ _ _ ?_
    simp [go_sem, h1, h2, h3, h4, d54, d45]
    refine ⟨hidle, ⟨some b, hg, rfl⟩, View.le_trans hAD ?_⟩
    exact le_ov hP
end Go.Proofs.YthjbgpmcfcijgaaDoorV

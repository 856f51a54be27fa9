/- Tables: coalesceGlobals. -/
import Derived.Test.YtogfpbnbojhpoaaUT
import Derived.Test.YtogfpbnbojhpoaaUM
import Derived.Test.YtogfpbnbojhpoaaUR
namespace Go.Proofs.YtogfpbnbojhpoaaV
open Go.RowKit
set_option linter.unusedSimpArgs false
set_option linter.unusedVariables false
theorem at_tabnil : at' (tab []) = fun _ => none := funext fun k => by rw [at_tab]; rfl
/-- What the source has under global, as far as it is read. -/
structure SrcG (I : FP) (A : View) (w : RV) (r2 : Nat) (Fs : ByteArray → FP) (S R : FP) : Prop where
  obj : ∃ o2 f2, A r2 = some o2 ∧ MF o2 f2 ∧ (at' w gkey = none → f2 gkey = none) ∧ (∀ u, at' w gkey = some u → kindOf u ≠ 7 → ∃ y, f2 gkey = some y ∧ (y = .nilIface ∨ ∃ t z, y = .iface t z ∧ t ≠ 63)) ∧
    ∀ u, at' w gkey = some u → kindOf u = 7 → ∃ rg, f2 gkey = some (.iface 63 (.map (some rg))) ∧ GT I A (at' u) rg Fs S R
  dom : ∀ b, S b → A b ≠ none ∧ ¬ I b
set_option maxRecDepth 20000 in
set_option maxHeartbeats 8000000 in
theorem coal71 (I : FP) (A : View) (v w : RV) (r1 r2 : Nat) (F1 S R : FP) (Fs : ByteArray → FP) (s : ByteArray) (mg : Bool) (hT1 : TF I A r1 (at' v) F1) (hd1 : ∀ b, F1 b → A b ≠ none ∧ ¬ I b) (hIA : ∀ b, I b → A b ≠ none) (hW : SrcG I A w r2 Fs S R)
    (h1S : ∀ b, F1 b → ¬ S b) (h1R : ∀ b, F1 b → ¬ R b) (h7 : kindOf v = 7) (hG : Good v 50) (hG' : Good w 50) (hk : KB v) (hk' : KB w) (hs : s.size ≤ 11258999068426240) :
    VCalls Try.prog 71 #[.func (.func 68) #[] #[], .map (some r1), .map (some r2), .string s, .bool mg] A fun r A' => Out A A' F1 S ∧ (∀ b, A b ≠ none → A' b ≠ none) ∧ ∃ F', TF I A' r1 (at' (globR v w)) F' ∧ ∀ b, F' b → (F1 b ∨ S b ∨ A b = none) ∧ A' b ≠ none := by
  obtain ⟨⟨o2, f2, hA2, hm2, w0, wf, wt⟩, hSd⟩ := hW
  obtain ⟨o1, f1, hA1, hm1, i1, v0, v1⟩ := hT1.get
  obtain ⟨G0, hG0, hG1, hback⟩ := hT1.swap hA1 hm1 gkey
  have hsame : ¬ (kindOf (gtab (at' v gkey)) = 7 ∧ kindOf (gtab (at' w gkey)) = 7) → ∀ (A' : View), A ≤ A' → Out A A' F1 S ∧ (∀ b, A b ≠ none → A' b ≠ none) ∧ ∃ F', TF I A' r1 (at' (globR v w)) F' ∧ ∀ b, F' b → (F1 b ∨ S b ∨ A b = none) ∧ A' b ≠ none := fun hn A' hle => by
    refine ⟨fun b o h _ _ => hle _ _ h, fun b hb hz => hb (none_le hle hz), F1, ?_, fun b hb => ⟨.inl hb, fun hz => (hd1 b hb).1 (none_le hle hz)⟩⟩
    unfold globR
    rw [if_neg hn]
    exact hT1.le hle
  refine xcalls Try.func71 rfl (by simp [Try.ntmps71]) ?_
  simp only [Try.f71]
  have hP : Priv A (addrs []) := Priv.nil A
  show xc _ _ _ _ _ _ (ov A [])
  refine xc_two fun N1 hN1 => ?_
  refine xc_reg1 2 rfl fun K hK => ?_
  simp only [show (List.range 2).map (·, true) = [(0, true), (1, true)] from rfl, rslv_cons, rslv_nil, List.getElem?_toArray, List.getElem?_cons_zero, List.getElem?_cons_succ, gres]
  iterate 2 (refine seqX_hide2 fun R hR => ?_; simp [go_sem, mlk ti63 ti9 (z := .nilIface) (by simp [zeroOf, ti20]) hP hA1 hm1, mlk ti63 ti9 (z := .nilIface) (by simp [zeroOf, ti20]) hP hA2 hm2]; refine hR _ _ _ ?_; clear hR R)
  rw [seqX_nil]
  refine hK _ _ _ ?_; clear hK K
  refine hN1 _ _ _ ?_
  refine xc_two fun N2 hN2 => ?_
  refine xc_two fun N3 hN3 => ?_
  refine xc_reg1 7 rfl fun K hK => ?_
  simp only [show (List.range 7).map (·, true) = [(0, true), (1, true), (2, true), (3, true), (4, true), (5, true), (6, true)] from rfl, rslv_cons, rslv_nil, List.getElem?_toArray, List.getElem?_cons_zero, List.getElem?_cons_succ, gres]
  iterate 7 (refine seqX_hide2 fun R hR => ?_; simp [go_sem, mlk ti63 ti9 (z := .nilIface) (by simp [zeroOf, ti20]) hP hA1 hm1, mlk ti63 ti9 (z := .nilIface) (by simp [zeroOf, ti20]) hP hA2 hm2]; refine hR _ _ _ ?_; clear hR R)
  rw [seqX_nil]
  refine hK _ _ _ ?_; clear hK K
  refine hN3 _ _ _ ?_
  refine xc_two fun N4 hN4 => ?_
  refine xc_reg1 2 rfl fun K hK => ?_
  simp only [show (List.range 2).map (·, true) = [(0, true), (1, true)] from rfl, rslv_cons, rslv_nil, List.getElem?_toArray, List.getElem?_cons_zero, List.getElem?_cons_succ, gres]
  iterate 2 (refine seqX_hide2 fun R hR => ?_; simp [go_sem, mlk ti63 ti9 (z := .nilIface) (by simp [zeroOf, ti20]) hP hA1 hm1, mlk ti63 ti9 (z := .nilIface) (by simp [zeroOf, ti20]) hP hA2 hm2]; refine hR _ _ _ ?_; clear hR R)
  rw [seqX_nil]
  refine hK _ _ _ ?_; clear hK K
  refine hN4 _ _ _ ?_
  have mid : ∀ (rd : Nat) (gv : RV) (D : View) (Fd : FP) (e : Env), Priv D [] → e 0 = .func (.func 68) #[] #[] → e 1 = .map (some r1) → e 2 = .map (some r2) → e 3 = .string s → e 10 = .map (some rd) → (A ≤ D) → (kindOf gv = 7) → (gv = gtab (at' v gkey)) → (TF I D rd (at' gv) Fd) → (∀ b, Fd b → (G0 b ∨ A b = none) ∧ D b ≠ none) → N2 e [] (ov D []) := by
    clear hP
    intro rd gv D Fd e hP g0 g1 g2 g3 g10 hAD k1 hgv hTd hFd
    refine hN2 _ _ _ ?_
    have hD1 := hAD _ _ hA1
    have hD2 := hAD _ _ hA2
    refine xc_two fun N5 hN5 => ?_
    refine xc_two fun N6 hN6 => ?_
    refine xc_reg1 7 rfl fun K hK => ?_
    simp only [show (List.range 7).map (·, true) = [(0, true), (1, true), (2, true), (3, true), (4, true), (5, true), (6, true)] from rfl, rslv_cons, rslv_nil, List.getElem?_toArray, List.getElem?_cons_zero, List.getElem?_cons_succ, gres]
    iterate 7 (refine seqX_hide2 fun R hR => ?_; simp [go_sem, g0, g1, g2, g3, g10, mlk ti63 ti9 (z := .nilIface) (by simp [zeroOf, ti20]) hP hD2 hm2]; refine hR _ _ _ ?_; clear hR R)
    rw [seqX_nil]
    refine hK _ _ _ ?_; clear hK K
    refine hN6 _ _ _ ?_
    refine xc_two fun N7 hN7 => ?_
    refine xc_reg1 2 rfl fun K hK => ?_
    simp only [show (List.range 2).map (·, true) = [(0, true), (1, true)] from rfl, rslv_cons, rslv_nil, List.getElem?_toArray, List.getElem?_cons_zero, List.getElem?_cons_succ, gres]
    iterate 2 (refine seqX_hide2 fun R hR => ?_; simp [go_sem, g0, g1, g2, g3, g10, mlk ti63 ti9 (z := .nilIface) (by simp [zeroOf, ti20]) hP hD2 hm2]; refine hR _ _ _ ?_; clear hR R)
    rw [seqX_nil]
    refine hK _ _ _ ?_; clear hK K
    refine hN7 _ _ _ ?_
    have rng : ∀ (rg : Nat) (gw : RV) (D2 : View) (Fs' : ByteArray → FP) (R' : FP) (e : Env), Priv D2 [] → e 0 = .func (.func 68) #[] #[] → e 1 = .map (some r1) → e 3 = .string s → e 10 = .map (some rd) → e 11 = .map (some rg) → (D ≤ D2) → (kindOf gw = 7) → (gw = gtab (at' w gkey)) → (GT I D2 (at' gw) rg Fs' S R') → (∀ b, Fd b → ¬ R' b) → N5 e [] (ov D2 []) := by
      clear g0 g1 g2 g3 g10
      clear hP
      intro rg gw D2 Fs' R' e hP g0 g1 g3 g10 g11 hDD k2 hgw hGT hFR
      refine hN5 _ _ _ ?_
      have hAD2 := View.le_trans hAD hDD
      have hTd2 := hTd.le hDD
      have hIA2 : ∀ b, I b → D2 b ≠ none := fun b hb hz => hIA b hb (none_le hAD2 hz)
      have hFdS : ∀ b, Fd b → ¬ S b := fun b hb hx => by
        rcases (hFd b hb).1 with h | h
        · exact h1S b (hG0 b h).1 hx
        · exact (hSd b hx).1 h
      have hFdI : ∀ b, Fd b → ¬ I b := fun b hb hx => by
        rcases (hFd b hb).1 with h | h
        · exact (hd1 b (hG0 b h).1).2 hx
        · exact hIA b hx h
      have hFdn : ∀ b, Fd b → D2 b ≠ none := fun b hb hz => (hFd b hb).2 (none_le hDD hz)
      have hGv : Good gv 49 := by rw [hgv]; exact good_gtab hG (by decide)
      have hGw : Good gw 49 := by rw [hgw]; exact good_gtab hG' (by decide)
      have hkt : KB (tab []) := by
        unfold tab
        rw [KB]
        exact ⟨fun k hk => absurd hk (by simp), fun j hj => absurd hj (Nat.not_lt_zero _)⟩
      have hKv : KB gv := by
        rw [hgv]; unfold gtab
        cases h : at' v gkey with
        | none => exact hkt
        | some y => exact (hk.at h).1
      have hKw : KB gw := by
        rw [hgw]; unfold gtab
        cases h : at' w gkey with
        | none => exact hkt
        | some y => exact (hk'.at h).1
      have hGT0 := hGT
      obtain ⟨⟨og, fg, hAg, hmg, gw0, gwf, gwt⟩, hRg, hsub, hpair, hdisj, hSd2, hRd⟩ := hGT
      have hFI : ∀ {todo : TD} {D : View} {F : FP}, GH I D2 gv gw rd Fd S R' Fs' todo D F → ∀ b, F b → ¬ I b := fun h => GH.nI hGT0 hFdI hIA2 h
      have hsame2 : ∀ {todo : TD} {D : View} {F : FP}, GH I D2 gv gw rd Fd S R' Fs' todo D F → ∀ b o, R' b → D2 b = some o → D b = some o := fun h => GH.same hGT0 hFR h
      refine xc_two fun N8 hN8 => ?_
      refine xc_two fun N9 hN9 => ?_
      refine xc_reg1 2 rfl fun K hK => ?_
      simp only [show (List.range 2).map (·, true) = [(0, true), (1, true)] from rfl, rslv_cons, rslv_nil, List.getElem?_toArray, List.getElem?_cons_zero, List.getElem?_cons_succ, gres]
      (refine seqX_hide2 fun R hR => ?_; simp [go_sem, g0, g1, g3, g10, g11]; refine hR _ _ _ ?_; clear hR R)
      refine seqX_hide2 fun R hR => ?_
      simp [go_sem, g0, g1, g3, g10, g11]
      refine xrangeM (o := og) (f := fg) hP (ov_base hP hAg) hmg (kt := 9) (et := 20) (by kernel_rfl) (by simp [go_sem, g11]) ?_
      clear hP
      rintro q65 oi kv hkd hkm hI hP
      have hH0 : GH I D2 gv gw rd Fd S R' Fs' kv D2 Fd := by
        refine ⟨hTd2.ext fun k => ?_, fun p _ b hb hx => hFdS b hx (hsub _ b hb), fun b hb => ⟨.inl hb, hFdn b hb⟩, fun p _ b o _ hx => hx, fun b o hx _ _ => hx, fun b hb => hb⟩
        unfold gcur
        split
        · rfl
        · rename_i hk
          cases hw : at' gw k with
          | none => rw [cellG]
          | some u =>
            exfalso
            by_cases h7u : kindOf u = 7
            · obtain ⟨r, o, f, e1, _⟩ := gwt k u hw h7u
              exact hk (List.mem_map.2 ⟨_, (hkm k _).2 e1, rfl⟩)
            · obtain ⟨y, e1, _⟩ := gwf k u hw h7u
              exact hk (List.mem_map.2 ⟨_, (hkm k _).2 e1, rfl⟩)
      refine hR _ _ _ ?_; clear hR R
      rw [seqX_nil]
      refine hK _ _ _ ?_; clear hK K
      refine hN9 _ _ _ ?_
      rw [xc_block]
      rw [xc_loop]
      refine vloopK (fun k' e ds A' => ∃ (todo : TD) (D : View) (F : FP) (oi : Obj), k' = todo.length ∧ ds = [] ∧ A' = ov D [(q65, oi)] ∧ Priv D [q65] ∧ e 0 = .func (.func 68) #[] #[] ∧ e 1 = .map (some r1) ∧ e 3 = .string s ∧ e 10 = .map (some rd) ∧ e 11 = .map (some rg) ∧ e 65 = .pointer (some ⟨q65, 0, none⟩) ∧ (MIt oi og rg todo) ∧ (todo.Pairwise (fun a b => a.1 ≠ b.1)) ∧ (∀ p ∈ todo, fg p.1 = some p.2) ∧ (GH I D2 gv gw rd Fd S R' Fs' todo D F)) _ ⟨kv, D2, Fd, oi, rfl, rfl, rfl, hP, by simp [go_sem, g0, g1, g3, g10, g11], by simp [go_sem, g0, g1, g3, g10, g11], by simp [go_sem, g0, g1, g3, g10, g11], by simp [go_sem, g0, g1, g3, g10, g11], by simp [go_sem, g0, g1, g3, g10, g11], by simp [go_sem, g0, g1, g3, g10, g11], hI, hkd, fun p hp => (hkm p.1 p.2).1 hp, hH0⟩ ?_
      clear g0 g1 g3 g10 g11
      clear hP
      rintro k' e ds _ ⟨todo, D, F, oi, rfl, rfl, rfl, hP, g0, g1, g3, g10, g11, g65, hI, hnd, hmem, hH⟩ J1 X1 hJ1 hX1
      refine xc_sound _ ?_
      have hDg := hsame2 hH rg og hRg hAg
      refine xc_two fun N10 hN10 => ?_
      refine xc_reg1 2 rfl fun K hK => ?_
      simp only [show (List.range 2).map (·, true) = [(0, true), (1, true)] from rfl, rslv_cons, rslv_nil, List.getElem?_toArray, List.getElem?_cons_zero, List.getElem?_cons_succ, gres]
      refine seqX_hide2 fun R hR => ?_
      simp [go_sem, g0, g1, g3, g10, g11, g65]
      refine xnextH (ov_base hP hDg) hmg hI (by simp [go_sem, g65]) (fun h0 => ?_) (fun pk pv rest oi' hp hI2 hAt => ?_)
      rotate_left
      · have hfk := hmem _ (mem_here hp)
        simp only at hfk
        have hlen := hp.length_eq
        rw [List.length_cons] at hlen
        have hmem' : ∀ p ∈ rest, fg p.1 = some p.2 := fun q hq => hmem q (mem_rest hp hq)
        have hnd' := (nd_rest hp hnd).1
        have hgh := gcur_here (v := gv) (w := gw) (C := cellG) hp
        refine hR _ _ _ ?_; clear hR R
        (refine seqX_hide2 fun R hR => ?_; simp [go_sem, g0, g1, g3, g10, g11, g65]; refine hR _ _ _ ?_; clear hR R)
        rw [seqX_nil]
        refine hK _ _ _ ?_; clear hK K
        refine hN10 _ _ _ ?_
        refine xc_two fun N11 hN11 => ?_
        refine xc_iftrue (by simp [go_sem, g0, g1, g3, g10, g11, g65]) ?_
        refine hN11 _ _ _ ?_
        rw [xc_block]
        refine xc_two fun N12 hN12 => ?_
        refine xc_reg1 5 rfl fun K hK => ?_
        simp only [show (List.range 5).map (·, true) = [(0, true), (1, true), (2, true), (3, true), (4, true)] from rfl, rslv_cons, rslv_nil, List.getElem?_toArray, List.getElem?_cons_zero, List.getElem?_cons_succ, gres]
        refine seqX_hide2 fun R hR => ?_
        simp [go_sem, g0, g1, g3, g10, g11, g65]
        refine xentryH (ov_base hP hDg) hAt (by simp [go_sem, g65]) ?_
        refine hR _ _ _ ?_; clear hR R
        iterate 4 (refine seqX_hide2 fun R hR => ?_; simp [go_sem, g0, g1, g3, g10, g11, g65]; refine hR _ _ _ ?_; clear hR R)
        rw [seqX_nil]
        refine hK _ _ _ ?_; clear hK K
        refine hN12 _ _ _ ?_
        refine xc_two fun N13 hN13 => ?_
        refine xc_reg1 2 rfl fun K hK => ?_
        simp only [show (List.range 2).map (·, true) = [(0, true), (1, true)] from rfl, rslv_cons, rslv_nil, List.getElem?_toArray, List.getElem?_cons_zero, List.getElem?_cons_succ, gres]
        (refine seqX_hide2 fun R hR => ?_; simp [go_sem, g0, g1, g3, g10, g11, g65]; refine hR _ _ _ ?_; clear hR R)
        refine seqX_hide2 fun R hR => ?_
        simp [go_sem, g0, g1, g3, g10, g11, g65]
        cases hw : at' gw pk with
        | none => rw [gw0 pk hw] at hfk; cases hfk
        | some u =>
        by_cases h7u : kindOf u = 7
        · obtain ⟨rk, ok, fk, e1, hRk, hAk, hmk, hCP⟩ := gwt pk u hw h7u
          rw [hfk, Option.some.injEq] at e1
          subst e1
          have hDk := hsame2 hH rk ok hRk hAk
          refine call_same hP (istable80 D _ (.inr ⟨_, _, rfl⟩)) ?_
          rintro _ rfl
          have hi63 : is63 (.iface 63 (.map (some rk))) = true := rfl
          refine hR _ _ _ ?_; clear hR R
          rw [seqX_nil]
          refine hK _ _ _ ?_; clear hK K
          refine hN13 _ _ _ ?_
          refine xc_iftrue (by simp [go_sem, g0, g1, g3, g10, g11, g65, hi63]) ?_
          refine xc_two fun N14 hN14 => ?_
          refine xc_reg1 4 rfl fun K hK => ?_
          simp only [show (List.range 4).map (·, true) = [(0, true), (1, true), (2, true), (3, true)] from rfl, rslv_cons, rslv_nil, List.getElem?_toArray, List.getElem?_cons_zero, List.getElem?_cons_succ, gres]
          iterate 2 (refine seqX_hide2 fun R hR => ?_; simp [go_sem, g0, g1, g3, g10, g11, g65, hi63]; refine hR _ _ _ ?_; clear hR R)
          refine seqX_hide2 fun R hR => ?_
          simp [go_sem, g0, g1, g3, g10, g11, g65, hi63]
          refine call_ov hP (copy82 D rk ok fk hDk hmk) ?_
          clear hP
          rintro _ D1 ⟨r', o', rfl, hDD1, hn', hr', ho'⟩ hP
          have hH1 := hH.le hDD1
          have hFs1 : ∀ b o, Fs' pk b → D2 b = some o → D1 b = some o := fun b o hb hx => hDD1 _ _ (hH.keep _ (mem_here hp) b o hb hx)
          have hI1 : ∀ b o, I b → D2 b = some o → D1 b = some o := fun b o hb hx => hDD1 _ _ (hH.out b o hx (fun h => hFdI b h hb) fun h => (hSd b h).2 hb)
          have hr'n : ¬ Fs' pk r' := fun h => hH.dom r' (hSd2 r' (hsub _ _ h)).1 hn'
          have hTv : TF I D1 r' (at' u) (fun b => b = r' ∨ Fs' pk b) := hCP D1 r' o' hI1 hFs1 hr'n hr' ho'
          obtain ⟨oT, fT, gT1, gT2, gT3, gT4, gT5⟩ := hH1.t.get
          obtain ⟨G, hGs, hGu, hsw⟩ := hH1.t.swap gT1 gT2 pk
          have hFr' : ¬ F r' := fun h => (hH.fs r' h).2 hn'
          have hVF : ∀ b, (b = r' ∨ Fs' pk b) → ¬ F b := fun b hb hx => by
            rcases hb with rfl | hb
            · exact hFr' hx
            · exact hH.fd _ (mem_here hp) b hb hx
          have hVn : ∀ b, (b = r' ∨ Fs' pk b) → D1 b ≠ none := fun b hb hz => by
            rcases hb with rfl | hb
            · rw [hr'] at hz; cases hz
            · exact hH1.dom b (hSd2 b (hsub _ _ hb)).1 hz
          cases hv : at' gv pk with
          | none =>
            have hfT := gT4 pk (hgh.trans hv)
            refine hR _ _ _ ?_; clear hR R
            (refine seqX_hide2 fun R hR => ?_; simp [go_sem, g0, g1, g3, g10, g11, g65, hi63, mlk ti63 ti9 (z := .nilIface) (by simp [zeroOf, ti20]) hP gT1 gT2, hfT]; refine hR _ _ _ ?_; clear hR R)
            rw [seqX_nil]
            refine hK _ _ _ ?_; clear hK K
            refine hN14 _ _ _ ?_
            refine xc_two fun N15 hN15 => ?_
            refine xc_reg1 8 rfl fun K hK => ?_
            simp only [show (List.range 8).map (·, true) = [(0, true), (1, true), (2, true), (3, true), (4, true), (5, true), (6, true), (7, true)] from rfl, rslv_cons, rslv_nil, List.getElem?_toArray, List.getElem?_cons_zero, List.getElem?_cons_succ, gres]
            iterate 8 (refine seqX_hide2 fun R hR => ?_; simp [go_sem, g0, g1, g3, g10, g11, g65, hi63, mlk ti63 ti9 (z := .nilIface) (by simp [zeroOf, ti20]) hP gT1 gT2, hfT]; refine hR _ _ _ ?_; clear hR R)
            rw [seqX_nil]
            refine hK _ _ _ ?_; clear hK K
            refine hN15 _ _ _ ?_
            refine xc_two fun N16 hN16 => ?_
            refine xc_reg1 2 rfl fun K hK => ?_
            simp only [show (List.range 2).map (·, true) = [(0, true), (1, true)] from rfl, rslv_cons, rslv_nil, List.getElem?_toArray, List.getElem?_cons_zero, List.getElem?_cons_succ, gres]
            iterate 2 (refine seqX_hide2 fun R hR => ?_; simp [go_sem, g0, g1, g3, g10, g11, g65, hi63, mlk ti63 ti9 (z := .nilIface) (by simp [zeroOf, ti20]) hP gT1 gT2, hfT]; refine hR _ _ _ ?_; clear hR R)
            rw [seqX_nil]
            refine hK _ _ _ ?_; clear hK K
            refine hN16 _ _ _ ?_
            refine xc_iftrue (by simp [go_sem, g0, g1, g3, g10, g11, g65, hi63, mlk ti63 ti9 (z := .nilIface) (by simp [zeroOf, ti20]) hP gT1 gT2, hfT]) ?_
            refine xc_reg1 5 rfl fun K hK => ?_
            simp only [show (List.range 5).map (·, true) = [(0, true), (1, true), (2, true), (3, true), (4, true)] from rfl, rslv_cons, rslv_nil, List.getElem?_toArray, List.getElem?_cons_zero, List.getElem?_cons_succ, gres]
            iterate 4 (refine seqX_hide2 fun R hR => ?_; simp [go_sem, g0, g1, g3, g10, g11, g65, hi63, mlk ti63 ti9 (z := .nilIface) (by simp [zeroOf, ti20]) hP gT1 gT2, hfT]; refine hR _ _ _ ?_; clear hR R)
            refine seqX_hide2 fun R hR => ?_
            simp [go_sem, g0, g1, g3, g10, g11, g65, hi63, mlk ti63 ti9 (z := .nilIface) (by simp [zeroOf, ti20]) hP gT1 gT2, hfT]
            refine mapset_bgoal hP gT1 gT2 (by simp [strMap, ti63, ti9]) ?_
            clear hP
            rintro o9 ho9 hP
            refine hR _ _ _ ?_; clear hR R
            rw [seqX_nil]
            refine hK _ _ _ ?_; clear hK K
            refine hJ1 ((rest).length) _ _ _ (by omega) ⟨rest, _, _, oi', rfl, rfl, rfl, hP, by simp [go_sem, g0, g1, g3, g10, g11, g65, hi63, hfT], by simp [go_sem, g0, g1, g3, g10, g11, g65, hi63, hfT], by simp [go_sem, g0, g1, g3, g10, g11, g65, hi63, hfT], by simp [go_sem, g0, g1, g3, g10, g11, g65, hi63, hfT], by simp [go_sem, g0, g1, g3, g10, g11, g65, hi63, hfT], by simp [go_sem, g0, g1, g3, g10, g11, g65, hi63, hfT], hI2, hnd', hmem', GH.set (E := fun _ => False) hGT0 hH hp hnd (hsw D1 u _ (fun b => b = r' ∨ Fs' pk b) o9 ho9 (fun h => hFI hH rd hH.t.inn h) (fun b o _ hx => hx) (fun b o _ hx _ => hx) (TF.ov h7u hTv) fun b hb => .inr (hVF b hb)) (by rw [hv, hw]; rfl) hGs (fun b o hx _ _ => hDD1 _ _ hx) (fun b h => h.elim) (fun b hb hz => hb (none_le hDD1 hz)) fun b hb => ⟨hb.elim (fun h => .inr (.inr (h ▸ hn'))) fun h => .inr (.inl h), hVn b hb⟩⟩
          | some x =>
            obtain ⟨yv, hfT, hov⟩ := hGu x (hgh.trans hv)
            have hyi := hov.iface
            have hxis := hov.is63
            by_cases hx7 : kindOf x = 7
            · obtain ⟨rx, rfl, hTx⟩ := hov.tf hx7
              refine hR _ _ _ ?_; clear hR R
              (refine seqX_hide2 fun R hR => ?_; simp [go_sem, g0, g1, g3, g10, g11, g65, hi63, mlk ti63 ti9 (z := .nilIface) (by simp [zeroOf, ti20]) hP gT1 gT2, hfT]; refine hR _ _ _ ?_; clear hR R)
              rw [seqX_nil]
              refine hK _ _ _ ?_; clear hK K
              refine hN14 _ _ _ ?_
              refine xc_two fun N15 hN15 => ?_
              refine xc_reg1 8 rfl fun K hK => ?_
              simp only [show (List.range 8).map (·, true) = [(0, true), (1, true), (2, true), (3, true), (4, true), (5, true), (6, true), (7, true)] from rfl, rslv_cons, rslv_nil, List.getElem?_toArray, List.getElem?_cons_zero, List.getElem?_cons_succ, gres]
              iterate 8 (refine seqX_hide2 fun R hR => ?_; simp [go_sem, g0, g1, g3, g10, g11, g65, hi63, mlk ti63 ti9 (z := .nilIface) (by simp [zeroOf, ti20]) hP gT1 gT2, hfT]; refine hR _ _ _ ?_; clear hR R)
              rw [seqX_nil]
              refine hK _ _ _ ?_; clear hK K
              refine hN15 _ _ _ ?_
              refine xc_two fun N16 hN16 => ?_
              refine xc_reg1 2 rfl fun K hK => ?_
              simp only [show (List.range 2).map (·, true) = [(0, true), (1, true)] from rfl, rslv_cons, rslv_nil, List.getElem?_toArray, List.getElem?_cons_zero, List.getElem?_cons_succ, gres]
              iterate 2 (refine seqX_hide2 fun R hR => ?_; simp [go_sem, g0, g1, g3, g10, g11, g65, hi63, mlk ti63 ti9 (z := .nilIface) (by simp [zeroOf, ti20]) hP gT1 gT2, hfT]; refine hR _ _ _ ?_; clear hR R)
              rw [seqX_nil]
              refine hK _ _ _ ?_; clear hK K
              refine hN16 _ _ _ ?_
              refine xc_iffalse (by simp [go_sem, g0, g1, g3, g10, g11, g65, hi63, mlk ti63 ti9 (z := .nilIface) (by simp [zeroOf, ti20]) hP gT1 gT2, hfT]) ?_
              refine xc_two fun N17 hN17 => ?_
              refine xc_reg1 7 rfl fun K hK => ?_
              simp only [show (List.range 7).map (·, true) = [(0, true), (1, true), (2, true), (3, true), (4, true), (5, true), (6, true)] from rfl, rslv_cons, rslv_nil, List.getElem?_toArray, List.getElem?_cons_zero, List.getElem?_cons_succ, gres]
              iterate 7 (refine seqX_hide2 fun R hR => ?_; simp [go_sem, g0, g1, g3, g10, g11, g65, hi63, mlk ti63 ti9 (z := .nilIface) (by simp [zeroOf, ti20]) hP gT1 gT2, hfT]; refine hR _ _ _ ?_; clear hR R)
              rw [seqX_nil]
              refine hK _ _ _ ?_; clear hK K
              refine hN17 _ _ _ ?_
              refine xc_two fun N18 hN18 => ?_
              refine xc_reg1 2 rfl fun K hK => ?_
              simp only [show (List.range 2).map (·, true) = [(0, true), (1, true)] from rfl, rslv_cons, rslv_nil, List.getElem?_toArray, List.getElem?_cons_zero, List.getElem?_cons_succ, gres]
              iterate 2 (refine seqX_hide2 fun R hR => ?_; simp [go_sem, g0, g1, g3, g10, g11, g65, hi63, mlk ti63 ti9 (z := .nilIface) (by simp [zeroOf, ti20]) hP gT1 gT2, hfT]; refine hR _ _ _ ?_; clear hR R)
              rw [seqX_nil]
              refine hK _ _ _ ?_; clear hK K
              refine hN18 _ _ _ ?_
              refine xc_iffalse (by simp [go_sem, g0, g1, g3, g10, g11, g65, hi63, mlk ti63 ti9 (z := .nilIface) (by simp [zeroOf, ti20]) hP gT1 gT2, hfT]) ?_
              refine xc_two fun N19 hN19 => ?_
              refine xc_reg1 4 rfl fun K hK => ?_
              simp only [show (List.range 4).map (·, true) = [(0, true), (1, true), (2, true), (3, true)] from rfl, rslv_cons, rslv_nil, List.getElem?_toArray, List.getElem?_cons_zero, List.getElem?_cons_succ, gres]
              iterate 2 (refine seqX_hide2 fun R hR => ?_; simp [go_sem, g0, g1, g3, g10, g11, g65, hi63, mlk ti63 ti9 (z := .nilIface) (by simp [zeroOf, ti20]) hP gT1 gT2, hfT]; refine hR _ _ _ ?_; clear hR R)
              refine seqX_hide2 fun R hR => ?_
              simp [go_sem, g0, g1, g3, g10, g11, g65, hi63, mlk ti63 ti9 (z := .nilIface) (by simp [zeroOf, ti20]) hP gT1 gT2, hfT]
              have hpk : pk.size ≤ 1125899906842624 := (hKv.at hv).2
              refine call_same hP (concat79 D1 s pk (by omega)) ?_
              rintro _ ⟨s', rfl, hs'⟩
              refine hR _ _ _ ?_; clear hR R
              (refine seqX_hide2 fun R hR => ?_; simp [go_sem, g0, g1, g3, g10, g11, g65, hi63, mlk ti63 ti9 (z := .nilIface) (by simp [zeroOf, ti20]) hP gT1 gT2, hfT]; refine hR _ _ _ ?_; clear hR R)
              rw [seqX_nil]
              refine hK _ _ _ ?_; clear hK K
              refine hN19 _ _ _ ?_
              refine xc_two fun N20 hN20 => ?_
              refine xc_reg1 5 rfl fun K hK => ?_
              simp only [show (List.range 5).map (·, true) = [(0, true), (1, true), (2, true), (3, true), (4, true)] from rfl, rslv_cons, rslv_nil, List.getElem?_toArray, List.getElem?_cons_zero, List.getElem?_cons_succ, gres]
              iterate 4 (refine seqX_hide2 fun R hR => ?_; simp [go_sem, g0, g1, g3, g10, g11, g65, hi63, mlk ti63 ti9 (z := .nilIface) (by simp [zeroOf, ti20]) hP gT1 gT2, hfT]; refine hR _ _ _ ?_; clear hR R)
              refine seqX_hide2 fun R hR => ?_
              simp [go_sem, g0, g1, g3, g10, g11, g65, hi63, mlk ti63 ti9 (z := .nilIface) (by simp [zeroOf, ti20]) hP gT1 gT2, hfT]
              have hGF : ∀ b, G b → F b := fun b hb => (hGs b hb).1
              refine call_ov hP (coal67 x I D1 u r' rx (fun b => b = r' ∨ Fs' pk b) G s' true 48 48 hTv hTx (fun b hb hx => hVF b hb (hGF b hx)) (fun b hb => ⟨hVn b hb, fun hi => ?_⟩) (fun b hb => ⟨(hH1.fs b (hGF b hb)).2, hFI hH b (hGF b hb)⟩) (fun b hb hz => hIA2 b hb ?_) h7u hx7 (good_at hGw hw) (good_at hGv hv) (hKw.at hw).1 (hKv.at hv).1 (by decide) (by omega)) ?_
              · rcases hb with rfl | hb
                · exact hH.dom b (hIA2 b hi) hn'
                · exact (hSd b (hsub _ _ hb)).2 hi
              · cases hq : D2 b with
                | none => rfl
                | some o => exact absurd hz (hH1.dom b (by rw [hq]; simp))
              clear hP
              rintro _ D3 ⟨rfl, hO3, hdm3, F3, hT3, hF3⟩ hP
              have hRd3 : D3 rd = some oT := hO3 rd oT gT1 (fun h => hVF rd h hH.t.inn) fun h => (hGs rd h).2 rfl
              have hI3 : ∀ b o, I b → D1 b = some o → D3 b = some o := fun b o hb hx => hO3 b o hx (fun h => ?_) fun h => hFI hH b (hGF b h) hb
              · skip
                refine hR _ _ _ ?_; clear hR R
                rw [seqX_nil]
                refine hK _ _ _ ?_; clear hK K
                refine hN20 _ _ _ ?_
                refine xc_reg1 5 rfl fun K hK => ?_
                simp only [show (List.range 5).map (·, true) = [(0, true), (1, true), (2, true), (3, true), (4, true)] from rfl, rslv_cons, rslv_nil, List.getElem?_toArray, List.getElem?_cons_zero, List.getElem?_cons_succ, gres]
                iterate 4 (refine seqX_hide2 fun R hR => ?_; simp [go_sem, g0, g1, g3, g10, g11, g65, hi63, hfT]; refine hR _ _ _ ?_; clear hR R)
                refine seqX_hide2 fun R hR => ?_
                simp [go_sem, g0, g1, g3, g10, g11, g65, hi63, hfT]
                refine mapset_bgoal hP hRd3 gT2 (by simp [strMap, ti63, ti9]) ?_
                clear hP
                rintro o9 ho9 hP
                refine hR _ _ _ ?_; clear hR R
                rw [seqX_nil]
                refine hK _ _ _ ?_; clear hK K
                refine hJ1 ((rest).length) _ _ _ (by omega) ⟨rest, _, _, oi', rfl, rfl, rfl, hP, by simp [go_sem, g0, g1, g3, g10, g11, g65, hi63, hfT], by simp [go_sem, g0, g1, g3, g10, g11, g65, hi63, hfT], by simp [go_sem, g0, g1, g3, g10, g11, g65, hi63, hfT], by simp [go_sem, g0, g1, g3, g10, g11, g65, hi63, hfT], by simp [go_sem, g0, g1, g3, g10, g11, g65, hi63, hfT], by simp [go_sem, g0, g1, g3, g10, g11, g65, hi63, hfT], hI2, hnd', hmem', GH.set (E := fun b => b = r' ∨ Fs' pk b) (G := G) hGT0 hH hp hnd (hsw D3 (coalR u true x) _ F3 o9 ho9 (fun h => hFI hH rd hH.t.inn h) hI3 (fun b o hb hx hg => hO3 b o hx (fun h => hVF b h hb) hg) (TF.ov (kind_coalR h7u hx7 (good_at hGv hv)) hT3) fun b hb => ?_) (by rw [hv, hw]; simp [cellG, hx7, h7u]) hGs (fun b o hx h1 h2 => hO3 b o (hDD1 _ _ hx) h2 h1) (fun b h => h.elim (fun h => .inr (h ▸ hn')) .inl) (fun b hb => hdm3 b fun hz => hb (none_le hDD1 hz)) fun b hb => ⟨?_, (hF3 b hb).2⟩⟩
                · rcases (hF3 b hb).1 with h | h | h
                  · exact .inr (hVF b h)
                  · exact .inl h
                  · exact .inr fun hx => (hH1.fs b hx).2 h
                · rcases (hF3 b hb).1 with h | h | h
                  · exact h.elim (fun h => .inr (.inr (h ▸ hn'))) fun h => .inr (.inl h)
                  · exact .inl (hGF b h)
                  · exact .inr (.inr (none_le hDD1 h))
              · rcases h with rfl | h
                · exact hH.dom b (hIA2 b hb) hn'
                · exact (hSd b (hsub _ _ h)).2 hb
            · rw [decide_eq_false hx7] at hxis
              rcases hyi with rfl | ⟨ty, yz, rfl⟩
              · skip
                refine hR _ _ _ ?_; clear hR R
                (refine seqX_hide2 fun R hR => ?_; simp [go_sem, g0, g1, g3, g10, g11, g65, hi63, mlk ti63 ti9 (z := .nilIface) (by simp [zeroOf, ti20]) hP gT1 gT2, hfT]; refine hR _ _ _ ?_; clear hR R)
                rw [seqX_nil]
                refine hK _ _ _ ?_; clear hK K
                refine hN14 _ _ _ ?_
                refine xc_two fun N15 hN15 => ?_
                refine xc_reg1 8 rfl fun K hK => ?_
                simp only [show (List.range 8).map (·, true) = [(0, true), (1, true), (2, true), (3, true), (4, true), (5, true), (6, true), (7, true)] from rfl, rslv_cons, rslv_nil, List.getElem?_toArray, List.getElem?_cons_zero, List.getElem?_cons_succ, gres]
                iterate 8 (refine seqX_hide2 fun R hR => ?_; simp [go_sem, g0, g1, g3, g10, g11, g65, hi63, mlk ti63 ti9 (z := .nilIface) (by simp [zeroOf, ti20]) hP gT1 gT2, hfT]; refine hR _ _ _ ?_; clear hR R)
                rw [seqX_nil]
                refine hK _ _ _ ?_; clear hK K
                refine hN15 _ _ _ ?_
                refine xc_two fun N16 hN16 => ?_
                refine xc_reg1 2 rfl fun K hK => ?_
                simp only [show (List.range 2).map (·, true) = [(0, true), (1, true)] from rfl, rslv_cons, rslv_nil, List.getElem?_toArray, List.getElem?_cons_zero, List.getElem?_cons_succ, gres]
                iterate 2 (refine seqX_hide2 fun R hR => ?_; simp [go_sem, g0, g1, g3, g10, g11, g65, hi63, mlk ti63 ti9 (z := .nilIface) (by simp [zeroOf, ti20]) hP gT1 gT2, hfT]; refine hR _ _ _ ?_; clear hR R)
                rw [seqX_nil]
                refine hK _ _ _ ?_; clear hK K
                refine hN16 _ _ _ ?_
                refine xc_iffalse (by simp [go_sem, g0, g1, g3, g10, g11, g65, hi63, mlk ti63 ti9 (z := .nilIface) (by simp [zeroOf, ti20]) hP gT1 gT2, hfT]) ?_
                refine xc_two fun N17 hN17 => ?_
                refine xc_reg1 7 rfl fun K hK => ?_
                simp only [show (List.range 7).map (·, true) = [(0, true), (1, true), (2, true), (3, true), (4, true), (5, true), (6, true)] from rfl, rslv_cons, rslv_nil, List.getElem?_toArray, List.getElem?_cons_zero, List.getElem?_cons_succ, gres]
                iterate 7 (refine seqX_hide2 fun R hR => ?_; simp [go_sem, g0, g1, g3, g10, g11, g65, hi63, mlk ti63 ti9 (z := .nilIface) (by simp [zeroOf, ti20]) hP gT1 gT2, hfT]; refine hR _ _ _ ?_; clear hR R)
                rw [seqX_nil]
                refine hK _ _ _ ?_; clear hK K
                refine hN17 _ _ _ ?_
                refine xc_two fun N18 hN18 => ?_
                refine xc_reg1 2 rfl fun K hK => ?_
                simp only [show (List.range 2).map (·, true) = [(0, true), (1, true)] from rfl, rslv_cons, rslv_nil, List.getElem?_toArray, List.getElem?_cons_zero, List.getElem?_cons_succ, gres]
                iterate 2 (refine seqX_hide2 fun R hR => ?_; simp [go_sem, g0, g1, g3, g10, g11, g65, hi63, mlk ti63 ti9 (z := .nilIface) (by simp [zeroOf, ti20]) hP gT1 gT2, hfT]; refine hR _ _ _ ?_; clear hR R)
                rw [seqX_nil]
                refine hK _ _ _ ?_; clear hK K
                refine hN18 _ _ _ ?_
                refine xc_iftrue (by simp [go_sem, g0, g1, g3, g10, g11, g65, hi63, mlk ti63 ti9 (z := .nilIface) (by simp [zeroOf, ti20]) hP gT1 gT2, hfT]) ?_
                refine xc_reg1 5 rfl fun K hK => ?_
                simp only [show (List.range 5).map (·, true) = [(0, true), (1, true), (2, true), (3, true), (4, true)] from rfl, rslv_cons, rslv_nil, List.getElem?_toArray, List.getElem?_cons_zero, List.getElem?_cons_succ, gres]
                iterate 3 (refine seqX_hide2 fun R hR => ?_; simp [go_sem, g0, g1, g3, g10, g11, g65, hi63, mlk ti63 ti9 (z := .nilIface) (by simp [zeroOf, ti20]) hP gT1 gT2, hfT]; refine hR _ _ _ ?_; clear hR R)
                refine seqX_hide2 fun R hR => ?_
                simp [go_sem, g0, g1, g3, g10, g11, g65, hi63, mlk ti63 ti9 (z := .nilIface) (by simp [zeroOf, ti20]) hP gT1 gT2, hfT]
                intro q98 hq98
                replace hP := hP.cons hq98
                clear hq98
                have d9865 : q98 ≠ q65 := (hP.ne q65 (by simp [addrs])).1
                have d6598 : q65 ≠ q98 := (hP.ne q65 (by simp [addrs])).2
                refine hR _ _ _ ?_; clear hR R
                refine seqX_hide2 fun R hR => ?_
                simp [go_sem, g0, g1, g3, g10, g11, g65, hi63, mlk ti63 ti9 (z := .nilIface) (by simp [zeroOf, ti20]) hP gT1 gT2, hfT, d9865, d6598]
                refine call_same hP (printf68 D1 _ _) ?_
                rintro _ rfl
                refine hR _ _ _ ?_; clear hR R
                rw [seqX_nil]
                refine hK _ _ _ ?_; clear hK K
                refine sink_goal 0 hP rfl fun hPn lq98 nq98 => ?_
                clear hP; have hP := hPn; clear hPn
                simp only [List.eraseIdx_cons_zero, List.eraseIdx_cons_succ, addrs_cons, addrs_nil] at hP ⊢
                refine hJ1 ((rest).length) _ _ _ (by omega) ⟨rest, _, F, oi', rfl, rfl, rfl, hP, by simp [go_sem, g0, g1, g3, g10, g11, g65, hi63, hfT, d9865, d6598], by simp [go_sem, g0, g1, g3, g10, g11, g65, hi63, hfT, d9865, d6598], by simp [go_sem, g0, g1, g3, g10, g11, g65, hi63, hfT, d9865, d6598], by simp [go_sem, g0, g1, g3, g10, g11, g65, hi63, hfT, d9865, d6598], by simp [go_sem, g0, g1, g3, g10, g11, g65, hi63, hfT, d9865, d6598], by simp [go_sem, g0, g1, g3, g10, g11, g65, hi63, hfT, d9865, d6598], hI2, hnd', hmem', (hH1.skip hp hnd (by rw [hv, hw]; simp [cellG, hx7, h7u])).le lq98⟩
              · have hty : ¬ ty = 63 := by simpa [is63] using hxis
                have hty' : (ty == 63) = false := by simp [hty]
                refine hR _ _ _ ?_; clear hR R
                (refine seqX_hide2 fun R hR => ?_; simp [go_sem, g0, g1, g3, g10, g11, g65, hi63, mlk ti63 ti9 (z := .nilIface) (by simp [zeroOf, ti20]) hP gT1 gT2, hfT, hty, hty']; refine hR _ _ _ ?_; clear hR R)
                rw [seqX_nil]
                refine hK _ _ _ ?_; clear hK K
                refine hN14 _ _ _ ?_
                refine xc_two fun N15 hN15 => ?_
                refine xc_reg1 8 rfl fun K hK => ?_
                simp only [show (List.range 8).map (·, true) = [(0, true), (1, true), (2, true), (3, true), (4, true), (5, true), (6, true), (7, true)] from rfl, rslv_cons, rslv_nil, List.getElem?_toArray, List.getElem?_cons_zero, List.getElem?_cons_succ, gres]
                iterate 8 (refine seqX_hide2 fun R hR => ?_; simp [go_sem, g0, g1, g3, g10, g11, g65, hi63, mlk ti63 ti9 (z := .nilIface) (by simp [zeroOf, ti20]) hP gT1 gT2, hfT, hty, hty']; refine hR _ _ _ ?_; clear hR R)
                rw [seqX_nil]
                refine hK _ _ _ ?_; clear hK K
                refine hN15 _ _ _ ?_
                refine xc_two fun N16 hN16 => ?_
                refine xc_reg1 2 rfl fun K hK => ?_
                simp only [show (List.range 2).map (·, true) = [(0, true), (1, true)] from rfl, rslv_cons, rslv_nil, List.getElem?_toArray, List.getElem?_cons_zero, List.getElem?_cons_succ, gres]
                iterate 2 (refine seqX_hide2 fun R hR => ?_; simp [go_sem, g0, g1, g3, g10, g11, g65, hi63, mlk ti63 ti9 (z := .nilIface) (by simp [zeroOf, ti20]) hP gT1 gT2, hfT, hty, hty']; refine hR _ _ _ ?_; clear hR R)
                rw [seqX_nil]
                refine hK _ _ _ ?_; clear hK K
                refine hN16 _ _ _ ?_
                refine xc_iffalse (by simp [go_sem, g0, g1, g3, g10, g11, g65, hi63, mlk ti63 ti9 (z := .nilIface) (by simp [zeroOf, ti20]) hP gT1 gT2, hfT, hty, hty']) ?_
                refine xc_two fun N17 hN17 => ?_
                refine xc_reg1 7 rfl fun K hK => ?_
                simp only [show (List.range 7).map (·, true) = [(0, true), (1, true), (2, true), (3, true), (4, true), (5, true), (6, true)] from rfl, rslv_cons, rslv_nil, List.getElem?_toArray, List.getElem?_cons_zero, List.getElem?_cons_succ, gres]
                iterate 7 (refine seqX_hide2 fun R hR => ?_; simp [go_sem, g0, g1, g3, g10, g11, g65, hi63, mlk ti63 ti9 (z := .nilIface) (by simp [zeroOf, ti20]) hP gT1 gT2, hfT, hty, hty']; refine hR _ _ _ ?_; clear hR R)
                rw [seqX_nil]
                refine hK _ _ _ ?_; clear hK K
                refine hN17 _ _ _ ?_
                refine xc_two fun N18 hN18 => ?_
                refine xc_reg1 2 rfl fun K hK => ?_
                simp only [show (List.range 2).map (·, true) = [(0, true), (1, true)] from rfl, rslv_cons, rslv_nil, List.getElem?_toArray, List.getElem?_cons_zero, List.getElem?_cons_succ, gres]
                iterate 2 (refine seqX_hide2 fun R hR => ?_; simp [go_sem, g0, g1, g3, g10, g11, g65, hi63, mlk ti63 ti9 (z := .nilIface) (by simp [zeroOf, ti20]) hP gT1 gT2, hfT, hty, hty']; refine hR _ _ _ ?_; clear hR R)
                rw [seqX_nil]
                refine hK _ _ _ ?_; clear hK K
                refine hN18 _ _ _ ?_
                refine xc_iftrue (by simp [go_sem, g0, g1, g3, g10, g11, g65, hi63, mlk ti63 ti9 (z := .nilIface) (by simp [zeroOf, ti20]) hP gT1 gT2, hfT, hty, hty']) ?_
                refine xc_reg1 5 rfl fun K hK => ?_
                simp only [show (List.range 5).map (·, true) = [(0, true), (1, true), (2, true), (3, true), (4, true)] from rfl, rslv_cons, rslv_nil, List.getElem?_toArray, List.getElem?_cons_zero, List.getElem?_cons_succ, gres]
                iterate 3 (refine seqX_hide2 fun R hR => ?_; simp [go_sem, g0, g1, g3, g10, g11, g65, hi63, mlk ti63 ti9 (z := .nilIface) (by simp [zeroOf, ti20]) hP gT1 gT2, hfT, hty, hty']; refine hR _ _ _ ?_; clear hR R)
                refine seqX_hide2 fun R hR => ?_
                simp [go_sem, g0, g1, g3, g10, g11, g65, hi63, mlk ti63 ti9 (z := .nilIface) (by simp [zeroOf, ti20]) hP gT1 gT2, hfT, hty, hty']
                intro q98 hq98
                replace hP := hP.cons hq98
                clear hq98
                have d9865 : q98 ≠ q65 := (hP.ne q65 (by simp [addrs])).1
                have d6598 : q65 ≠ q98 := (hP.ne q65 (by simp [addrs])).2
                refine hR _ _ _ ?_; clear hR R
                refine seqX_hide2 fun R hR => ?_
                simp [go_sem, g0, g1, g3, g10, g11, g65, hi63, mlk ti63 ti9 (z := .nilIface) (by simp [zeroOf, ti20]) hP gT1 gT2, hfT, hty, hty', d9865, d6598]
                refine call_same hP (printf68 D1 _ _) ?_
                rintro _ rfl
                refine hR _ _ _ ?_; clear hR R
                rw [seqX_nil]
                refine hK _ _ _ ?_; clear hK K
                refine sink_goal 0 hP rfl fun hPn lq98 nq98 => ?_
                clear hP; have hP := hPn; clear hPn
                simp only [List.eraseIdx_cons_zero, List.eraseIdx_cons_succ, addrs_cons, addrs_nil] at hP ⊢
                refine hJ1 ((rest).length) _ _ _ (by omega) ⟨rest, _, F, oi', rfl, rfl, rfl, hP, by simp [go_sem, g0, g1, g3, g10, g11, g65, hi63, hfT, hty, hty', d9865, d6598], by simp [go_sem, g0, g1, g3, g10, g11, g65, hi63, hfT, hty, hty', d9865, d6598], by simp [go_sem, g0, g1, g3, g10, g11, g65, hi63, hfT, hty, hty', d9865, d6598], by simp [go_sem, g0, g1, g3, g10, g11, g65, hi63, hfT, hty, hty', d9865, d6598], by simp [go_sem, g0, g1, g3, g10, g11, g65, hi63, hfT, hty, hty', d9865, d6598], by simp [go_sem, g0, g1, g3, g10, g11, g65, hi63, hfT, hty, hty', d9865, d6598], hI2, hnd', hmem', (hH1.skip hp hnd (by rw [hv, hw]; simp [cellG, hx7, h7u])).le lq98⟩
        · obtain ⟨y, e1, hou⟩ := gwf pk u hw h7u
          rw [hfk, Option.some.injEq] at e1
          subst e1
          have hpvi := hou.iface
          have hpis := hou.is63
          rw [decide_eq_false h7u] at hpis
          have hpm := hou.cells
          simp only [Value.cells] at hpm
          obtain ⟨oT, fT, gT1, gT2, gT3, gT4, gT5⟩ := hH.t.get
          obtain ⟨G, hGs, hGu, hsw⟩ := hH.t.swap gT1 gT2 pk
          have hou' : OV I D u pv (fun _ => False) := OV.congr u pv _ hou (fun b o hb hx => hH.out b o hx (fun h => hFdI b h hb) fun h => (hSd b h).2 hb) fun b o hb => hb.elim
          have hset : ∀ (z : Option RV), at' gv pk = z → (∀ x, z = some x → kindOf x ≠ 7) → ∀ o9, MF o9 (fT.put pk pv) → GH I D2 gv gw rd Fd S R' Fs' rest (D.set rd o9) (fun b => F b ∨ False) := fun z hz hz7 o9 ho9 => GH.set (E := fun _ => False) hGT0 hH hp hnd (hsw D u _ (fun _ => False) o9 ho9 (fun h => hFI hH rd hH.t.inn h) (fun b o _ hx => hx) (fun b o _ hx _ => hx) hou' fun b hb => hb.elim) (by
              rw [hz, hw]
              cases z with
              | none => rfl
              | some x => simp [cellG, h7u, hz7 x rfl]) hGs (fun b o hx _ _ => hx) (fun b h => h.elim) (fun b hb => hb) fun b hb => hb.elim
          refine call_same hP (istable80 D pv hpvi) ?_
          rintro _ rfl
          refine hR _ _ _ ?_; clear hR R
          rw [seqX_nil]
          refine hK _ _ _ ?_; clear hK K
          refine hN13 _ _ _ ?_
          cases hv : at' gv pk with
          | none =>
            have hfT := gT4 pk (hgh.trans hv)
            refine xc_iffalse (by simp [go_sem, g0, g1, g3, g10, g11, g65, hpis, hpm, mlk ti63 ti9 (z := .nilIface) (by simp [zeroOf, ti20]) hP gT1 gT2, hfT]) ?_
            refine xc_two fun N14 hN14 => ?_
            refine xc_reg1 8 rfl fun K hK => ?_
            simp only [show (List.range 8).map (·, true) = [(0, true), (1, true), (2, true), (3, true), (4, true), (5, true), (6, true), (7, true)] from rfl, rslv_cons, rslv_nil, List.getElem?_toArray, List.getElem?_cons_zero, List.getElem?_cons_succ, gres]
            iterate 8 (refine seqX_hide2 fun R hR => ?_; simp [go_sem, g0, g1, g3, g10, g11, g65, hpis, hpm, mlk ti63 ti9 (z := .nilIface) (by simp [zeroOf, ti20]) hP gT1 gT2, hfT]; refine hR _ _ _ ?_; clear hR R)
            rw [seqX_nil]
            refine hK _ _ _ ?_; clear hK K
            refine hN14 _ _ _ ?_
            refine xc_two fun N15 hN15 => ?_
            refine xc_reg1 5 rfl fun K hK => ?_
            simp only [show (List.range 5).map (·, true) = [(0, true), (1, true), (2, true), (3, true), (4, true)] from rfl, rslv_cons, rslv_nil, List.getElem?_toArray, List.getElem?_cons_zero, List.getElem?_cons_succ, gres]
            iterate 3 (refine seqX_hide2 fun R hR => ?_; simp [go_sem, g0, g1, g3, g10, g11, g65, hpis, hpm, mlk ti63 ti9 (z := .nilIface) (by simp [zeroOf, ti20]) hP gT1 gT2, hfT]; refine hR _ _ _ ?_; clear hR R)
            refine seqX_hide2 fun R hR => ?_
            simp [go_sem, g0, g1, g3, g10, g11, g65, hpis, hpm, mlk ti63 ti9 (z := .nilIface) (by simp [zeroOf, ti20]) hP gT1 gT2, hfT]
            refine hR _ _ _ ?_; clear hR R
            (refine seqX_hide2 fun R hR => ?_; simp [go_sem, g0, g1, g3, g10, g11, g65, hpis, hpm, mlk ti63 ti9 (z := .nilIface) (by simp [zeroOf, ti20]) hP gT1 gT2, hfT]; refine hR _ _ _ ?_; clear hR R)
            rw [seqX_nil]
            refine hK _ _ _ ?_; clear hK K
            refine hN15 _ _ _ ?_
            refine xc_iffalse (by simp [go_sem, g0, g1, g3, g10, g11, g65, hpis, hpm, mlk ti63 ti9 (z := .nilIface) (by simp [zeroOf, ti20]) hP gT1 gT2, hfT]) ?_
            refine xc_reg1 4 rfl fun K hK => ?_
            simp only [show (List.range 4).map (·, true) = [(0, true), (1, true), (2, true), (3, true)] from rfl, rslv_cons, rslv_nil, List.getElem?_toArray, List.getElem?_cons_zero, List.getElem?_cons_succ, gres]
            iterate 3 (refine seqX_hide2 fun R hR => ?_; simp [go_sem, g0, g1, g3, g10, g11, g65, hpis, hpm, mlk ti63 ti9 (z := .nilIface) (by simp [zeroOf, ti20]) hP gT1 gT2, hfT]; refine hR _ _ _ ?_; clear hR R)
            refine seqX_hide2 fun R hR => ?_
            simp [go_sem, g0, g1, g3, g10, g11, g65, hpis, hpm, mlk ti63 ti9 (z := .nilIface) (by simp [zeroOf, ti20]) hP gT1 gT2, hfT]
            refine mapset_bgoal hP gT1 gT2 (by simp [strMap, ti63, ti9]) ?_
            clear hP
            rintro o9 ho9 hP
            refine hR _ _ _ ?_; clear hR R
            rw [seqX_nil]
            refine hK _ _ _ ?_; clear hK K
            refine hJ1 ((rest).length) _ _ _ (by omega) ⟨rest, _, _, oi', rfl, rfl, rfl, hP, by simp [go_sem, g0, g1, g3, g10, g11, g65, hpis, hpm, hfT], by simp [go_sem, g0, g1, g3, g10, g11, g65, hpis, hpm, hfT], by simp [go_sem, g0, g1, g3, g10, g11, g65, hpis, hpm, hfT], by simp [go_sem, g0, g1, g3, g10, g11, g65, hpis, hpm, hfT], by simp [go_sem, g0, g1, g3, g10, g11, g65, hpis, hpm, hfT], by simp [go_sem, g0, g1, g3, g10, g11, g65, hpis, hpm, hfT], hI2, hnd', hmem', hset _ hv (fun x h => by cases h) o9 ho9⟩
          | some x =>
            obtain ⟨yv, hfT, hov⟩ := hGu x (hgh.trans hv)
            have hyi := hov.iface
            have hxis := hov.is63
            have hyc := hov.cells
            refine xc_iffalse (by simp [go_sem, g0, g1, g3, g10, g11, g65, hpis, hpm, mlk ti63 ti9 (z := .nilIface) (by simp [zeroOf, ti20]) hP gT1 gT2, hfT]) ?_
            refine xc_two fun N14 hN14 => ?_
            refine xc_reg1 8 rfl fun K hK => ?_
            simp only [show (List.range 8).map (·, true) = [(0, true), (1, true), (2, true), (3, true), (4, true), (5, true), (6, true), (7, true)] from rfl, rslv_cons, rslv_nil, List.getElem?_toArray, List.getElem?_cons_zero, List.getElem?_cons_succ, gres]
            iterate 8 (refine seqX_hide2 fun R hR => ?_; simp [go_sem, g0, g1, g3, g10, g11, g65, hpis, hpm, mlk ti63 ti9 (z := .nilIface) (by simp [zeroOf, ti20]) hP gT1 gT2, hfT]; refine hR _ _ _ ?_; clear hR R)
            rw [seqX_nil]
            refine hK _ _ _ ?_; clear hK K
            refine hN14 _ _ _ ?_
            refine xc_two fun N15 hN15 => ?_
            refine xc_reg1 5 rfl fun K hK => ?_
            simp only [show (List.range 5).map (·, true) = [(0, true), (1, true), (2, true), (3, true), (4, true)] from rfl, rslv_cons, rslv_nil, List.getElem?_toArray, List.getElem?_cons_zero, List.getElem?_cons_succ, gres]
            iterate 3 (refine seqX_hide2 fun R hR => ?_; simp [go_sem, g0, g1, g3, g10, g11, g65, hpis, hpm, mlk ti63 ti9 (z := .nilIface) (by simp [zeroOf, ti20]) hP gT1 gT2, hfT]; refine hR _ _ _ ?_; clear hR R)
            refine seqX_hide2 fun R hR => ?_
            simp [go_sem, g0, g1, g3, g10, g11, g65, hpis, hpm, mlk ti63 ti9 (z := .nilIface) (by simp [zeroOf, ti20]) hP gT1 gT2, hfT]
            refine call_same hP (istable80 D yv hyi) ?_
            rintro _ rfl
            by_cases hx7 : kindOf x = 7
            · rw [decide_eq_true hx7] at hxis
              refine hR _ _ _ ?_; clear hR R
              (refine seqX_hide2 fun R hR => ?_; simp [go_sem, g0, g1, g3, g10, g11, g65, hpis, hpm, mlk ti63 ti9 (z := .nilIface) (by simp [zeroOf, ti20]) hP gT1 gT2, hfT, hxis]; refine hR _ _ _ ?_; clear hR R)
              rw [seqX_nil]
              refine hK _ _ _ ?_; clear hK K
              refine hN15 _ _ _ ?_
              refine xc_iftrue (by simp [go_sem, g0, g1, g3, g10, g11, g65, hpis, hpm, mlk ti63 ti9 (z := .nilIface) (by simp [zeroOf, ti20]) hP gT1 gT2, hfT, hxis]) ?_
              refine xc_reg1 5 rfl fun K hK => ?_
              simp only [show (List.range 5).map (·, true) = [(0, true), (1, true), (2, true), (3, true), (4, true)] from rfl, rslv_cons, rslv_nil, List.getElem?_toArray, List.getElem?_cons_zero, List.getElem?_cons_succ, gres]
              iterate 3 (refine seqX_hide2 fun R hR => ?_; simp [go_sem, g0, g1, g3, g10, g11, g65, hpis, hpm, mlk ti63 ti9 (z := .nilIface) (by simp [zeroOf, ti20]) hP gT1 gT2, hfT, hxis]; refine hR _ _ _ ?_; clear hR R)
              refine seqX_hide2 fun R hR => ?_
              simp [go_sem, g0, g1, g3, g10, g11, g65, hpis, hpm, mlk ti63 ti9 (z := .nilIface) (by simp [zeroOf, ti20]) hP gT1 gT2, hfT, hxis]
              intro q126 hq126
              replace hP := hP.cons hq126
              clear hq126
              have d12665 : q126 ≠ q65 := (hP.ne q65 (by simp [addrs])).1
              have d65126 : q65 ≠ q126 := (hP.ne q65 (by simp [addrs])).2
              refine hR _ _ _ ?_; clear hR R
              refine seqX_hide2 fun R hR => ?_
              simp [go_sem, g0, g1, g3, g10, g11, g65, hpis, hpm, mlk ti63 ti9 (z := .nilIface) (by simp [zeroOf, ti20]) hP gT1 gT2, hfT, hxis, d12665, d65126]
              refine call_same hP (printf68 D _ _) ?_
              rintro _ rfl
              refine hR _ _ _ ?_; clear hR R
              rw [seqX_nil]
              refine hK _ _ _ ?_; clear hK K
              refine sink_goal 0 hP rfl fun hPn lq126 nq126 => ?_
              clear hP; have hP := hPn; clear hPn
              simp only [List.eraseIdx_cons_zero, List.eraseIdx_cons_succ, addrs_cons, addrs_nil] at hP ⊢
              refine hJ1 ((rest).length) _ _ _ (by omega) ⟨rest, _, F, oi', rfl, rfl, rfl, hP, by simp [go_sem, g0, g1, g3, g10, g11, g65, hpis, hpm, hfT, hxis, d12665, d65126], by simp [go_sem, g0, g1, g3, g10, g11, g65, hpis, hpm, hfT, hxis, d12665, d65126], by simp [go_sem, g0, g1, g3, g10, g11, g65, hpis, hpm, hfT, hxis, d12665, d65126], by simp [go_sem, g0, g1, g3, g10, g11, g65, hpis, hpm, hfT, hxis, d12665, d65126], by simp [go_sem, g0, g1, g3, g10, g11, g65, hpis, hpm, hfT, hxis, d12665, d65126], by simp [go_sem, g0, g1, g3, g10, g11, g65, hpis, hpm, hfT, hxis, d12665, d65126], hI2, hnd', hmem', (hH.skip hp hnd (by rw [hv, hw]; simp [cellG, hx7, h7u])).le lq126⟩
            · rw [decide_eq_false hx7] at hxis
              refine hR _ _ _ ?_; clear hR R
              (refine seqX_hide2 fun R hR => ?_; simp [go_sem, g0, g1, g3, g10, g11, g65, hpis, hpm, mlk ti63 ti9 (z := .nilIface) (by simp [zeroOf, ti20]) hP gT1 gT2, hfT, hxis]; refine hR _ _ _ ?_; clear hR R)
              rw [seqX_nil]
              refine hK _ _ _ ?_; clear hK K
              refine hN15 _ _ _ ?_
              refine xc_iffalse (by simp [go_sem, g0, g1, g3, g10, g11, g65, hpis, hpm, mlk ti63 ti9 (z := .nilIface) (by simp [zeroOf, ti20]) hP gT1 gT2, hfT, hxis]) ?_
              refine xc_reg1 4 rfl fun K hK => ?_
              simp only [show (List.range 4).map (·, true) = [(0, true), (1, true), (2, true), (3, true)] from rfl, rslv_cons, rslv_nil, List.getElem?_toArray, List.getElem?_cons_zero, List.getElem?_cons_succ, gres]
              iterate 3 (refine seqX_hide2 fun R hR => ?_; simp [go_sem, g0, g1, g3, g10, g11, g65, hpis, hpm, mlk ti63 ti9 (z := .nilIface) (by simp [zeroOf, ti20]) hP gT1 gT2, hfT, hxis]; refine hR _ _ _ ?_; clear hR R)
              refine seqX_hide2 fun R hR => ?_
              simp [go_sem, g0, g1, g3, g10, g11, g65, hpis, hpm, mlk ti63 ti9 (z := .nilIface) (by simp [zeroOf, ti20]) hP gT1 gT2, hfT, hxis]
              refine mapset_bgoal hP gT1 gT2 (by simp [strMap, ti63, ti9]) ?_
              clear hP
              rintro o9 ho9 hP
              refine hR _ _ _ ?_; clear hR R
              rw [seqX_nil]
              refine hK _ _ _ ?_; clear hK K
              refine hJ1 ((rest).length) _ _ _ (by omega) ⟨rest, _, _, oi', rfl, rfl, rfl, hP, by simp [go_sem, g0, g1, g3, g10, g11, g65, hpis, hpm, hfT, hxis], by simp [go_sem, g0, g1, g3, g10, g11, g65, hpis, hpm, hfT, hxis], by simp [go_sem, g0, g1, g3, g10, g11, g65, hpis, hpm, hfT, hxis], by simp [go_sem, g0, g1, g3, g10, g11, g65, hpis, hpm, hfT, hxis], by simp [go_sem, g0, g1, g3, g10, g11, g65, hpis, hpm, hfT, hxis], by simp [go_sem, g0, g1, g3, g10, g11, g65, hpis, hpm, hfT, hxis], hI2, hnd', hmem', hset _ hv (fun z h => by cases h; exact hx7) o9 ho9⟩
      subst h0
      refine hR _ _ _ ?_; clear hR R
      (refine seqX_hide2 fun R hR => ?_; simp [go_sem, g0, g1, g3, g10, g11, g65]; refine hR _ _ _ ?_; clear hR R)
      rw [seqX_nil]
      refine hK _ _ _ ?_; clear hK K
      refine hN10 _ _ _ ?_
      refine xc_two fun N11 hN11 => ?_
      refine xc_iffalse (by simp [go_sem, g0, g1, g3, g10, g11, g65]) ?_
      refine hX1 _ _ _ _ ?_
      refine hN8 _ _ _ ?_
      refine xc_reg1 4 rfl fun K hK => ?_
      simp only [show (List.range 4).map (·, true) = [(0, true), (1, true), (2, true), (3, true)] from rfl, rslv_cons, rslv_nil, List.getElem?_toArray, List.getElem?_cons_zero, List.getElem?_cons_succ, gres]
      iterate 3 (refine seqX_hide2 fun R hR => ?_; simp [go_sem, g0, g1, g3, g10, g11, g65]; refine hR _ _ _ ?_; clear hR R)
      refine seqX_hide2 fun R hR => ?_
      simp [go_sem, g0, g1, g3, g10, g11, g65]
      have h1D : D r1 = some o1 := hH.out r1 o1 (hAD2 _ _ hA1) (fun h => ?_) (h1S r1 i1)
      · refine mapset_bgoal hP h1D hm1 (by simp [strMap, ti63, ti9]) ?_
        clear hP
        rintro o9 ho9 hP
        refine hR _ _ _ ?_; clear hR R
        rw [seqX_nil]
        refine hK _ _ _ ?_; clear hK K
        simp [go_sem, g0, g1, g3, g10, g11, g65]
        have hAnone : ∀ b, A b ≠ none → D b ≠ none := fun b hb => hH.dom b fun hz => hb (none_le hAD2 hz)
        have hnr : ∀ b, D b ≠ none → (D.set r1 o9) b ≠ none := fun b hb => by
          by_cases hbr : b = r1
          · rw [hbr, set_at]; simp
          · rw [set_other hbr]; exact hb
        have hset9 : D.set r1 o9 ≤ ov (D.set r1 o9) [(q65, oi)] := le_ov hP
        have hF1 : ∀ b, F b → (G0 b ∨ S b ∨ A b = none) := fun b hb => by
          rcases (hH.fs b hb).1 with h | h | h
          · rcases (hFd b h).1 with h | h
            · exact .inl h
            · exact .inr (.inr h)
          · exact .inr (.inl h)
          · exact .inr (.inr (none_le hAD2 h))
        have hOD : ∀ b o, A b = some o → ¬ G0 b → ¬ S b → D b = some o := fun b o hx h1 h2 => hH.out b o (hAD2 _ _ hx) (fun h => by
          rcases (hFd b h).1 with h | h
          · exact h1 h
          · rw [h] at hx; cases hx) h2
        have hTz : TF I D rd (at' (gM gv gw)) F := hH.t.ext fun k => by rw [at_gM k1 k2 hGw]; unfold gcur; simp
        refine ⟨fun b o hx h1 h2 => hset9 _ _ ?_, fun b hb hz => hnr b (hAnone b hb) (none_le hset9 hz), _, ((hback D (gM gv gw) _ F o9 ho9 (fun h => (hd1 r1 i1).2 h) (fun b o hb hx => hOD b o hx (fun h => (hd1 b (hG0 b h).1).2 hb) fun h => (hSd b h).2 hb) (fun b o hb hx hg => hOD b o hx hg (h1S b hb)) (TF.ov (kind_gM k1 k2 hGw) hTz) fun b hb => ?_).le hset9).ext fun k => ?_, fun b hb => ?_⟩
        · rw [set_other (fun h => h1 (by rw [h]; exact i1))]
          exact hOD b o hx (fun h => h1 (hG0 b h).1) h2
        · rcases hF1 b hb with h | h | h
          · exact .inl h
          · exact .inr fun hx => h1S b hx h
          · exact .inr fun hx => (hd1 b hx).1 h
        · unfold globR
          rw [← hgv, ← hgw, if_pos ⟨k1, k2⟩, at_with h7]
        · rcases hb with hb | hb
          · exact ⟨.inl hb, fun hz => hnr b (hAnone b (hd1 b hb).1) (none_le hset9 hz)⟩
          · refine ⟨?_, fun hz => hnr b (hH.fs b hb).2 (none_le hset9 hz)⟩
            rcases hF1 b hb with h | h | h
            · exact .inl (hG0 b h).1
            · exact .inr (.inl h)
            · exact .inr (.inr h)
      · rcases (hFd r1 h).1 with h | h
        · exact (hG0 r1 h).2 rfl
        · rw [h] at hA1; cases hA1
    cases hw : at' w gkey with
    | none =>
      have hf2 : f2 ⟨#[103, 108, 111, 98, 97, 108]⟩ = none := w0 hw
      refine xc_iftrue (by simp [go_sem, g0, g1, g2, g3, g10, mlk ti63 ti9 (z := .nilIface) (by simp [zeroOf, ti20]) hP hD2 hm2, hf2]) ?_
      refine xc_reg1 2 rfl fun K hK => ?_
      simp only [show (List.range 2).map (·, true) = [(0, true), (1, true)] from rfl, rslv_cons, rslv_nil, List.getElem?_toArray, List.getElem?_cons_zero, List.getElem?_cons_succ, gres]
      refine seqX_hide2 fun R hR => ?_
      simp [go_sem, g0, g1, g2, g3, g10, mlk ti63 ti9 (z := .nilIface) (by simp [zeroOf, ti20]) hP hD2 hm2, hf2]
      intro q52 hq52
      replace hP := hP.cons hq52
      clear hq52
      refine hR _ _ _ ?_; clear hR R
      (refine seqX_hide2 fun R hR => ?_; simp [go_sem, g0, g1, g2, g3, g10, mlk ti63 ti9 (z := .nilIface) (by simp [zeroOf, ti20]) hP hD2 hm2, hf2]; refine hR _ _ _ ?_; clear hR R)
      rw [seqX_nil]
      refine hK _ _ _ ?_; clear hK K
      refine sink_goal 0 hP rfl fun hPn lq52 nq52 => ?_
      clear hP; have hP := hPn; clear hPn
      simp only [List.eraseIdx_cons_zero, List.eraseIdx_cons_succ, addrs_cons, addrs_nil] at hP ⊢
      exact rng (q52) (tab []) (_) (fun _ _ => False) (fun b => b = q52) _ hP (by simp [go_sem, g0, g1, g2, g3, g10, hf2]) (by simp [go_sem, g0, g1, g2, g3, g10, hf2]) (by simp [go_sem, g0, g1, g2, g3, g10, hf2]) (by simp [go_sem, g0, g1, g2, g3, g10, hf2]) (by simp [go_sem, g0, g1, g2, g3, g10, hf2]) (lq52) (rfl) (by rw [hw]; rfl) (by rw [at_tabnil]; exact GT.new (set_at _ _ _) MF.new (fun b hb => ⟨fun hz => (hSd b hb).1 (none_le hAD (none_le lq52 hz)), (hSd b hb).2⟩) fun h => (hSd _ h).1 (none_le hAD nq52)) (fun b hb hx => (hFd b hb).2 (hx ▸ nq52))
    | some u =>
      by_cases h7u : kindOf u = 7
      · obtain ⟨rg, hf2, hGT⟩ := wt u hw h7u
        have hf2 : f2 ⟨#[103, 108, 111, 98, 97, 108]⟩ = some (.iface 63 (.map (some rg))) := hf2
        refine xc_iffalse (by simp [go_sem, g0, g1, g2, g3, g10, mlk ti63 ti9 (z := .nilIface) (by simp [zeroOf, ti20]) hP hD2 hm2, hf2]) ?_
        refine xc_two fun N8 hN8 => ?_
        refine xc_reg1 7 rfl fun K hK => ?_
        simp only [show (List.range 7).map (·, true) = [(0, true), (1, true), (2, true), (3, true), (4, true), (5, true), (6, true)] from rfl, rslv_cons, rslv_nil, List.getElem?_toArray, List.getElem?_cons_zero, List.getElem?_cons_succ, gres]
        iterate 7 (refine seqX_hide2 fun R hR => ?_; simp [go_sem, g0, g1, g2, g3, g10, mlk ti63 ti9 (z := .nilIface) (by simp [zeroOf, ti20]) hP hD2 hm2, hf2]; refine hR _ _ _ ?_; clear hR R)
        rw [seqX_nil]
        refine hK _ _ _ ?_; clear hK K
        refine hN8 _ _ _ ?_
        refine xc_two fun N9 hN9 => ?_
        refine xc_reg1 2 rfl fun K hK => ?_
        simp only [show (List.range 2).map (·, true) = [(0, true), (1, true)] from rfl, rslv_cons, rslv_nil, List.getElem?_toArray, List.getElem?_cons_zero, List.getElem?_cons_succ, gres]
        iterate 2 (refine seqX_hide2 fun R hR => ?_; simp [go_sem, g0, g1, g2, g3, g10, mlk ti63 ti9 (z := .nilIface) (by simp [zeroOf, ti20]) hP hD2 hm2, hf2]; refine hR _ _ _ ?_; clear hR R)
        rw [seqX_nil]
        refine hK _ _ _ ?_; clear hK K
        refine hN9 _ _ _ ?_
        refine xc_iffalse (by simp [go_sem, g0, g1, g2, g3, g10, mlk ti63 ti9 (z := .nilIface) (by simp [zeroOf, ti20]) hP hD2 hm2, hf2]) ?_
        exact rng (rg) (u) (D) (Fs) (R) _ hP (by simp [go_sem, g0, g1, g2, g3, g10, mlk ti63 ti9 (z := .nilIface) (by simp [zeroOf, ti20]) hP hD2 hm2, hf2]) (by simp [go_sem, g0, g1, g2, g3, g10, mlk ti63 ti9 (z := .nilIface) (by simp [zeroOf, ti20]) hP hD2 hm2, hf2]) (by simp [go_sem, g0, g1, g2, g3, g10, mlk ti63 ti9 (z := .nilIface) (by simp [zeroOf, ti20]) hP hD2 hm2, hf2]) (by simp [go_sem, g0, g1, g2, g3, g10, mlk ti63 ti9 (z := .nilIface) (by simp [zeroOf, ti20]) hP hD2 hm2, hf2]) (by simp [go_sem, g0, g1, g2, g3, g10, mlk ti63 ti9 (z := .nilIface) (by simp [zeroOf, ti20]) hP hD2 hm2, hf2]) (View.le_refl _) (h7u) (by rw [hw]; rfl) (hGT.le hIA hAD) (fun b hb hx => (hFd b hb).1.elim (fun h => h1R b (hG0 b h).1 hx) fun h => hGT.domR b hx h)
      · obtain ⟨y, hf2, hy⟩ := wf u hw h7u
        have hf2 : f2 ⟨#[103, 108, 111, 98, 97, 108]⟩ = some y := hf2
        have hno : ¬ (kindOf (gtab (at' v gkey)) = 7 ∧ kindOf (gtab (at' w gkey)) = 7) := fun h => by rw [hw] at h; exact h7u h.2
        rcases hy with rfl | ⟨ty, yz, rfl, hty⟩
        · skip
          refine xc_iffalse (by simp [go_sem, g0, g1, g2, g3, g10, mlk ti63 ti9 (z := .nilIface) (by simp [zeroOf, ti20]) hP hD2 hm2, hf2]) ?_
          refine xc_two fun N8 hN8 => ?_
          refine xc_reg1 7 rfl fun K hK => ?_
          simp only [show (List.range 7).map (·, true) = [(0, true), (1, true), (2, true), (3, true), (4, true), (5, true), (6, true)] from rfl, rslv_cons, rslv_nil, List.getElem?_toArray, List.getElem?_cons_zero, List.getElem?_cons_succ, gres]
          iterate 7 (refine seqX_hide2 fun R hR => ?_; simp [go_sem, g0, g1, g2, g3, g10, mlk ti63 ti9 (z := .nilIface) (by simp [zeroOf, ti20]) hP hD2 hm2, hf2]; refine hR _ _ _ ?_; clear hR R)
          rw [seqX_nil]
          refine hK _ _ _ ?_; clear hK K
          refine hN8 _ _ _ ?_
          refine xc_two fun N9 hN9 => ?_
          refine xc_reg1 2 rfl fun K hK => ?_
          simp only [show (List.range 2).map (·, true) = [(0, true), (1, true)] from rfl, rslv_cons, rslv_nil, List.getElem?_toArray, List.getElem?_cons_zero, List.getElem?_cons_succ, gres]
          iterate 2 (refine seqX_hide2 fun R hR => ?_; simp [go_sem, g0, g1, g2, g3, g10, mlk ti63 ti9 (z := .nilIface) (by simp [zeroOf, ti20]) hP hD2 hm2, hf2]; refine hR _ _ _ ?_; clear hR R)
          rw [seqX_nil]
          refine hK _ _ _ ?_; clear hK K
          refine hN9 _ _ _ ?_
          refine xc_iftrue (by simp [go_sem, g0, g1, g2, g3, g10, mlk ti63 ti9 (z := .nilIface) (by simp [zeroOf, ti20]) hP hD2 hm2, hf2]) ?_
          refine xc_two fun N10 hN10 => ?_
          refine xc_reg1 4 rfl fun K hK => ?_
          simp only [show (List.range 4).map (·, true) = [(0, true), (1, true), (2, true), (3, true)] from rfl, rslv_cons, rslv_nil, List.getElem?_toArray, List.getElem?_cons_zero, List.getElem?_cons_succ, gres]
          iterate 2 (refine seqX_hide2 fun R hR => ?_; simp [go_sem, g0, g1, g2, g3, g10, mlk ti63 ti9 (z := .nilIface) (by simp [zeroOf, ti20]) hP hD2 hm2, hf2]; refine hR _ _ _ ?_; clear hR R)
          refine seqX_hide2 fun R hR => ?_
          simp [go_sem, g0, g1, g2, g3, g10, mlk ti63 ti9 (z := .nilIface) (by simp [zeroOf, ti20]) hP hD2 hm2, hf2]
          intro q62 hq62
          replace hP := hP.cons hq62
          clear hq62
          refine hR _ _ _ ?_; clear hR R
          refine seqX_hide2 fun R hR => ?_
          simp [go_sem, g0, g1, g2, g3, g10, mlk ti63 ti9 (z := .nilIface) (by simp [zeroOf, ti20]) hP hD2 hm2, hf2]
          refine call_same hP (printf68 D _ _) ?_
          rintro _ rfl
          refine hR _ _ _ ?_; clear hR R
          rw [seqX_nil]
          refine hK _ _ _ ?_; clear hK K
          refine hN10 _ _ _ ?_
          simp [go_sem, g0, g1, g2, g3, g10, mlk ti63 ti9 (z := .nilIface) (by simp [zeroOf, ti20]) hP hD2 hm2, hf2]
          refine hsame hno _ (View.le_trans hAD ?_)
          exact le_ov hP
        · have hty' : (ty == 63) = false := by simp [hty]
          refine xc_iffalse (by simp [go_sem, g0, g1, g2, g3, g10, mlk ti63 ti9 (z := .nilIface) (by simp [zeroOf, ti20]) hP hD2 hm2, hf2, hty, hty']) ?_
          refine xc_two fun N8 hN8 => ?_
          refine xc_reg1 7 rfl fun K hK => ?_
          simp only [show (List.range 7).map (·, true) = [(0, true), (1, true), (2, true), (3, true), (4, true), (5, true), (6, true)] from rfl, rslv_cons, rslv_nil, List.getElem?_toArray, List.getElem?_cons_zero, List.getElem?_cons_succ, gres]
          iterate 7 (refine seqX_hide2 fun R hR => ?_; simp [go_sem, g0, g1, g2, g3, g10, mlk ti63 ti9 (z := .nilIface) (by simp [zeroOf, ti20]) hP hD2 hm2, hf2, hty, hty']; refine hR _ _ _ ?_; clear hR R)
          rw [seqX_nil]
          refine hK _ _ _ ?_; clear hK K
          refine hN8 _ _ _ ?_
          refine xc_two fun N9 hN9 => ?_
          refine xc_reg1 2 rfl fun K hK => ?_
          simp only [show (List.range 2).map (·, true) = [(0, true), (1, true)] from rfl, rslv_cons, rslv_nil, List.getElem?_toArray, List.getElem?_cons_zero, List.getElem?_cons_succ, gres]
          iterate 2 (refine seqX_hide2 fun R hR => ?_; simp [go_sem, g0, g1, g2, g3, g10, mlk ti63 ti9 (z := .nilIface) (by simp [zeroOf, ti20]) hP hD2 hm2, hf2, hty, hty']; refine hR _ _ _ ?_; clear hR R)
          rw [seqX_nil]
          refine hK _ _ _ ?_; clear hK K
          refine hN9 _ _ _ ?_
          refine xc_iftrue (by simp [go_sem, g0, g1, g2, g3, g10, mlk ti63 ti9 (z := .nilIface) (by simp [zeroOf, ti20]) hP hD2 hm2, hf2, hty, hty']) ?_
          refine xc_two fun N10 hN10 => ?_
          refine xc_reg1 4 rfl fun K hK => ?_
          simp only [show (List.range 4).map (·, true) = [(0, true), (1, true), (2, true), (3, true)] from rfl, rslv_cons, rslv_nil, List.getElem?_toArray, List.getElem?_cons_zero, List.getElem?_cons_succ, gres]
          iterate 2 (refine seqX_hide2 fun R hR => ?_; simp [go_sem, g0, g1, g2, g3, g10, mlk ti63 ti9 (z := .nilIface) (by simp [zeroOf, ti20]) hP hD2 hm2, hf2, hty, hty']; refine hR _ _ _ ?_; clear hR R)
          refine seqX_hide2 fun R hR => ?_
          simp [go_sem, g0, g1, g2, g3, g10, mlk ti63 ti9 (z := .nilIface) (by simp [zeroOf, ti20]) hP hD2 hm2, hf2, hty, hty']
          intro q62 hq62
          replace hP := hP.cons hq62
          clear hq62
          refine hR _ _ _ ?_; clear hR R
          refine seqX_hide2 fun R hR => ?_
          simp [go_sem, g0, g1, g2, g3, g10, mlk ti63 ti9 (z := .nilIface) (by simp [zeroOf, ti20]) hP hD2 hm2, hf2, hty, hty']
          refine call_same hP (printf68 D _ _) ?_
          rintro _ rfl
          refine hR _ _ _ ?_; clear hR R
          rw [seqX_nil]
          refine hK _ _ _ ?_; clear hK K
          refine hN10 _ _ _ ?_
          simp [go_sem, g0, g1, g2, g3, g10, mlk ti63 ti9 (z := .nilIface) (by simp [zeroOf, ti20]) hP hD2 hm2, hf2, hty, hty']
          refine hsame hno _ (View.le_trans hAD ?_)
          exact le_ov hP
  cases hv : at' v gkey with
  | none =>
    have hf1 : f1 ⟨#[103, 108, 111, 98, 97, 108]⟩ = none := v0 _ hv
    refine xc_iftrue (by simp [go_sem, mlk ti63 ti9 (z := .nilIface) (by simp [zeroOf, ti20]) hP hA1 hm1, mlk ti63 ti9 (z := .nilIface) (by simp [zeroOf, ti20]) hP hA2 hm2, hf1]) ?_
    refine xc_reg1 2 rfl fun K hK => ?_
    simp only [show (List.range 2).map (·, true) = [(0, true), (1, true)] from rfl, rslv_cons, rslv_nil, List.getElem?_toArray, List.getElem?_cons_zero, List.getElem?_cons_succ, gres]
    refine seqX_hide2 fun R hR => ?_
    simp [go_sem, mlk ti63 ti9 (z := .nilIface) (by simp [zeroOf, ti20]) hP hA1 hm1, mlk ti63 ti9 (z := .nilIface) (by simp [zeroOf, ti20]) hP hA2 hm2, hf1]
    intro q33 hq33
    replace hP := hP.cons hq33
    clear hq33
    refine hR _ _ _ ?_; clear hR R
    (refine seqX_hide2 fun R hR => ?_; simp [go_sem, mlk ti63 ti9 (z := .nilIface) (by simp [zeroOf, ti20]) hP hA1 hm1, mlk ti63 ti9 (z := .nilIface) (by simp [zeroOf, ti20]) hP hA2 hm2, hf1]; refine hR _ _ _ ?_; clear hR R)
    rw [seqX_nil]
    refine hK _ _ _ ?_; clear hK K
    refine sink_goal 0 hP rfl fun hPn lq33 nq33 => ?_
    clear hP; have hP := hPn; clear hPn
    simp only [List.eraseIdx_cons_zero, List.eraseIdx_cons_succ, addrs_cons, addrs_nil] at hP ⊢
    exact mid (q33) (tab []) (_) (fun b => b = q33) _ hP (by simp [go_sem, hf1]) (by simp [go_sem, hf1]) (by simp [go_sem, hf1]) (by simp [go_sem, hf1]) (by simp [go_sem, hf1]) (lq33) (rfl) (by rw [hv]; rfl) (by rw [at_tabnil]; exact TF.new (set_at _ _ _) MF.new) (fun b hb => ⟨.inr (by rw [hb]; exact nq33), by rw [hb, set_at]; simp⟩)
  | some u =>
    obtain ⟨y, hf1, hou⟩ := hG1 u hv
    have hf1 : f1 ⟨#[103, 108, 111, 98, 97, 108]⟩ = some y := hf1
    rcases hou.cls with ⟨h0, rfl⟩ | ⟨h0, h7u, ty, yz, rfl, hty⟩ | ⟨h7u, rd, rfl, hTd⟩
    · have hno : ¬ (kindOf (gtab (at' v gkey)) = 7 ∧ kindOf (gtab (at' w gkey)) = 7) := fun h => by
        rw [hv] at h
        have := h.1
        simp [gtab, h0] at this
      refine xc_iffalse (by simp [go_sem, mlk ti63 ti9 (z := .nilIface) (by simp [zeroOf, ti20]) hP hA1 hm1, mlk ti63 ti9 (z := .nilIface) (by simp [zeroOf, ti20]) hP hA2 hm2, hf1]) ?_
      refine xc_two fun N5 hN5 => ?_
      refine xc_reg1 7 rfl fun K hK => ?_
      simp only [show (List.range 7).map (·, true) = [(0, true), (1, true), (2, true), (3, true), (4, true), (5, true), (6, true)] from rfl, rslv_cons, rslv_nil, List.getElem?_toArray, List.getElem?_cons_zero, List.getElem?_cons_succ, gres]
      iterate 7 (refine seqX_hide2 fun R hR => ?_; simp [go_sem, mlk ti63 ti9 (z := .nilIface) (by simp [zeroOf, ti20]) hP hA1 hm1, mlk ti63 ti9 (z := .nilIface) (by simp [zeroOf, ti20]) hP hA2 hm2, hf1]; refine hR _ _ _ ?_; clear hR R)
      rw [seqX_nil]
      refine hK _ _ _ ?_; clear hK K
      refine hN5 _ _ _ ?_
      refine xc_two fun N6 hN6 => ?_
      refine xc_reg1 2 rfl fun K hK => ?_
      simp only [show (List.range 2).map (·, true) = [(0, true), (1, true)] from rfl, rslv_cons, rslv_nil, List.getElem?_toArray, List.getElem?_cons_zero, List.getElem?_cons_succ, gres]
      iterate 2 (refine seqX_hide2 fun R hR => ?_; simp [go_sem, mlk ti63 ti9 (z := .nilIface) (by simp [zeroOf, ti20]) hP hA1 hm1, mlk ti63 ti9 (z := .nilIface) (by simp [zeroOf, ti20]) hP hA2 hm2, hf1]; refine hR _ _ _ ?_; clear hR R)
      rw [seqX_nil]
      refine hK _ _ _ ?_; clear hK K
      refine hN6 _ _ _ ?_
      refine xc_iftrue (by simp [go_sem, mlk ti63 ti9 (z := .nilIface) (by simp [zeroOf, ti20]) hP hA1 hm1, mlk ti63 ti9 (z := .nilIface) (by simp [zeroOf, ti20]) hP hA2 hm2, hf1]) ?_
      refine xc_two fun N7 hN7 => ?_
      refine xc_reg1 4 rfl fun K hK => ?_
      simp only [show (List.range 4).map (·, true) = [(0, true), (1, true), (2, true), (3, true)] from rfl, rslv_cons, rslv_nil, List.getElem?_toArray, List.getElem?_cons_zero, List.getElem?_cons_succ, gres]
      iterate 2 (refine seqX_hide2 fun R hR => ?_; simp [go_sem, mlk ti63 ti9 (z := .nilIface) (by simp [zeroOf, ti20]) hP hA1 hm1, mlk ti63 ti9 (z := .nilIface) (by simp [zeroOf, ti20]) hP hA2 hm2, hf1]; refine hR _ _ _ ?_; clear hR R)
      refine seqX_hide2 fun R hR => ?_
      simp [go_sem, mlk ti63 ti9 (z := .nilIface) (by simp [zeroOf, ti20]) hP hA1 hm1, mlk ti63 ti9 (z := .nilIface) (by simp [zeroOf, ti20]) hP hA2 hm2, hf1]
      intro q43 hq43
      replace hP := hP.cons hq43
      clear hq43
      refine hR _ _ _ ?_; clear hR R
      refine seqX_hide2 fun R hR => ?_
      simp [go_sem, mlk ti63 ti9 (z := .nilIface) (by simp [zeroOf, ti20]) hP hA1 hm1, mlk ti63 ti9 (z := .nilIface) (by simp [zeroOf, ti20]) hP hA2 hm2, hf1]
      refine call_same hP (printf68 A _ _) ?_
      rintro _ rfl
      refine hR _ _ _ ?_; clear hR R
      rw [seqX_nil]
      refine hK _ _ _ ?_; clear hK K
      refine hN7 _ _ _ ?_
      simp [go_sem, mlk ti63 ti9 (z := .nilIface) (by simp [zeroOf, ti20]) hP hA1 hm1, mlk ti63 ti9 (z := .nilIface) (by simp [zeroOf, ti20]) hP hA2 hm2, hf1]
      refine hsame hno _ ?_
      exact le_ov hP
    · have hno : ¬ (kindOf (gtab (at' v gkey)) = 7 ∧ kindOf (gtab (at' w gkey)) = 7) := fun h => by
        rw [hv] at h
        exact h7u h.1
      have hty' : (ty == 63) = false := by simp [hty]
      refine xc_iffalse (by simp [go_sem, mlk ti63 ti9 (z := .nilIface) (by simp [zeroOf, ti20]) hP hA1 hm1, mlk ti63 ti9 (z := .nilIface) (by simp [zeroOf, ti20]) hP hA2 hm2, hf1, hty, hty']) ?_
      refine xc_two fun N5 hN5 => ?_
      refine xc_reg1 7 rfl fun K hK => ?_
      simp only [show (List.range 7).map (·, true) = [(0, true), (1, true), (2, true), (3, true), (4, true), (5, true), (6, true)] from rfl, rslv_cons, rslv_nil, List.getElem?_toArray, List.getElem?_cons_zero, List.getElem?_cons_succ, gres]
      iterate 7 (refine seqX_hide2 fun R hR => ?_; simp [go_sem, mlk ti63 ti9 (z := .nilIface) (by simp [zeroOf, ti20]) hP hA1 hm1, mlk ti63 ti9 (z := .nilIface) (by simp [zeroOf, ti20]) hP hA2 hm2, hf1, hty, hty']; refine hR _ _ _ ?_; clear hR R)
      rw [seqX_nil]
      refine hK _ _ _ ?_; clear hK K
      refine hN5 _ _ _ ?_
      refine xc_two fun N6 hN6 => ?_
      refine xc_reg1 2 rfl fun K hK => ?_
      simp only [show (List.range 2).map (·, true) = [(0, true), (1, true)] from rfl, rslv_cons, rslv_nil, List.getElem?_toArray, List.getElem?_cons_zero, List.getElem?_cons_succ, gres]
      iterate 2 (refine seqX_hide2 fun R hR => ?_; simp [go_sem, mlk ti63 ti9 (z := .nilIface) (by simp [zeroOf, ti20]) hP hA1 hm1, mlk ti63 ti9 (z := .nilIface) (by simp [zeroOf, ti20]) hP hA2 hm2, hf1, hty, hty']; refine hR _ _ _ ?_; clear hR R)
      rw [seqX_nil]
      refine hK _ _ _ ?_; clear hK K
      refine hN6 _ _ _ ?_
      refine xc_iftrue (by simp [go_sem, mlk ti63 ti9 (z := .nilIface) (by simp [zeroOf, ti20]) hP hA1 hm1, mlk ti63 ti9 (z := .nilIface) (by simp [zeroOf, ti20]) hP hA2 hm2, hf1, hty, hty']) ?_
      refine xc_two fun N7 hN7 => ?_
      refine xc_reg1 4 rfl fun K hK => ?_
      simp only [show (List.range 4).map (·, true) = [(0, true), (1, true), (2, true), (3, true)] from rfl, rslv_cons, rslv_nil, List.getElem?_toArray, List.getElem?_cons_zero, List.getElem?_cons_succ, gres]
      iterate 2 (refine seqX_hide2 fun R hR => ?_; simp [go_sem, mlk ti63 ti9 (z := .nilIface) (by simp [zeroOf, ti20]) hP hA1 hm1, mlk ti63 ti9 (z := .nilIface) (by simp [zeroOf, ti20]) hP hA2 hm2, hf1, hty, hty']; refine hR _ _ _ ?_; clear hR R)
      refine seqX_hide2 fun R hR => ?_
      simp [go_sem, mlk ti63 ti9 (z := .nilIface) (by simp [zeroOf, ti20]) hP hA1 hm1, mlk ti63 ti9 (z := .nilIface) (by simp [zeroOf, ti20]) hP hA2 hm2, hf1, hty, hty']
      intro q43 hq43
      replace hP := hP.cons hq43
      clear hq43
      refine hR _ _ _ ?_; clear hR R
      refine seqX_hide2 fun R hR => ?_
      simp [go_sem, mlk ti63 ti9 (z := .nilIface) (by simp [zeroOf, ti20]) hP hA1 hm1, mlk ti63 ti9 (z := .nilIface) (by simp [zeroOf, ti20]) hP hA2 hm2, hf1, hty, hty']
      refine call_same hP (printf68 A _ _) ?_
      rintro _ rfl
      refine hR _ _ _ ?_; clear hR R
      rw [seqX_nil]
      refine hK _ _ _ ?_; clear hK K
      refine hN7 _ _ _ ?_
      simp [go_sem, mlk ti63 ti9 (z := .nilIface) (by simp [zeroOf, ti20]) hP hA1 hm1, mlk ti63 ti9 (z := .nilIface) (by simp [zeroOf, ti20]) hP hA2 hm2, hf1, hty, hty']
      refine hsame hno _ ?_
      exact le_ov hP
    · skip
      refine xc_iffalse (by simp [go_sem, mlk ti63 ti9 (z := .nilIface) (by simp [zeroOf, ti20]) hP hA1 hm1, mlk ti63 ti9 (z := .nilIface) (by simp [zeroOf, ti20]) hP hA2 hm2, hf1]) ?_
      refine xc_two fun N5 hN5 => ?_
      refine xc_reg1 7 rfl fun K hK => ?_
      simp only [show (List.range 7).map (·, true) = [(0, true), (1, true), (2, true), (3, true), (4, true), (5, true), (6, true)] from rfl, rslv_cons, rslv_nil, List.getElem?_toArray, List.getElem?_cons_zero, List.getElem?_cons_succ, gres]
      iterate 7 (refine seqX_hide2 fun R hR => ?_; simp [go_sem, mlk ti63 ti9 (z := .nilIface) (by simp [zeroOf, ti20]) hP hA1 hm1, mlk ti63 ti9 (z := .nilIface) (by simp [zeroOf, ti20]) hP hA2 hm2, hf1]; refine hR _ _ _ ?_; clear hR R)
      rw [seqX_nil]
      refine hK _ _ _ ?_; clear hK K
      refine hN5 _ _ _ ?_
      refine xc_two fun N6 hN6 => ?_
      refine xc_reg1 2 rfl fun K hK => ?_
      simp only [show (List.range 2).map (·, true) = [(0, true), (1, true)] from rfl, rslv_cons, rslv_nil, List.getElem?_toArray, List.getElem?_cons_zero, List.getElem?_cons_succ, gres]
      iterate 2 (refine seqX_hide2 fun R hR => ?_; simp [go_sem, mlk ti63 ti9 (z := .nilIface) (by simp [zeroOf, ti20]) hP hA1 hm1, mlk ti63 ti9 (z := .nilIface) (by simp [zeroOf, ti20]) hP hA2 hm2, hf1]; refine hR _ _ _ ?_; clear hR R)
      rw [seqX_nil]
      refine hK _ _ _ ?_; clear hK K
      refine hN6 _ _ _ ?_
      refine xc_iffalse (by simp [go_sem, mlk ti63 ti9 (z := .nilIface) (by simp [zeroOf, ti20]) hP hA1 hm1, mlk ti63 ti9 (z := .nilIface) (by simp [zeroOf, ti20]) hP hA2 hm2, hf1]) ?_
      exact mid (rd) (u) (A) (G0) _ hP (by simp [go_sem, mlk ti63 ti9 (z := .nilIface) (by simp [zeroOf, ti20]) hP hA1 hm1, mlk ti63 ti9 (z := .nilIface) (by simp [zeroOf, ti20]) hP hA2 hm2, hf1]) (by simp [go_sem, mlk ti63 ti9 (z := .nilIface) (by simp [zeroOf, ti20]) hP hA1 hm1, mlk ti63 ti9 (z := .nilIface) (by simp [zeroOf, ti20]) hP hA2 hm2, hf1]) (by simp [go_sem, mlk ti63 ti9 (z := .nilIface) (by simp [zeroOf, ti20]) hP hA1 hm1, mlk ti63 ti9 (z := .nilIface) (by simp [zeroOf, ti20]) hP hA2 hm2, hf1]) (by simp [go_sem, mlk ti63 ti9 (z := .nilIface) (by simp [zeroOf, ti20]) hP hA1 hm1, mlk ti63 ti9 (z := .nilIface) (by simp [zeroOf, ti20]) hP hA2 hm2, hf1]) (by simp [go_sem, mlk ti63 ti9 (z := .nilIface) (by simp [zeroOf, ti20]) hP hA1 hm1, mlk ti63 ti9 (z := .nilIface) (by simp [zeroOf, ti20]) hP hA2 hm2, hf1]) (View.le_refl _) (h7u) (by rw [hv]; rfl) (hTd) (fun b hb => ⟨.inl hb, (hd1 b (hG0 b hb).1).1⟩)
end Go.Proofs.YtogfpbnbojhpoaaV

/- Schemas: the law, walked. -/
import Derived.Test.YtcficphbjicneaaSE
import Derived.Test.YtcficphbjicneaaV7
namespace Go.Proofs.YtcficphbjicneaaV
open Go.RowKit
theorem erase_mono {A B : View} (h : A ≤ B) (m : Nat) : A.erase m ≤ B.erase m := by
  intro k o hk
  unfold View.erase at *
  split at hk
  · cases hk
  · rename_i hne
    rw [if_neg hne]
    exact h k o hk
theorem le_erase_set {A B : View} {m : Nat} {o : Obj} (h : A ≤ B.erase m) : A ≤ (B.set m o).erase m := by
  intro k x hk
  have := h k x hk
  unfold View.erase at *
  split at this
  · cases this
  · rename_i hne
    rw [if_neg hne, set_other hne]
    exact this
theorem erase_at {A : View} {m k : Nat} (h : k ≠ m) : A.erase m k = A k := if_neg h
theorem z11 : zerosB #[nl, nl, nl, nl, nl, .bool false, .bool false, .bool false, .string ⟨#[]⟩, .string ⟨#[]⟩, nl] 11 = #[nl, nl, nl, nl, nl, .bool false, .bool false, .bool false, .string ⟨#[]⟩, .string ⟨#[]⟩, nl] := by kernel_rfl
theorem z1 : zerosB #[Value.string ⟨#[]⟩] 1 = #[.string ⟨#[]⟩] := by kernel_rfl
set_option maxHeartbeats 4000000 in
theorem law6 (A : View) (w : Value) (l : List ByteArray) (T : ByteArray) (hw : Texts A w l) (hl : l.length ≤ 9223372036854775807) (hsz : ∀ s ∈ l, s.size ≤ 9223372036854775807) (hT : T.size ≤ 9223372036854775807) :
    VCalls Try.prog 6 #[w, .string T] A fun r A' => r = .bool true ∧ A ≤ A' := by
  refine xcalls Try.func6 rfl (by simp [Try.ntmps6]) ?_
  obtain ⟨bw, cw, ew⟩ := hw.slice
  simp only [Try.f6]
  refine xc_step fun C hC => ?_
  simp [go_sem]
  subst hC
  refine xc_step fun C hC => ?_
  simp [go_sem]
  refine (fits16 A w l hw hl).mono ?_
  rintro _ _ ⟨⟨q, rfl⟩, rfl⟩
  rename_i A
  cases q with
  | false =>
    simp [go_sem, xunop, gval, undef]
    exact View.le_refl _
  | true =>
  by_cases hT2 : (2147483647 : Int) < T.size
  · simp [go_sem, xunop, gval, undef, xlen, xbin, eqPlain, hT2]
    exact View.le_refl _
  simp [go_sem, xunop, gval, undef, xlen, xbin, eqPlain, hT2]
  subst hC
  refine xc_step fun C hC => ?_
  by_cases h6 : (6 : Int) < l.length
  · simp [go_sem, ew, xunop, gval, undef, xlen, xbin, eqPlain, h6]
    exact View.le_refl _
  have h6n : l.length ≤ 6 := by omega
  simp [go_sem, ew, xlen, xbin, eqPlain, h6, gval, undef]
  refine (text18 A T).mono ?_
  rintro _ A1 ⟨rfl, L1⟩
  refine (plain17 A1 T hT).mono ?_
  rintro _ A2 ⟨⟨q, rfl⟩, L2⟩
  have L := View.le_trans L1 L2
  cases q with
  | false =>
    simp [go_sem, xunop, gval, undef]
    exact L
  | true =>
  simp [go_sem, xunop, gval, undef]
  subst hC
  refine xc_step fun C hC => ?_
  simp [go_sem, xnew, Value.cells, zeroOf, Instr.fill, zerosB, xbuild]
  intro b1 hb1 m hm
  have hmA : A m = none := none_le (View.le_trans L (le_set hb1)) hm
  have hst := xstore_agg (P := Try.prog) (vs := scv (sl1 b1) nl nl nl) ti43 rfl (set_at (A2.set b1 (.cells #[.string T] 9)) m (.cells (scv nl nl nl nl) 43)) rfl (by simp [one])
  rw [set_set] at hst
  simp [hst, onS_some]
  subst hC
  have hM := set_at (A2.set b1 (.cells #[.string T] 9)) m (.cells (scv (sl1 b1) nl nl nl) 43)
  have hS : SchV (((A2.set b1 (.cells #[.string T] 9)).set m (.cells (scv (sl1 b1) nl nl nl) 43)).erase m) T [] (scv (sl1 b1) nl nl nl) := by
    have hne : b1 ≠ m := fun hx => by rw [← hx, set_at] at hm; cases hm
    exact ⟨b1, rfl, by unfold tx; rw [erase_at hne, set_other hne, set_at]⟩
  have LE : A ≤ ((A2.set b1 (.cells #[.string T] 9)).set m (.cells (scv (sl1 b1) nl nl nl) 43)).erase m := le_erase (View.le_trans (View.le_trans L (le_set hb1)) (le_set hm)) hmA
  clear hst
  generalize (A2.set b1 (.cells #[.string T] 9)).set m (.cells (scv (sl1 b1) nl nl nl) 43) = A3 at hM hS LE
  clear hm hb1 L L1 L2
  refine xc_step fun C hC => ?_
  have hw1 : IntKind.i64.wrap ((l.length : Int) - 1) = (l.length : Int) - 1 := wrap_in (by omega) (by omega)
  simp [go_sem, ew, xlen, xbin, eqPlain, hw1]
  refine vloopK (fun k e ds A' => k ≤ l.length ∧ ds = [] ∧ e 0 = w ∧ e 1 = .string T ∧ e 5 = .pointer (some ⟨m, 0, none⟩) ∧ e 6 = .int .i64 ((k : Int) - 1) ∧ ∃ c, A' m = some (.cells c 43 (0, 0)) ∧ SchV (A'.erase m) T (l.drop k) c ∧ A ≤ A'.erase m) l.length
    ⟨Nat.le_refl _, rfl, by simp [go_sem, ew], by simp [go_sem], by simp [go_sem], by simp [go_sem], scv (sl1 b1) nl nl nl, hM, by rw [List.drop_eq_nil_of_le (Nat.le_refl _)]; exact hS, LE⟩ ?_
  clear hM hS LE
  rintro k e ds B ⟨hk, rfl, h0, h1, h5, h6', c, hM, hS, LE⟩ J X hJ hX
  refine xc_sound _ ?_
  cases k with
  | zero =>
    have hneg : ¬ (0 : Int) ≤ -1 := by omega
    rw [List.drop_zero] at hS
    refine xc_step fun C2 hC2 => ?_
    simp [go_sem, h6', xbin, eqPlain]
    refine hX _ _ _ _ ?_
    simp [go_sem]
    subst hC hC2
    clear hJ hX
    obtain ⟨cu, ci, cn, cf, hc⟩ := SchV.shape _ _ hS
    have gm := cells_block hM (n := 11) (by rw [hc]; rfl)
    have LB : A ≤ B := View.le_trans LE (erase_le _ _)
    refine xc_step fun C hC => ?_
    simp [go_sem, h0, h5, vload, gm]
    refine (at19 B T l c w (SchV.le (erase_le _ _) l c hS) (hw.le LB) h6n).mono ?_
    rintro _ B1 ⟨u, rfl, hu, L1⟩
    simp [go_sem]
    subst hC
    have gu := cell_of hu (i := 0) rfl
    simp [go_sem, xbin, eqPlain, gval, xlen, xindexAt, vload, gu, h1]
    exact View.le_trans LB L1
  | succ j =>
    have e6 : e 6 = .int .i64 (j : Int) := by rw [h6']; congr 1; omega
    clear h6'
    have hj : j < l.length := by omega
    obtain ⟨a, cap, f1, g1⟩ := hw.at' hj
    have LB : A ≤ B := View.le_trans LE (erase_le _ _)
    have g1' := le_cell LB g1
    have hw2 : IntKind.i64.wrap ((j : Int) - 1) = (j : Int) - 1 := wrap_in (by omega) (by omega)
    refine xc_step fun C2 hC2 => ?_
    simp [go_sem, e6, xbin, eqPlain]
    subst hC2
    refine xc_step fun C2 hC2 => ?_
    rw [xc_seq, xc_block]
    refine xc_step fun C3 hC3 => ?_
    by_cases hb : l[j] = br
    · rw [hb] at g1'
      obtain ⟨cu, ci, cn, cf, rfl⟩ := SchV.shape _ _ hS
      have gm := cells_block hM (n := 11) rfl
      have hq : (br.toList == br.toList) = true := (Lib.bytes_beq_iff _ _).2 rfl
      simp [go_sem, h0, h5, e6, f1, xindexAt, hj, vload, g1', xbin, eqPlain, hq, xnew, Value.cells, Instr.fill, z1]
      intro b1 hb1
      have d1 : m ≠ b1 := ne_of_none hM hb1
      have hM1 : (B.set b1 (.cells #[.string arr] 9)) m = some (.cells (scv cu ci cn cf) 43 (0, 0)) := by rw [set_other d1]; exact hM
      have gm := cells_block hM1 (n := 11) rfl
      simp [gm, Instr.fill, z11, onS_some]
      intro b2 hb2
      have d2 : m ≠ b2 := ne_of_none hM1 hb2
      have d12 : b1 ≠ b2 := fun hx => by rw [← hx, set_at] at hb2; cases hb2
      have hM2 : ((B.set b1 (.cells #[.string arr] 9)).set b2 (.cells (scv cu ci cn cf) 43)) m = some (.cells (scv cu ci cn cf) 43 (0, 0)) := by rw [set_other d2]; exact hM1
      have L1 : B ≤ (B.set b1 (.cells #[.string arr] 9)).set b2 (.cells (scv cu ci cn cf) 43) := View.le_trans (le_set hb1) (le_set hb2)
      have t1 : tx ((B.set b1 (.cells #[.string arr] 9)).set b2 (.cells (scv cu ci cn cf) 43)) b1 arr := by unfold tx; rw [set_other d12, set_at]
      have t2 := set_at (B.set b1 (.cells #[.string arr] 9)) b2 (.cells (scv cu ci cn cf) 43)
      clear gm hM1
      generalize (B.set b1 (.cells #[.string arr] 9)).set b2 (.cells (scv cu ci cn cf) 43) = B1 at hM2 L1 t1 t2
      have hst := xstore_agg (P := Try.prog) (vs := scv (sl1 b1) (sl1 b2) nl nl) ti43 rfl hM2 rfl (by simp [one])
      simp [go_sem, xbuild, Instr.fill, Value.cells, hst]
      subst hC2
      simp [go_sem, e6, xbin, eqPlain, hw2]
      refine hJ j _ _ _ (by omega) ⟨by omega, rfl, by simp [go_sem, h0], by simp [go_sem, h1], by simp [go_sem, h5], by simp [go_sem], scv (sl1 b1) (sl1 b2) nl nl, set_at _ _ _, ?_, le_erase_set (View.le_trans LE (erase_mono L1 m))⟩
      rw [List.drop_eq_getElem_cons hj]
      refine .inl ⟨hb, b1, b2, scv cu ci cn cf, rfl, ?_, ?_, rfl, SchV.le (le_erase_set (erase_mono L1 m)) _ _ hS⟩
      · unfold tx; rw [erase_at d1.symm, set_other d1.symm]; exact t1
      · rw [erase_at d2.symm, set_other d2.symm]; exact t2
    · have hq : (l[j].toList == br.toList) = false := (Lib.bytes_beq_false_iff _ _).2 hb
      have hq2 : (l[j].toList == [91, 93]) = false := by rw [← hq, ByteArray.toList_eq br]
      simp [go_sem, h0, e6, f1, xindexAt, hj, vload, g1', xbin, eqPlain, hq, hq2]
      subst hC3
      refine xc_step fun C3 hC3 => ?_
      simp [go_sem, h0, e6, f1, xindexAt, hj, vload, g1']
      refine (text18 B l[j]).mono ?_
      rintro _ B1 ⟨rfl, L1⟩
      refine (plain17 B1 l[j] (hsz _ (List.getElem_mem hj))).mono ?_
      rintro _ B2 ⟨⟨q, rfl⟩, L2⟩
      have L3 := View.le_trans L1 L2
      cases q with
      | false =>
        simp [go_sem, xunop]
        refine hX _ _ _ _ ?_
        simp [go_sem]
        exact View.le_trans LB L3
      | true =>
      simp [go_sem, xunop]
      subst hC3
      have hM := L3 _ _ hM
      have hS := SchV.le (erase_mono L3 m) _ _ hS
      have LE := View.le_trans LE (erase_mono L3 m)
      have g1 := le_cell L3 g1'
      clear L1 L2 L3 g1' LB
      obtain ⟨cu, ci, cn, cf, rfl⟩ := SchV.shape _ _ hS
      have gm := cells_block hM (n := 11) rfl
      rw [xc_draws]
      refine vdrawK [(0, true), (1, true), (2, true), (3, true), (4, true), (5, true), (6, true), (7, true), (8, true), (9, false)] B2 mixed (by kernel_rfl) (View.le_refl _) fun K hK => ?_
      simp only [rslv_cons, rslv_nil, List.getElem?_toArray, List.getElem?_cons_zero, List.getElem?_cons_succ, gres]
      simp [go_sem, h0, h5, e6, f1, xindexAt, hj, vload, g1, gm, xnew, Value.cells, Instr.fill, z1, z11]
      intro b1 hb1 bn hbn b2 hb2
      have d1 : m ≠ b1 := ne_of_none hM hb1
      have hM1 : (B2.set b1 (.cells #[.string obj] 9)) m = some (.cells (scv cu ci cn cf) 43 (0, 0)) := by rw [set_other d1]; exact hM
      have dn : m ≠ bn := ne_of_none hM1 hbn
      have hMn : ((B2.set b1 (.cells #[.string obj] 9)).set bn (.cells #[.string l[j]] 9)) m = some (.cells (scv cu ci cn cf) 43 (0, 0)) := by rw [set_other dn]; exact hM1
      have d2 : m ≠ b2 := ne_of_none hMn hb2
      have hM2 : (((B2.set b1 (.cells #[.string obj] 9)).set bn (.cells #[.string l[j]] 9)).set b2 (.cells (scv cu ci cn cf) 43)) m = some (.cells (scv cu ci cn cf) 43 (0, 0)) := by rw [set_other d2]; exact hMn
      have d1n : b1 ≠ bn := ne_of_none (set_at B2 b1 _) hbn
      have t1' : ((B2.set b1 (.cells #[.string obj] 9)).set bn (.cells #[.string l[j]] 9)) b1 = some (.cells #[.string obj] 9 (0, 0)) := by rw [set_other d1n, set_at]
      have t1 : tx (((B2.set b1 (.cells #[.string obj] 9)).set bn (.cells #[.string l[j]] 9)).set b2 (.cells (scv cu ci cn cf) 43)) b1 obj := by unfold tx; rw [set_other (ne_of_none t1' hb2)]; exact t1'
      have tn : tx (((B2.set b1 (.cells #[.string obj] 9)).set bn (.cells #[.string l[j]] 9)).set b2 (.cells (scv cu ci cn cf) 43)) bn l[j] := by unfold tx; rw [set_other (ne_of_none (set_at _ bn _) hb2), set_at]
      have t2 := set_at ((B2.set b1 (.cells #[.string obj] 9)).set bn (.cells #[.string l[j]] 9)) b2 (.cells (scv cu ci cn cf) 43)
      have L1 : B2 ≤ ((B2.set b1 (.cells #[.string obj] 9)).set bn (.cells #[.string l[j]] 9)).set b2 (.cells (scv cu ci cn cf) 43) := View.le_trans (le_set hb1) (View.le_trans (le_set hbn) (le_set hb2))
      clear gm hM1 hMn t1'
      generalize ((B2.set b1 (.cells #[.string obj] 9)).set bn (.cells #[.string l[j]] 9)).set b2 (.cells (scv cu ci cn cf) 43) = B3 at hM2 L1 t1 tn t2
      have hst := xstore_agg (P := Try.prog) (vs := scv (sl1 b1) nl (sl1 bn) (sl1 b2)) ti43 rfl hM2 rfl (by simp [one])
      simp [go_sem, xbuild, Instr.fill, Value.cells, hst]
      refine hK _ _ _ ?_
      clear hK hst
      simp [go_sem]
      subst hC2
      simp [go_sem, e6, xbin, eqPlain, hw2]
      refine hJ j _ _ _ (by omega) ⟨by omega, rfl, by simp [go_sem, h0], by simp [go_sem, h1], by simp [go_sem, h5], by simp [go_sem], scv (sl1 b1) nl (sl1 bn) (sl1 b2), set_at _ _ _, ?_, le_erase_set (View.le_trans LE (erase_mono L1 m))⟩
      rw [List.drop_eq_getElem_cons hj]
      refine .inr ⟨hb, b1, bn, b2, scv cu ci cn cf, rfl, ?_, ?_, ?_, rfl, SchV.le (le_erase_set (erase_mono L1 m)) _ _ hS⟩
      · unfold tx; rw [erase_at d1.symm, set_other d1.symm]; exact t1
      · unfold tx; rw [erase_at dn.symm, set_other dn.symm]; exact tn
      · rw [erase_at d2.symm, set_other d2.symm]; exact t2
theorem law6' (W : World) (w : Value) (y : List ByteArray) (o : Texts (full W) w y ∧ y.length ≤ maxLen ∧ ∀ s ∈ y, s.size ≤ maxLen) (T : ByteArray) (hT : T.size ≤ 140737488351232) :
    VCalls Try.prog 6 #[w, .string T] (full W) fun r A' => r = .bool true ∧ full W ≤ A' :=
  law6 (full W) w y T o.1 (Nat.le_trans o.2.1 (by decide)) (fun s hs => Nat.le_trans (o.2.2 s hs) (by decide)) (by omega)
end Go.Proofs.YtcficphbjicneaaV

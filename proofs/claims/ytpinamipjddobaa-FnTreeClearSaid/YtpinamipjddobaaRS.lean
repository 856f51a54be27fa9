/- Trees: FieldClearer's closure where it clears. -/
import Derived.Test.YtpinamipjddobaaRR
namespace Go.Proofs.YtpinamipjddobaaV
open Go.RowKit
set_option linter.unusedSimpArgs false
set_option linter.unusedVariables false
/-- A list without a pair. -/
def less {α : Type} (l : List α) (i : Nat) : List α := l.take i ++ l.drop (i + 2)
theorem less_get {α : Type} (l : List α) (i j : Nat) (hi : i ≤ l.length) : (less l i)[j]? = if j < i then l[j]? else l[j + 2]? := by
  rw [less]
  by_cases h : j < i
  · rw [if_pos h, List.getElem?_append_left (by rw [List.length_take]; omega), List.getElem?_take_of_lt h]
  · rw [if_neg h, List.getElem?_append_right (by rw [List.length_take]; omega), List.length_take, Nat.min_eq_left hi, List.getElem?_drop]
    congr 1
    omega
theorem less_len {α : Type} (l : List α) (i : Nat) (hi : i + 1 < l.length) : (less l i).length = l.length - 2 := by
  rw [less, List.length_append, List.length_take, List.length_drop]
  omega
theorem less_yn {B : View} {kids : List Tr} {ps : List Nat} {i : Nat} (hl : ps.length = kids.length) (hi : i + 1 < kids.length) (h : ∀ j (hj : j < kids.length), ∃ q, ps[j]? = some q ∧ IsYn B (kids[j]) q) : ∀ j (hj : j < (less kids i).length), ∃ q, (less ps i)[j]? = some q ∧ IsYn B ((less kids i)[j]) q := by
  intro j hj
  have h1 := less_get kids i j (by omega)
  rw [List.getElem?_eq_getElem hj] at h1
  rw [less_get ps i j (by omega)]
  have hlen := less_len kids i hi
  by_cases hji : j < i
  · rw [if_pos hji] at h1 ⊢
    rw [List.getElem?_eq_getElem (by omega)] at h1
    obtain ⟨q, k1, k2⟩ := h j (by omega)
    exact ⟨q, k1, by rw [Option.some.inj h1]; exact k2⟩
  · rw [if_neg hji] at h1 ⊢
    rw [List.getElem?_eq_getElem (by omega)] at h1
    obtain ⟨q, k1, k2⟩ := h (j + 2) (by omega)
    exact ⟨q, k1, by rw [Option.some.inj h1]; exact k2⟩
/-- A mapping without a pair. -/
def Tr.less (t : Tr) (i : Nat) : Tr :=
  match t with
  | .mk k st tag val an h l f row col al kids => .mk k st tag val an h l f row col al (Proofs.YtpinamipjddobaaV.less kids i)
theorem clear_ne : (62 : TypeId) ≠ 90 ∧ (62 : TypeId) ≠ 114 ∧ (62 : TypeId) ≠ 111 ∧ (62 : TypeId) ≠ 86 := by decide
theorem blk_ne {A : View} {a b : Nat} {c c' : Array Value} {e e' : TypeId} (ha : A a = some (.cells c e (0, 0))) (hb : A b = some (.cells c' e' (0, 0))) (h : e ≠ e') : a ≠ b := fun hx => by
  rw [hx, hb] at ha
  injection ha with ha
  injection ha with h1 h2
  exact h h2.symm
set_option maxRecDepth 20000 in
set_option maxHeartbeats 400000 in
theorem clearC (A0 B A : View) (q p b2 b3 b7 kp vp i : Nat) (nm : ByteArray) (ie : Bool) (k st : Int) (tag val an h l f : ByteArray) (row col al : Int) (kids : List Tr) (cb : Option Addr) (cc : Nat) (ps : List Nat)
    (y1 : A0 ≤ B) (y2 : B ≤ A) (y3 : B p = none) (y4 : A p = some (.cells (ync k st tag val an (.slice cb kids.length cc) h l f row col) 114 (0, 0))) (y5 : Own B A 90 1 (.slice cb kids.length cc) kids.length (ps.map ptr0)) (y6 : blockOf (.slice cb kids.length cc) ≠ some p) (y7 : ps.length = kids.length) (y8 : ∀ j (hj : j < kids.length), ∃ q, ps[j]? = some q ∧ IsYn B (kids[j]) q)
    (hq : A q = some (.cells (rnc p) 111 (0, 0))) (hqp : q ≠ p) (hk : k ≠ 1) (x2 : A b2 = some (.cells #[.string ⟨#[]⟩, .string nm, .bool ie] 86 (0, 0))) (x3 : A b3 = some (.cells #[ptr0 q] 62 (0, 0))) (x7 : A b7 = some (.cells #[.pointer none] 62 (0, 0))) (n7 : B b7 = none) (d73 : b7 ≠ b3)
    (hi : i + 1 < kids.length) (hkl : kids.length ≤ 1000000) (hkp : IsYn B kids[i] kp) (hvp : IsYn B kids[i + 1] vp) (hv : (kids[i]).value = nm) (hie : ¬ (ie = true ∧ (kids[i + 1]).kids ≠ [])) (hyl : (kids[i + 1]).kids.length ≤ 1000000) :
    VCalls Try.prog 133 #[ptr0 kp, ptr0 vp, .int .i64 i, ptr0 b2, ptr0 b7, ptr0 b3] A fun r A' => r = .bool false ∧ ∃ rn, A' b7 = some (.cells #[ptr0 rn] 62 (0, 0)) ∧ IsRn A' kids[i + 1] rn ∧ TopR A0 A' (.mk k st tag val an h l f row col al (less kids i)) q p := by
  have c1 := cell_of (i := 1) x2 rfl
  have c2 := cell_of (i := 2) x2 rfl
  have hyy := hvp
  obtain ⟨k', st', tag', val', an', h', l', f', row', col', al', kids', hkk⟩ := (kids[i + 1]).ex
  obtain ⟨kx, stx, tagx, valx, anx, hx, lx, fx, rowx, colx, alx, kidsx, hkx⟩ := (kids[i]).ex
  rw [hkx] at hkp hv
  replace hv : valx = nm := hv
  subst hv
  obtain ⟨cvx, psx, hpx, -, -, -⟩ := hkp.open
  have hpx := y2 _ _ hpx
  have c3 := cell_of (i := 3) hpx rfl
  rw [hkk] at hvp hie hyl
  replace hie : ¬ (ie = true ∧ kids' ≠ []) := hie
  replace hyl : kids'.length ≤ 1000000 := hyl
  obtain ⟨cv', ps', hp', hrow', -, -⟩ := hvp.open
  obtain ⟨cb', cc', rfl⟩ := hrow'.form
  have hp' := y2 _ _ hp'
  have c6 := cell_of (i := 6) hp' rfl
  refine xcalls Try.func133 rfl (by simp [Try.ntmps133]) ?_
  simp only [Try.f133]
  have hP : Priv A (addrs []) := Priv.nil A
  show xc _ _ _ _ _ _ (ov A [])
  refine xc_two fun N1 hN1 => ?_
  refine xc_reg1 1 rfl fun K hK => ?_
  simp only [show (List.range 1).map (·, true) = [(0, true)] from rfl, rslv_cons, rslv_nil, List.getElem?_toArray, List.getElem?_cons_zero, List.getElem?_cons_succ, gres]
  (refine seqX_hide2 fun R hR => ?_; simp [go_sem, bc hP c1, bc hP c2, bc hP c3, bc hP c6]; refine hR _ _ _ ?_; clear hR R)
  rw [seqX_nil]
  refine hK _ _ _ ?_; clear hK K
  refine hN1 _ _ _ ?_
  refine xc_two fun N2 hN2 => ?_
  refine xc_two fun N3 hN3 => ?_
  rw [xc_draws]
  refine vdrawK [(0, true), (1, true), (2, true), (3, true), (4, true), (5, true), (6, true)] (ov A []) mixed (by kernel_rfl) (View.le_refl _) fun K hK => ?_
  simp only [rslv_cons, rslv_nil, List.getElem?_toArray, List.getElem?_cons_zero, List.getElem?_cons_succ, gres]
  iterate 7 (refine seqR_hide fun R hR => ?_; simp [go_sem, bc hP c1, bc hP c2, bc hP c3, bc hP c6]; refine hR _ _ _ ?_; clear hR R)
  rw [seqR_nil]
  refine hK _ _ _ ?_; clear hK K
  refine hN3 _ _ _ ?_
  refine xc_iffalse (by simp [go_sem, bc hP c1, bc hP c2, bc hP c3, bc hP c6]) ?_
  refine hN2 _ _ _ ?_
  refine xc_two fun N4 hN4 => ?_
  refine xc_two fun N5 hN5 => ?_
  have tl : ∀  (e : Env), Priv A [] → e 1 = ptr0 vp → e 2 = .int .i64 i → e 4 = ptr0 b7 → e 5 = ptr0 b3 → N4 e [] (ov A []) := by
    clear hP
    intro e hP g1 g2 g4 g5
    refine hN4 _ _ _ ?_
    refine xc_two fun N6 hN6 => ?_
    refine xc_reg1 3 rfl fun K hK => ?_
    simp only [show (List.range 3).map (·, true) = [(0, true), (1, true), (2, true)] from rfl, rslv_cons, rslv_nil, List.getElem?_toArray, List.getElem?_cons_zero, List.getElem?_cons_succ, gres]
    (refine seqX_hide2 fun R hR => ?_; simp [go_sem, g1, g2, g4, g5]; refine hR _ _ _ ?_; clear hR R)
    refine seqX_hide2 fun R hR => ?_
    simp [go_sem, g1, g2, g4, g5]
    refine call_ov hP (newRNodeS A vp) ?_
    clear hP
    rintro _ A1 ⟨rn, rfl, hrn, hrn0, hA1⟩ hP
    have hs := cstore (L := []) hP ti62 (hA1 _ _ x7) (u := ptr0 rn) rfl
    have hsa := hs.1
    have n7p : p ≠ b7 := (blk_ne x7 y4 clear_ne.2.1).symm
    have n7q : q ≠ b7 := (blk_ne x7 hq clear_ne.2.2.1).symm
    have n7r : rn ≠ b7 := (blk_ne (hA1 _ _ x7) hrn clear_ne.2.2.1).symm
    have n73 : b3 ≠ b7 := fun e => d73 e.symm
    have n7c := own_ty y5 x7 clear_ne.1
    have o2 : Own B (A1.set b7 (.cells #[ptr0 rn] 62 (0, 0))) 90 1 (.slice cb kids.length cc) kids.length (ps.map ptr0) := own_move (y5.le hA1) fun k o k1 k2 k3 => ⟨k1, by
      rw [set_other (fun hx => n7c (by rw [← hx]; exact k2))]
      exact k3⟩
    have p2 : (A1.set b7 (.cells #[ptr0 rn] 62 (0, 0))) p = _ := (set_other n7p).trans (hA1 _ _ y4)
    have q2 : (A1.set b7 (.cells #[ptr0 rn] 62 (0, 0))) q = _ := (set_other n7q).trans (hA1 _ _ hq)
    have r2 : (A1.set b7 (.cells #[ptr0 rn] 62 (0, 0))) rn = _ := (set_other n7r).trans hrn
    have t2 : (A1.set b7 (.cells #[ptr0 rn] 62 (0, 0))) b3 = _ := (set_other n73).trans (hA1 _ _ x3)
    have s2 : (A1.set b7 (.cells #[ptr0 rn] 62 (0, 0))) b7 = _ := set_at _ _ _
    have l2 : B ≤ A1.set b7 (.cells #[ptr0 rn] 62 (0, 0)) := le_set0 (View.le_trans y2 hA1) n7
    refine hR _ _ _ ?_; clear hR R
    refine seqX_hide2 fun R hR => ?_
    simp [go_sem, g1, g2, g4, g5, hsa]
    refine hR _ _ _ ?_; clear hR R
    clear hP
    have hP := hs.2
    clear hsa hs
    generalize A1.set b7 (.cells #[ptr0 rn] 62 (0, 0)) = A2 at hP o2 p2 q2 r2 t2 s2 l2 ⊢
    have c3b := cell_of (i := 0) t2 rfl
    have c6p := cell_of (i := 6) p2 rfl
    have hwi : IntKind.i64.wrap ((i : Int) + 2) = ((i + 2 : Nat) : Int) := by rw [wrap_in (by omega) (by omega)]; omega
    rw [seqX_nil]
    refine hK _ _ _ ?_; clear hK K
    refine hN6 _ _ _ ?_
    refine xc_two fun N7 hN7 => ?_
    refine xc_two fun N8 hN8 => ?_
    refine xc_reg1 9 rfl fun K hK => ?_
    simp only [show (List.range 9).map (·, true) = [(0, true), (1, true), (2, true), (3, true), (4, true), (5, true), (6, true), (7, true), (8, true)] from rfl, rslv_cons, rslv_nil, List.getElem?_toArray, List.getElem?_cons_zero, List.getElem?_cons_succ, gres]
    (refine seqX_hide2 fun R hR => ?_; simp [go_sem, g1, g2, g4, g5, bc hP c3b, bc hP c6p, hwi]; refine hR _ _ _ ?_; clear hR R)
    refine seqX_hide2 fun R hR => ?_
    simp [go_sem, g1, g2, g4, g5, bc hP c3b, bc hP c6p, hwi]
    refine call_same hP (ynode48 A2 q p k st tag val an (.slice cb kids.length cc) h l f row col q2 p2 hk) ?_
    rintro _ rfl
    obtain ⟨a, rfl⟩ : ∃ a, cb = some a := by
      rcases o2.2 with ⟨e1, e2⟩ | ⟨a, c, e1, _⟩
      · omega
      · injection e1 with e3
        exact ⟨a, e3⟩
    obtain ⟨hncc, hcells⟩ := own_cells o2
    have j1 : (i : Int) ≤ cc := by omega
    have j2 : i ≤ cc := by omega
    have j3 : ¬ cc = 0 := by omega
    by_cases hmid : i + 2 < kids.length
    · have hm1 : ((i + 2 : Nat) : Int) < kids.length := by omega
      have hm2 : (i : Int) + 2 < kids.length := by omega
      refine hR _ _ _ ?_; clear hR R
      iterate 7 (refine seqX_hide2 fun R hR => ?_; simp [go_sem, g1, g2, g4, g5, bc hP c3b, bc hP c6p, hwi, j1, j2, j3, xslice, hmid, hm1, hm2]; refine hR _ _ _ ?_; clear hR R)
      rw [seqX_nil]
      refine hK _ _ _ ?_; clear hK K
      refine hN8 _ _ _ ?_
      refine xc_iftrue (by simp [go_sem, g1, g2, g4, g5, bc hP c3b, bc hP c6p, hwi, j1, j2, j3, xslice, hmid, hm1, hm2]) ?_
      refine xc_two fun N9 hN9 => ?_
      refine xc_reg1 7 rfl fun K hK => ?_
      simp only [show (List.range 7).map (·, true) = [(0, true), (1, true), (2, true), (3, true), (4, true), (5, true), (6, true)] from rfl, rslv_cons, rslv_nil, List.getElem?_toArray, List.getElem?_cons_zero, List.getElem?_cons_succ, gres]
      (refine seqX_hide2 fun R hR => ?_; simp [go_sem, g1, g2, g4, g5, bc hP c3b, bc hP c6p, hwi, j1, j2, j3, xslice, hmid, hm1, hm2]; refine hR _ _ _ ?_; clear hR R)
      refine seqX_hide2 fun R hR => ?_
      simp [go_sem, g1, g2, g4, g5, bc hP c3b, bc hP c6p, hwi, j1, j2, j3, xslice, hmid, hm1, hm2]
      refine call_same hP (ynode48 A2 q p k st tag val an (.slice (some a) kids.length cc) h l f row col q2 p2 hk) ?_
      rintro _ rfl
      refine hR _ _ _ ?_; clear hR R
      iterate 5 (refine seqX_hide2 fun R hR => ?_; simp [go_sem, g1, g2, g4, g5, bc hP c3b, bc hP c6p, hwi, j1, j2, j3, xslice, hmid, hm1, hm2]; refine hR _ _ _ ?_; clear hR R)
      rw [seqX_nil]
      refine hK _ _ _ ?_; clear hK K
      refine hN9 _ _ _ ?_
      refine xc_two fun N10 hN10 => ?_
      rw [xc_draws]
      refine vdrawK [(0, true), (1, true), (2, true), (3, false), (4, true), (5, true), (6, true), (7, true), (8, false)] (ov A2 []) mixed (by kernel_rfl) (View.le_refl _) fun K hK => ?_
      simp only [rslv_cons, rslv_nil, List.getElem?_toArray, List.getElem?_cons_zero, List.getElem?_cons_succ, gres]
      (refine seqR_hide fun R hR => ?_; simp [go_sem, g1, g2, g4, g5, bc hP c3b, bc hP c6p, hwi, j1, j2, j3, xslice, hmid, hm1, hm2]; refine hR _ _ _ ?_; clear hR R)
      refine seqR_hide fun R hR => ?_
      simp [go_sem, g1, g2, g4, g5, bc hP c3b, bc hP c6p, hwi, j1, j2, j3, xslice, hmid, hm1, hm2]
      refine call_same hP (ynode48 A2 q p k st tag val an (.slice (some a) kids.length cc) h l f row col q2 p2 hk) ?_
      rintro _ rfl
      refine ⟨View.le_refl _, hR _ _ _ ?_⟩; clear hR R
      (refine seqR_hide fun R hR => ?_; simp [go_sem, g1, g2, g4, g5, bc hP c3b, bc hP c6p, hwi, j1, j2, j3, xslice, hmid, hm1, hm2]; refine hR _ _ _ ?_; clear hR R)
      refine seqR_hide fun R hR => ?_
      simp [go_sem, g1, g2, g4, g5, bc hP c3b, bc hP c6p, hwi, j1, j2, j3, xslice, hmid, hm1, hm2]
      refine call_same hP (content36 A2 q p k st tag val an (.slice (some a) kids.length cc) h l f row col q2 p2 hk) ?_
      rintro _ rfl
      have hs := cstoreF (L := []) hP ti100 p2 (i := 6) (u := .slice (some a) i cc) (c' := ync k st tag val an (.slice (some a) i cc) h l f row col) (by show 6 < 12; decide) rfl rfl
      have hsa := hs.1
      refine hR _ _ _ ?_; clear hR R
      iterate 4 (refine seqR_hide fun R hR => ?_; simp [go_sem, g1, g2, g4, g5, bc hP c3b, bc hP c6p, hwi, j1, j2, j3, xslice, hmid, hm1, hm2, hsa]; refine hR _ _ _ ?_; clear hR R)
      refine seqR_hide fun R hR => ?_
      simp [go_sem, g1, g2, g4, g5, bc hP c3b, bc hP c6p, hwi, j1, j2, j3, xslice, hmid, hm1, hm2, hsa]
      refine hR _ _ _ ?_; clear hR R
      have ne3 : b3 ≠ p := blk_ne t2 p2 clear_ne.2.1
      have ne7 : b7 ≠ p := blk_ne s2 p2 clear_ne.2.1
      have ner : rn ≠ p := blk_ne r2 p2 (by decide)
      have o3f : Own B (A2.set p (.cells (ync k st tag val an (.slice (some a) i cc) h l f row col) 114 (0, 0))) 90 1 (.slice (some a) kids.length cc) kids.length (ps.map ptr0) := own_move o2 fun k o k1 k2 k3 => ⟨k1, by
        rw [set_other (fun hx => y6 (by rw [← hx]; exact k2))]
        exact k3⟩
      have p3 : (A2.set p (.cells (ync k st tag val an (.slice (some a) i cc) h l f row col) 114 (0, 0))) p = _ := set_at _ _ _
      have q3 : (A2.set p (.cells (ync k st tag val an (.slice (some a) i cc) h l f row col) 114 (0, 0))) q = _ := (set_other hqp).trans q2
      have r3 : (A2.set p (.cells (ync k st tag val an (.slice (some a) i cc) h l f row col) 114 (0, 0))) rn = _ := (set_other ner).trans r2
      have t3 : (A2.set p (.cells (ync k st tag val an (.slice (some a) i cc) h l f row col) 114 (0, 0))) b3 = _ := (set_other ne3).trans t2
      have s3 : (A2.set p (.cells (ync k st tag val an (.slice (some a) i cc) h l f row col) 114 (0, 0))) b7 = _ := (set_other ne7).trans s2
      have l3 : B ≤ A2.set p (.cells (ync k st tag val an (.slice (some a) i cc) h l f row col) 114 (0, 0)) := le_set0 l2 y3
      clear hP
      have hP := hs.2
      clear hsa hs
      generalize A2.set p (.cells (ync k st tag val an (.slice (some a) i cc) h l f row col) 114 (0, 0)) = A3 at hP o3f p3 q3 r3 t3 s3 l3 ⊢
      have o3 := own_take o3f (show i ≤ kids.length by omega)
      obtain ⟨-, hcells3⟩ := own_cells o3f
      have d3b := cell_of (i := 0) t3 rfl
      have d6p := cell_of (i := 6) p3 rfl
      have m1 : ((i + 2 : Nat) : Int) ≤ kids.length := by omega
      have m2 : (kids.length : Int) ≤ cc := by omega
      have m3 : ¬ cc = i + 2 := by omega
      have m4 : (0 : Int) ≤ (i : Int) + 2 := by omega
      have m5 : (i : Int) + 2 ≤ kids.length := by omega
      have m6 : i + 2 ≤ kids.length := by omega
      have m7 : ((i : Int) + 2).toNat = i + 2 := by omega
      rw [seqR_nil]
      refine hK _ _ _ ?_; clear hK K
      refine hN10 _ _ _ ?_
      rw [xc_draws]
      refine vdrawK [(0, true), (1, true), (2, true), (3, true), (4, true), (5, true), (6, true), (7, true), (8, true), (9, true), (10, true), (11, true), (12, true), (13, false), (14, true), (15, true), (16, false)] (ov A3 []) mixed (by kernel_rfl) (View.le_refl _) fun K hK => ?_
      simp only [rslv_cons, rslv_nil, List.getElem?_toArray, List.getElem?_cons_zero, List.getElem?_cons_succ, gres]
      (refine seqR_hide fun R hR => ?_; simp [go_sem, g1, g2, g4, g5, hwi, j1, j2, j3, xslice, hmid, hm1, hm2, bc hP d3b, bc hP d6p, m1, m2, m3, m4, m5, m6, m7]; refine hR _ _ _ ?_; clear hR R)
      refine seqR_hide fun R hR => ?_
      simp [go_sem, g1, g2, g4, g5, hwi, j1, j2, j3, xslice, hmid, hm1, hm2, bc hP d3b, bc hP d6p, m1, m2, m3, m4, m5, m6, m7]
      refine call_same hP (ynode48 A3 q p k st tag val an (.slice (some a) i cc) h l f row col q3 p3 hk) ?_
      rintro _ rfl
      refine ⟨View.le_refl _, hR _ _ _ ?_⟩; clear hR R
      (refine seqR_hide fun R hR => ?_; simp [go_sem, g1, g2, g4, g5, hwi, j1, j2, j3, xslice, hmid, hm1, hm2, bc hP d3b, bc hP d6p, m1, m2, m3, m4, m5, m6, m7]; refine hR _ _ _ ?_; clear hR R)
      refine seqR_hide fun R hR => ?_
      simp [go_sem, g1, g2, g4, g5, hwi, j1, j2, j3, xslice, hmid, hm1, hm2, bc hP d3b, bc hP d6p, m1, m2, m3, m4, m5, m6, m7]
      refine call_same hP (ynode48 A3 q p k st tag val an (.slice (some a) i cc) h l f row col q3 p3 hk) ?_
      rintro _ rfl
      refine ⟨View.le_refl _, hR _ _ _ ?_⟩; clear hR R
      iterate 4 (refine seqR_hide fun R hR => ?_; simp [go_sem, g1, g2, g4, g5, hwi, j1, j2, j3, xslice, hmid, hm1, hm2, bc hP d3b, bc hP d6p, m1, m2, m3, m4, m5, m6, m7]; refine hR _ _ _ ?_; clear hR R)
      refine seqR_hide fun R hR => ?_
      simp [go_sem, g1, g2, g4, g5, hwi, j1, j2, j3, xslice, hmid, hm1, hm2, bc hP d3b, bc hP d6p, m1, m2, m3, m4, m5, m6, m7]
      refine call_same hP (content36 A3 q p k st tag val an (.slice (some a) i cc) h l f row col q3 p3 hk) ?_
      rintro _ rfl
      refine ⟨View.le_refl _, hR _ _ _ ?_⟩; clear hR R
      iterate 4 (refine seqR_hide fun R hR => ?_; simp [go_sem, g1, g2, g4, g5, hwi, j1, j2, j3, xslice, hmid, hm1, hm2, bc hP d3b, bc hP d6p, m1, m2, m3, m4, m5, m6, m7]; refine hR _ _ _ ?_; clear hR R)
      refine seqR_hide fun R hR => ?_
      simp [go_sem, g1, g2, g4, g5, hwi, j1, j2, j3, xslice, hmid, hm1, hm2, bc hP d3b, bc hP d6p, m1, m2, m3, m4, m5, m6, m7]
      refine append_ov (cs := (ps.map ptr0).drop (i + 2)) (m := kids.length - (i + 2)) hP ti100 ti100 (fun k => by simp) ti90 rfl (by decide) o3 l3 (appended_row (.inl ⟨_, _, rfl, by rw [Nat.mul_one]; exact cells_drop hcells3 (by omega)⟩)) (by simp [isStr]) (fun v hv => by obtain ⟨z, -, rfl⟩ := List.mem_map.1 (List.mem_of_mem_drop hv); rfl) (by omega) ?_
      clear hP
      rintro v5 A5 h5 hO5 h5e hP
      have p5 := keep_block h5e o3 p3 setter_ne.1
      have q5 := keep_block h5e o3 q3 setter_ne.2
      have r5 := keep_block h5e o3 r3 setter_ne.2
      have s5 := keep_block h5e o3 s3 clear_ne.1
      have z5 := own_ty hO5 p5 setter_ne.1
      obtain ⟨wb, wc, rfl⟩ := hO5.shape
      have hs := cstoreF (L := []) hP ti100 p5 (i := 6) (u := .slice wb (i + (kids.length - (i + 2))) wc) (c' := ync k st tag val an (.slice wb (i + (kids.length - (i + 2))) wc) h l f row col) (by show 6 < 12; decide) rfl rfl
      have hsa := hs.1
      refine hR _ _ _ ?_; clear hR R
      iterate 2 (refine seqR_hide fun R hR => ?_; simp [go_sem, g1, g2, g4, g5, hwi, j1, j2, j3, xslice, hmid, hm1, hm2, m1, m2, m3, m4, m5, m6, m7, hsa]; refine hR _ _ _ ?_; clear hR R)
      refine seqR_hide fun R hR => ?_
      simp [go_sem, g1, g2, g4, g5, hwi, j1, j2, j3, xslice, hmid, hm1, hm2, m1, m2, m3, m4, m5, m6, m7, hsa]
      refine hR _ _ _ ?_; clear hR R
      rw [seqR_nil]
      refine hK _ _ _ ?_; clear hK K
      refine hN7 _ _ _ ?_
      refine xc_two fun N11 hN11 => ?_
      refine xc_reg1 1 rfl fun K hK => ?_
      simp only [show (List.range 1).map (·, true) = [(0, true)] from rfl, rslv_cons, rslv_nil, List.getElem?_toArray, List.getElem?_cons_zero, List.getElem?_cons_succ, gres]
      (refine seqX_hide2 fun R hR => ?_; simp [go_sem, g1, g2, g4, g5, hwi, j1, j2, j3, xslice, hmid, hm1, hm2, m1, m2, m3, m4, m5, m6, m7, hsa]; refine hR _ _ _ ?_; clear hR R)
      rw [seqX_nil]
      refine hK _ _ _ ?_; clear hK K
      refine hN11 _ _ _ ?_
      simp [go_sem, g1, g2, g4, g5, hwi, j1, j2, j3, xslice, hmid, hm1, hm2, m1, m2, m3, m4, m5, m6, m7, hsa]
      have rp5 : rn ≠ p := blk_ne r5 p5 (by decide)
      have sp5 : b7 ≠ p := blk_ne s5 p5 clear_ne.2.1
      have p6 : (A5.set p (.cells (ync k st tag val an (.slice wb (i + (kids.length - (i + 2))) wc) h l f row col) 114 (0, 0))) p = _ := set_at _ _ _
      have q6 : (A5.set p (.cells (ync k st tag val an (.slice wb (i + (kids.length - (i + 2))) wc) h l f row col) 114 (0, 0))) q = _ := (set_other hqp).trans q5
      have r6 : (A5.set p (.cells (ync k st tag val an (.slice wb (i + (kids.length - (i + 2))) wc) h l f row col) 114 (0, 0))) rn = _ := (set_other rp5).trans r5
      have s6 : (A5.set p (.cells (ync k st tag val an (.slice wb (i + (kids.length - (i + 2))) wc) h l f row col) 114 (0, 0))) b7 = _ := (set_other sp5).trans s5
      have l6 : B ≤ A5.set p (.cells (ync k st tag val an (.slice wb (i + (kids.length - (i + 2))) wc) h l f row col) 114 (0, 0)) := le_set0 h5 y3
      have o6 : Own B (A5.set p (.cells (ync k st tag val an (.slice wb (i + (kids.length - (i + 2))) wc) h l f row col) 114 (0, 0))) 90 1 (.slice wb (i + (kids.length - (i + 2))) wc) (less kids i).length ((less ps i).map ptr0) := by
        have hO6 := hO5
        refine own_move (D' := B) ?_ fun k o k1 k2 k3 => ⟨k1, by
          rw [set_other (fun hx => z5 (by rw [← hx]; exact k2))]
          exact k3⟩
        have e1 : (less kids i).length = i + (kids.length - (i + 2)) := by rw [less_len kids i hi]; omega
        have e2 : (less ps i).map ptr0 = (ps.map ptr0).take i ++ (ps.map ptr0).drop (i + 2) := by rw [less, List.map_append, List.map_take, List.map_drop]
        rw [e1, e2]
        exact hO6
      refine ⟨rn, s6, ⟨vp, r6, hyy.le l6⟩, q6, hqp, B, (.slice wb (i + (kids.length - (i + 2))) wc), less ps i, y1, l6, y3, p6, o6, z5, ?_, less_yn y7 hi y8⟩
      rw [less_len ps i (by omega), less_len kids i hi, y7]
    have hm0 : kids.length = i + 2 := by omega
    have hm1 : ¬ ((i + 2 : Nat) : Int) < kids.length := by omega
    have hm2 : ¬ (i : Int) + 2 < kids.length := by omega
    refine hR _ _ _ ?_; clear hR R
    iterate 7 (refine seqX_hide2 fun R hR => ?_; simp [go_sem, g1, g2, g4, g5, bc hP c3b, bc hP c6p, hwi, j1, j2, j3, xslice, hmid, hm1, hm2]; refine hR _ _ _ ?_; clear hR R)
    rw [seqX_nil]
    refine hK _ _ _ ?_; clear hK K
    refine hN8 _ _ _ ?_
    refine xc_iffalse (by simp [go_sem, g1, g2, g4, g5, bc hP c3b, bc hP c6p, hwi, j1, j2, j3, xslice, hmid, hm1, hm2]) ?_
    rw [xc_draws]
    refine vdrawK [(0, true), (1, true), (2, true), (3, false), (4, true), (5, true), (6, true), (7, true), (8, false)] (ov A2 []) mixed (by kernel_rfl) (View.le_refl _) fun K hK => ?_
    simp only [rslv_cons, rslv_nil, List.getElem?_toArray, List.getElem?_cons_zero, List.getElem?_cons_succ, gres]
    (refine seqR_hide fun R hR => ?_; simp [go_sem, g1, g2, g4, g5, bc hP c3b, bc hP c6p, hwi, j1, j2, j3, xslice, hmid, hm1, hm2]; refine hR _ _ _ ?_; clear hR R)
    refine seqR_hide fun R hR => ?_
    simp [go_sem, g1, g2, g4, g5, bc hP c3b, bc hP c6p, hwi, j1, j2, j3, xslice, hmid, hm1, hm2]
    refine call_same hP (ynode48 A2 q p k st tag val an (.slice (some a) kids.length cc) h l f row col q2 p2 hk) ?_
    rintro _ rfl
    refine ⟨View.le_refl _, hR _ _ _ ?_⟩; clear hR R
    (refine seqR_hide fun R hR => ?_; simp [go_sem, g1, g2, g4, g5, bc hP c3b, bc hP c6p, hwi, j1, j2, j3, xslice, hmid, hm1, hm2]; refine hR _ _ _ ?_; clear hR R)
    refine seqR_hide fun R hR => ?_
    simp [go_sem, g1, g2, g4, g5, bc hP c3b, bc hP c6p, hwi, j1, j2, j3, xslice, hmid, hm1, hm2]
    refine call_same hP (content36 A2 q p k st tag val an (.slice (some a) kids.length cc) h l f row col q2 p2 hk) ?_
    rintro _ rfl
    have hs := cstoreF (L := []) hP ti100 p2 (i := 6) (u := .slice (some a) i cc) (c' := ync k st tag val an (.slice (some a) i cc) h l f row col) (by show 6 < 12; decide) rfl rfl
    have hsa := hs.1
    refine hR _ _ _ ?_; clear hR R
    iterate 4 (refine seqR_hide fun R hR => ?_; simp [go_sem, g1, g2, g4, g5, bc hP c3b, bc hP c6p, hwi, j1, j2, j3, xslice, hmid, hm1, hm2, hsa]; refine hR _ _ _ ?_; clear hR R)
    refine seqR_hide fun R hR => ?_
    simp [go_sem, g1, g2, g4, g5, bc hP c3b, bc hP c6p, hwi, j1, j2, j3, xslice, hmid, hm1, hm2, hsa]
    refine hR _ _ _ ?_; clear hR R
    rw [seqR_nil]
    refine hK _ _ _ ?_; clear hK K
    refine hN7 _ _ _ ?_
    refine xc_two fun N9 hN9 => ?_
    refine xc_reg1 1 rfl fun K hK => ?_
    simp only [show (List.range 1).map (·, true) = [(0, true)] from rfl, rslv_cons, rslv_nil, List.getElem?_toArray, List.getElem?_cons_zero, List.getElem?_cons_succ, gres]
    (refine seqX_hide2 fun R hR => ?_; simp [go_sem, g1, g2, g4, g5, bc hP c3b, bc hP c6p, hwi, j1, j2, j3, xslice, hmid, hm1, hm2, hsa]; refine hR _ _ _ ?_; clear hR R)
    rw [seqX_nil]
    refine hK _ _ _ ?_; clear hK K
    refine hN9 _ _ _ ?_
    have p5 := p2
    have q5 := q2
    have r5 := r2
    have s5 := s2
    have h5 := l2
    have z5 : blockOf (.slice (some a) i cc) ≠ some p := y6
    have hO5 := own_take o2 (show i ≤ kids.length by omega)
    simp [go_sem, g1, g2, g4, g5, bc hP c3b, bc hP c6p, hwi, j1, j2, j3, xslice, hmid, hm1, hm2, hsa]
    have rp5 : rn ≠ p := blk_ne r5 p5 (by decide)
    have sp5 : b7 ≠ p := blk_ne s5 p5 clear_ne.2.1
    have p6 : (A2.set p (.cells (ync k st tag val an (.slice (some a) i cc) h l f row col) 114 (0, 0))) p = _ := set_at _ _ _
    have q6 : (A2.set p (.cells (ync k st tag val an (.slice (some a) i cc) h l f row col) 114 (0, 0))) q = _ := (set_other hqp).trans q5
    have r6 : (A2.set p (.cells (ync k st tag val an (.slice (some a) i cc) h l f row col) 114 (0, 0))) rn = _ := (set_other rp5).trans r5
    have s6 : (A2.set p (.cells (ync k st tag val an (.slice (some a) i cc) h l f row col) 114 (0, 0))) b7 = _ := (set_other sp5).trans s5
    have l6 : B ≤ A2.set p (.cells (ync k st tag val an (.slice (some a) i cc) h l f row col) 114 (0, 0)) := le_set0 h5 y3
    have o6 : Own B (A2.set p (.cells (ync k st tag val an (.slice (some a) i cc) h l f row col) 114 (0, 0))) 90 1 (.slice (some a) i cc) (less kids i).length ((less ps i).map ptr0) := by
      have hO6 := hO5
      refine own_move (D' := B) ?_ fun k o k1 k2 k3 => ⟨k1, by
        rw [set_other (fun hx => z5 (by rw [← hx]; exact k2))]
        exact k3⟩
      have e1 : (less kids i).length = i := by rw [less_len kids i hi]; omega
      have e2 : (less ps i).map ptr0 = (ps.map ptr0).take i := by rw [less, List.drop_eq_nil_of_le (by omega), List.append_nil, List.map_take]
      rw [e1, e2]
      exact hO6
    refine ⟨rn, s6, ⟨vp, r6, hyy.le l6⟩, q6, hqp, B, (.slice (some a) i cc), less ps i, y1, l6, y3, p6, o6, z5, ?_, less_yn y7 hi y8⟩
    rw [less_len ps i (by omega), less_len kids i hi, y7]
  cases ie with
  | false =>
    refine xc_reg1 2 rfl fun K hK => ?_
    simp only [show (List.range 2).map (·, true) = [(0, true), (1, true)] from rfl, rslv_cons, rslv_nil, List.getElem?_toArray, List.getElem?_cons_zero, List.getElem?_cons_succ, gres]
    iterate 2 (refine seqX_hide2 fun R hR => ?_; simp [go_sem, bc hP c1, bc hP c2, bc hP c3, bc hP c6]; refine hR _ _ _ ?_; clear hR R)
    rw [seqX_nil]
    refine hK _ _ _ ?_; clear hK K
    refine hN5 _ _ _ ?_
    refine xc_iffalse (by simp [go_sem, bc hP c1, bc hP c2, bc hP c3, bc hP c6]) ?_
    exact tl  _ hP (by simp [go_sem, bc hP c1, bc hP c2, bc hP c3, bc hP c6]) (by simp [go_sem, bc hP c1, bc hP c2, bc hP c3, bc hP c6]) (by simp [go_sem, bc hP c1, bc hP c2, bc hP c3, bc hP c6]) (by simp [go_sem, bc hP c1, bc hP c2, bc hP c3, bc hP c6])
  | true =>
  have hk0 : kids' = [] := Classical.not_not.1 fun h => hie ⟨rfl, h⟩
  have hk1 : ¬ (0 : Int) < kids'.length := by rw [hk0]; simp
  refine xc_reg1 2 rfl fun K hK => ?_
  simp only [show (List.range 2).map (·, true) = [(0, true), (1, true)] from rfl, rslv_cons, rslv_nil, List.getElem?_toArray, List.getElem?_cons_zero, List.getElem?_cons_succ, gres]
  iterate 2 (refine seqX_hide2 fun R hR => ?_; simp [go_sem, bc hP c1, bc hP c2, bc hP c3, bc hP c6, hk0]; refine hR _ _ _ ?_; clear hR R)
  rw [seqX_nil]
  refine hK _ _ _ ?_; clear hK K
  refine hN5 _ _ _ ?_
  refine xc_iftrue (by simp [go_sem, bc hP c1, bc hP c2, bc hP c3, bc hP c6, hk0]) ?_
  refine xc_two fun N6 hN6 => ?_
  refine xc_reg1 6 rfl fun K hK => ?_
  simp only [show (List.range 6).map (·, true) = [(0, true), (1, true), (2, true), (3, true), (4, true), (5, true)] from rfl, rslv_cons, rslv_nil, List.getElem?_toArray, List.getElem?_cons_zero, List.getElem?_cons_succ, gres]
  iterate 6 (refine seqX_hide2 fun R hR => ?_; simp [go_sem, bc hP c1, bc hP c2, bc hP c3, bc hP c6, hk0]; refine hR _ _ _ ?_; clear hR R)
  rw [seqX_nil]
  refine hK _ _ _ ?_; clear hK K
  refine hN6 _ _ _ ?_
  refine xc_iffalse (by simp [go_sem, bc hP c1, bc hP c2, bc hP c3, bc hP c6, hk0]) ?_
  exact tl  _ hP (by simp [go_sem, bc hP c1, bc hP c2, bc hP c3, bc hP c6, hk0]) (by simp [go_sem, bc hP c1, bc hP c2, bc hP c3, bc hP c6, hk0]) (by simp [go_sem, bc hP c1, bc hP c2, bc hP c3, bc hP c6, hk0]) (by simp [go_sem, bc hP c1, bc hP c2, bc hP c3, bc hP c6, hk0])
end Go.Proofs.YtpinamipjddobaaV

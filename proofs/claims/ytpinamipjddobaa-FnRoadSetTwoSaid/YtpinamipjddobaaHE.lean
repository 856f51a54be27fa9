/- Trees: FieldSetter.Filter of a field that is there. -/
import Derived.Test.YtpinamipjddobaaHD
import Derived.Test.YtpinamipjddobaaRG
namespace Go.Proofs.YtpinamipjddobaaV
open Go.RowKit
set_option linter.unusedSimpArgs false
set_option linter.unusedVariables false
def Tr.sty : Tr → Int
  | .mk _ st _ _ _ _ _ _ _ _ _ _ => st
/-- What FieldSetter leaves: the tree t, in a part of the heap apart from F, and a handle of what was set. -/
def QF (F : View) (t x : Tr) (p : Nat) (v : Value) (A' : View) : Prop := F ≤ A' ∧ ∃ H' rn, v = ptr0 rn ∧ H' ≤ A' ∧ Apt H' F ∧ HY H' t p ∧ IsRn A' x rn
theorem ync_cv {k st k' st' : Int} {tag val an h l f tag' val' an' h' l' f' : ByteArray} {row col row' col' : Int} {cv cv' : Value} {e e' : TypeId} {fl fl' : Nat × Nat} (h0 : some (Obj.cells (ync k st tag val an cv h l f row col) e fl) = some (Obj.cells (ync k' st' tag' val' an' cv' h' l' f' row' col') e' fl')) : cv = cv' := by
  simp only [Option.some.injEq, Obj.cells.injEq, Array.mk.injEq, List.cons.injEq] at h0
  simp_all
set_option maxRecDepth 20000 in
set_option maxHeartbeats 400000 in
theorem fsetP (F A H G : View) (q p qv pv : Nat) (k st : Int) (tag val an h l f : ByteArray) (row col al : Int) (kids : List Tr) (k' : Int) (tag' val' an' h' l' f' : ByteArray) (row' col' al' : Int) (kk : List Tr) (nm : ByteArray) (j : Nat)
    (hq : F q = some (.cells (rnc p) 111 (0, 0))) (hqv : F qv = some (.cells (rnc pv) 111 (0, 0))) (hH : HY H (.mk k st tag val an h l f row col al kids) p) (hHA : H ≤ A) (hG : HY G (.mk k' 0 tag' val' an' h' l' f' row' col' al' kk) pv) (hGA : G ≤ A) (hFA : F ≤ A) (hHF : Apt H F) (hGF : Apt G F) (hGH : Apt G H)
    (hk : k = 4) (ht : tag ≠ tNull) (hev : kids.length % 2 = 0) (hkl : kids.length ≤ 1000000) (hkk : ∀ x ∈ kids, x.kind ≠ 1) (hnm : nm ≠ e0) (hk' : k' ≠ 1) (ht' : tag' ≠ tNull) (ht0 : tag' ≠ e0) (hwd : k' = 8 → tag' = tStr → Wd val') (hj : fldI kids nm = some j) (hjl : j < kids.length) :
    VCalls Try.prog 112 #[.agg #[.string ⟨#[]⟩, .string nm, .string ⟨#[]⟩, .string ⟨#[]⟩, .string ⟨#[]⟩, ptr0 qv, .string ⟨#[]⟩, .bool false, .int .u32 0], ptr0 q] A fun r A' => ∃ x : Option Nat, r = .tuple #[(match x with | none => .pointer none | some b => ptr0 b), .nilIface] ∧ QF F (.mk k st tag val an h l f row col al (kids.set j (.mk k' (kids[j]).sty tag' val' an' h' l' f' row' col' al' kk))) (.mk k' (kids[j]).sty tag' val' an' h' l' f' row' col' al' kk) p (match x with | none => .pointer none | some b => ptr0 b) A' := by
  have hk1 : k ≠ 1 := by omega
  obtain ⟨cv, ps, h1, h2, h3, h4, hkid⟩ := hH.kid
  obtain ⟨qj, Gj, j1, j2, j3, j4, hclo⟩ := hkid j hjl
  obtain ⟨cvv, psv, Hsv, v1, v2, v3, -⟩ := hG.open
  have hoy : ∀ s : Int, ones (ync k' s tag' val' an' cvv h' l' f' row' col') = true := fun s => by
    obtain ⟨vb, vc, e⟩ := v2.shape
    rw [e]
    rfl
  have hp := hHA _ _ h1
  have hpv := hGA _ _ v1
  have hqA := hFA _ _ hq
  have hqvA := hFA _ _ hqv
  obtain ⟨cb, cc, rfl⟩ := h2.shape
  have hGjH : Gj ≤ H := View.le_trans j3 (eraseB_le _ _)
  have hGjq : Gj qj ≠ none := j2.ne
  have hkj := hkk _ (List.getElem_mem hjl)
  obtain ⟨kj, stj, tagj, valj, anj, hhj, lj, fj, rowj, colj, alj, kkj, hkx⟩ := (kids[j]).ex
  rw [hkx] at j2 hkj ⊢
  replace hkj : kj ≠ 1 := hkj
  show VCalls Try.prog 112 _ A fun r A' => ∃ x : Option Nat, r = .tuple #[(match x with | none => .pointer none | some b => ptr0 b), .nilIface] ∧ QF F (.mk k st tag val an h l f row col al (kids.set j (.mk k' stj tag' val' an' h' l' f' row' col' al' kk))) (.mk k' stj tag' val' an' h' l' f' row' col' al' kk) p (match x with | none => .pointer none | some b => ptr0 b) A'
  obtain ⟨cvj, psj, Hsj, w1, -⟩ := j2.open
  have hqj := hHA _ _ (hGjH _ _ w1)
  have hHpv : H pv = none := by
    rcases hGH pv with g | g
    · exact absurd g hG.ne
    · exact g
  have hFpv : F pv = none := by
    rcases hGF pv with g | g
    · exact absurd g hG.ne
    · exact g
  have nqj : qj ≠ pv := fun hx => by rw [hx] at hGjq; exact hGjq (none_le hGjH hHpv)
  have hFqj : F qj = none := by
    rcases hHF qj with g | g
    · exact absurd (none_le hGjH g) hGjq
    · exact g
  have hn1 := (ne_empty hnm).1
  have hn2 := (ne_empty hnm).2
  obtain ⟨cv0, ps0, y1, y2, y3, hkids0⟩ := hH.yn.open
  have hkids : ∀ i (hi : i < kids.length), ∃ q', ps[i]? = some q' ∧ IsYn H kids[i] q' := fun i hi => by
    obtain ⟨q', G', g1, g2, g3, -⟩ := hkid i hi
    exact ⟨q', g1, IsYn.le (View.le_trans g3 (eraseB_le _ _)) _ _ g2.yn⟩
  refine xcalls Try.func112 rfl (by simp [Try.ntmps112]) ?_
  simp only [Try.f112]
  have hP : Priv A (addrs []) := Priv.nil A
  show xc _ _ _ _ _ _ (ov A [])
  refine xc_two fun N1 hN1 => ?_
  refine xc_reg2 fun K hK => ?_
  simp only [rall, rsl, gres]
  refine seqX_hide2 fun R hR => ?_
  simp [go_sem, hn1, hn2]
  intro q2 hq2
  replace hP := hP.cons hq2
  clear hq2
  refine hR _ _ _ ?_; clear hR R
  iterate 2 (refine seqX_hide2 fun R hR => ?_; simp [go_sem, hn1, hn2]; refine hR _ _ _ ?_; clear hR R)
  rw [seqX_nil]
  refine hK _ _ _ ?_; clear hK K
  refine hN1 _ _ _ ?_
  refine xc_two fun N2 hN2 => ?_
  refine xc_two fun N3 hN3 => ?_
  refine xc_reg2 fun K hK => ?_
  simp only [rall, rsl, gres]
  iterate 8 (refine seqX_hide2 fun R hR => ?_; simp [go_sem, hn1, hn2]; refine hR _ _ _ ?_; clear hR R)
  rw [seqX_nil]
  refine hK _ _ _ ?_; clear hK K
  refine hN3 _ _ _ ?_
  refine xc_iffalse (by simp [go_sem, hn1, hn2]) ?_
  refine hN2 _ _ _ ?_
  refine xc_two fun N4 hN4 => ?_
  refine xc_two fun N5 hN5 => ?_
  refine xc_reg2 fun K hK => ?_
  simp only [rall, rsl, gres]
  iterate 2 (refine seqX_hide2 fun R hR => ?_; simp [go_sem, hn1, hn2]; refine hR _ _ _ ?_; clear hR R)
  refine seqX_hide2 fun R hR => ?_
  simp [go_sem, hn1, hn2]
  refine call_same hP (strVal113G A qv pv k' 0 tag' val' an' cvv h' l' f' row' col' hqvA hpv hk' ht0) ?_
  rintro _ rfl
  have st0 : ∀ (A1 : View) (s1 : Int) (e : Env), Priv A1 [q2] → e 1 = ptr0 q → e 2 = .pointer (some ⟨q2, 0, none⟩) → (A1 pv = some (.cells (ync k' s1 tag' val' an' cvv h' l' f' row' col') 114 (0, 0))) → (∀ b o, b ≠ pv → A b = some o → A1 b = some o) → N4 e [] (ov A1 [(q2, .cells #[.string ⟨#[]⟩, .string nm, .string ⟨#[]⟩, .string ⟨#[]⟩, .string ⟨#[]⟩, ptr0 qv, .string ⟨#[]⟩, .bool false, .int .u32 0] 75 (0, 0))]) := by
    clear hP
    intro A1 s1 e hP g1 g2 a1 a2
    refine hN4 _ _ _ ?_
    have hHA1 : H ≤ A1 := fun b o hb => a2 b o (fun hx => by rw [hx, hHpv] at hb; cases hb) (hHA _ _ hb)
    have hFA1 : F ≤ A1 := fun b o hb => a2 b o (fun hx => by rw [hx, hFpv] at hb; cases hb) (hFA _ _ hb)
    refine xc_two fun N6 hN6 => ?_
    refine xc_two fun N7 hN7 => ?_
    refine xc_reg2 fun K hK => ?_
    simp only [rall, rsl, gres]
    iterate 3 (refine seqX_hide2 fun R hR => ?_; simp [go_sem, hn1, hn2, g1, g2]; refine hR _ _ _ ?_; clear hR R)
    rw [seqX_nil]
    refine hK _ _ _ ?_; clear hK K
    refine hN7 _ _ _ ?_
    refine xc_iffalse (by simp [go_sem, hn1, hn2, g1, g2]) ?_
    refine hN6 _ _ _ ?_
    refine xc_two fun N8 hN8 => ?_
    refine xc_two fun N9 hN9 => ?_
    refine xc_reg2 fun K hK => ?_
    simp only [rall, rsl, gres]
    iterate 6 (refine seqX_hide2 fun R hR => ?_; simp [go_sem, hn1, hn2, g1, g2]; refine hR _ _ _ ?_; clear hR R)
    refine seqX_hide2 fun R hR => ?_
    simp [go_sem, hn1, hn2, g1, g2]
    refine call_same hP (tagNull116c A1 qv pv k' s1 tag' val' an' cvv h' l' f' row' col' (hFA1 _ _ hqv) a1 hk' ht') ?_
    rintro _ rfl
    refine hR _ _ _ ?_; clear hR R
    iterate 9 (refine seqX_hide2 fun R hR => ?_; simp [go_sem, hn1, hn2, g1, g2]; refine hR _ _ _ ?_; clear hR R)
    rw [seqX_nil]
    refine hK _ _ _ ?_; clear hK K
    refine hN9 _ _ _ ?_
    refine xc_iffalse (by simp [go_sem, hn1, hn2, g1, g2]) ?_
    refine hN8 _ _ _ ?_
    refine xc_two fun N10 hN10 => ?_
    refine xc_reg2 fun K hK => ?_
    simp only [rall, rsl, gres]
    iterate 5 (refine seqX_hide2 fun R hR => ?_; simp [go_sem, hn1, hn2, g1, g2]; refine hR _ _ _ ?_; clear hR R)
    refine seqX_hide2 fun R hR => ?_
    simp [go_sem, hn1, hn2, g1, g2]
    intro q121 hq121
    replace hP := hP.cons hq121
    clear hq121
    have d1212 : q121 ≠ q2 := (hP.ne q2 (by simp [addrs])).1
    have d2121 : q2 ≠ q121 := (hP.ne q2 (by simp [addrs])).2
    refine hR _ _ _ ?_; clear hR R
    refine seqX_hide2 fun R hR => ?_
    simp [go_sem, hn1, hn2, g1, g2, d1212, d2121]
    obtain ⟨eq121, hPn, nq121⟩ := sinkI (A := A1) (L := [(q121, .cells #[.iface 88 (.agg #[.string ⟨#[]⟩, .string nm, .pointer none, .string ⟨#[]⟩, .string ⟨#[]⟩, .pointer none])] 116 (0, 0)), (q2, .cells #[.string ⟨#[]⟩, .string nm, .string ⟨#[]⟩, .string ⟨#[]⟩, .string ⟨#[]⟩, ptr0 qv, .string ⟨#[]⟩, .bool false, .int .u32 0] 75 (0, 0))]) 0 hP rfl
    rw [eq121]
    clear eq121 hP; have hP := hPn; clear hPn
    simp only [List.eraseIdx_cons_zero, List.eraseIdx_cons_succ, addrs_cons, addrs_nil] at hP ⊢
    have lq : A1 ≤ A1.set q121 (.cells #[.iface 88 (.agg #[.string ⟨#[]⟩, .string nm, .pointer none, .string ⟨#[]⟩, .string ⟨#[]⟩, .pointer none])] 116 (0, 0)) := le_set nq121
    have hrow : Row (A1.set q121 (.cells #[.iface 88 (.agg #[.string ⟨#[]⟩, .string nm, .pointer none, .string ⟨#[]⟩, .string ⟨#[]⟩, .pointer none])] 116 (0, 0))) 1 (.slice (some ⟨q121, 0, none⟩) 1 1) 1 [.iface 88 (.agg #[.string ⟨#[]⟩, .string nm, .pointer none, .string ⟨#[]⟩, .string ⟨#[]⟩, .pointer none])] := .inl ⟨_, 1, rfl, cells_block (set_at _ _ _) rfl⟩
    generalize A1.set q121 (.cells #[.iface 88 (.agg #[.string ⟨#[]⟩, .string nm, .pointer none, .string ⟨#[]⟩, .string ⟨#[]⟩, .pointer none])] 116 (0, 0)) = A2 at hP lq hrow ⊢
    have hHA2 := View.le_trans hHA1 lq
    have hFA2 := View.le_trans hFA1 lq
    refine call_ov hP (pipe1 A2 q p 88 134 (.agg #[.string ⟨#[]⟩, .string nm, .pointer none, .string ⟨#[]⟩, .string ⟨#[]⟩, .pointer none]) (.slice (some ⟨q121, 0, none⟩) 1 1) k st tag val an (.slice cb kids.length cc) h l f row col (hFA2 _ _ hq) (hHA2 _ _ h1) hk1 meth_fm (by kernel_rfl) hrow (fun x A' => FP ps (fldI kids nm) x A' ∧ A2 ≤ A') (match134P A2 q p k st tag val an h l f row col al kids cb cc ps nm (hFA2 _ _ hq) (hHA2 _ _ h1) (h2.row.le hHA2) h4 (fun i hi => let ⟨q', g1, g2⟩ := hkids i hi; ⟨q', g1, g2.le hHA2⟩) hk ht hev hkl hnm)) ?_
    clear hP
    rintro _ A3 ⟨x, rfl, hx, hA3⟩ hP
    rw [hj] at hx
    obtain ⟨vp, rn, x1, x2, x3⟩ := hx
    rw [j1] at x1
    obtain rfl : qj = vp := Option.some.inj x1
    cases x with
    | none => cases x2
    | some b =>
    obtain rfl : b = rn := by
      have hh : ptr0 b = ptr0 rn := x2
      injection hh with hh
      injection hh with hh
      injection hh
    have hA13 := View.le_trans lq hA3
    have hHA3 := View.le_trans hHA1 hA13
    have hFA3 := View.le_trans hFA1 hA13
    have hpv3 := hA13 _ _ a1
    have hqj3 := hHA3 _ _ (hGjH _ _ w1)
    have cj := cell_of (i := 1) hqj3 rfl
    refine hR _ _ _ ?_; clear hR R
    iterate 5 (refine seqX_hide2 fun R hR => ?_; simp [go_sem, hn1, hn2, g1, g2, d1212, d2121]; refine hR _ _ _ ?_; clear hR R)
    rw [seqX_nil]
    refine hK _ _ _ ?_; clear hK K
    refine hN10 _ _ _ ?_
    refine xc_two fun N11 hN11 => ?_
    refine xc_two fun N12 hN12 => ?_
    refine xc_reg2 fun K hK => ?_
    simp only [rall, rsl, gres]
    iterate 2 (refine seqX_hide2 fun R hR => ?_; simp [go_sem, hn1, hn2, g1, g2, d1212, d2121]; refine hR _ _ _ ?_; clear hR R)
    rw [seqX_nil]
    refine hK _ _ _ ?_; clear hK K
    refine hN12 _ _ _ ?_
    refine xc_iffalse (by simp [go_sem, hn1, hn2, g1, g2, d1212, d2121]) ?_
    refine hN11 _ _ _ ?_
    refine xc_two fun N13 hN13 => ?_
    refine xc_two fun N14 hN14 => ?_
    refine xc_reg2 fun K hK => ?_
    simp only [rall, rsl, gres]
    iterate 2 (refine seqX_hide2 fun R hR => ?_; simp [go_sem, hn1, hn2, g1, g2, d1212, d2121]; refine hR _ _ _ ?_; clear hR R)
    rw [seqX_nil]
    refine hK _ _ _ ?_; clear hK K
    refine hN14 _ _ _ ?_
    refine xc_iftrue (by simp [go_sem, hn1, hn2, g1, g2, d1212, d2121]) ?_
    refine xc_two fun N15 hN15 => ?_
    refine xc_two fun N16 hN16 => ?_
    refine xc_reg2 fun K hK => ?_
    simp only [rall, rsl, gres]
    iterate 5 (refine seqX_hide2 fun R hR => ?_; simp [go_sem, hn1, hn2, g1, g2, d1212, d2121]; refine hR _ _ _ ?_; clear hR R)
    refine seqX_hide2 fun R hR => ?_
    simp [go_sem, hn1, hn2, g1, g2, d1212, d2121]
    refine hR _ _ _ ?_; clear hR R
    iterate 5 (refine seqX_hide2 fun R hR => ?_; simp [go_sem, hn1, hn2, g1, g2, d1212, d2121]; refine hR _ _ _ ?_; clear hR R)
    rw [seqX_nil]
    refine hK _ _ _ ?_; clear hK K
    refine hN16 _ _ _ ?_
    refine xc_iftrue (by simp [go_sem, hn1, hn2, g1, g2, d1212, d2121]) ?_
    refine xc_reg2 fun K hK => ?_
    simp only [rall, rsl, gres]
    iterate 2 (refine seqX_hide2 fun R hR => ?_; simp [go_sem, hn1, hn2, g1, g2, d1212, d2121]; refine hR _ _ _ ?_; clear hR R)
    refine seqX_hide2 fun R hR => ?_
    simp [go_sem, hn1, hn2, g1, g2, d1212, d2121]
    refine call_same hP (ynode48 A3 qv pv k' s1 tag' val' an' cvv h' l' f' row' col' (hFA3 _ _ hqv) hpv3 hk') ?_
    rintro _ rfl
    refine hR _ _ _ ?_; clear hR R
    (refine seqX_hide2 fun R hR => ?_; simp [go_sem, hn1, hn2, g1, g2, d1212, d2121]; refine hR _ _ _ ?_; clear hR R)
    refine seqX_hide2 fun R hR => ?_
    simp [go_sem, hn1, hn2, g1, g2, d1212, d2121]
    refine call_same hP (ynode48 A3 b qj kj stj tagj valj anj cvj hhj lj fj rowj colj x3 hqj3 hkj) ?_
    rintro _ rfl
    have e1 : pv ≠ q2 := fun hx => by have := hP.1; rw [← hx, hpv3] at this; cases this
    have hs := cstoreF (L := [(q2, .cells #[.string ⟨#[]⟩, .string nm, .string ⟨#[]⟩, .string ⟨#[]⟩, .string ⟨#[]⟩, ptr0 qv, .string ⟨#[]⟩, .bool false, .int .u32 0] 75 (0, 0))]) hP ti71 hpv3 (i := 1) (u := .int .u32 (stj % 64)) (c' := ync k' stj tag' val' an' cvv h' l' f' row' col') (by show 1 < 12; decide) rfl rfl
    have hsa := hs.1
    refine hR _ _ _ ?_; clear hR R
    iterate 5 (refine seqX_hide2 fun R hR => ?_; simp [go_sem, hn1, hn2, g1, g2, d1212, d2121, bc hP cj, hsa, e1]; refine hR _ _ _ ?_; clear hR R)
    refine seqX_hide2 fun R hR => ?_
    simp [go_sem, hn1, hn2, g1, g2, d1212, d2121, bc hP cj, hsa, e1]
    refine hR _ _ _ ?_; clear hR R
    rw [seqX_nil]
    refine hK _ _ _ ?_; clear hK K
    refine hN15 _ _ _ ?_
    refine xc_two fun N17 hN17 => ?_
    have b4 : (A3.set pv (.cells (ync k' stj tag' val' an' cvv h' l' f' row' col') 114 (0, 0))) b = some (.cells (rnc qj) 111 (0, 0)) := (set_other (fun hx => by rw [hx, hpv3] at x3; cases x3)).trans x3
    have qv4 : (A3.set pv (.cells (ync k' stj tag' val' an' cvv h' l' f' row' col') 114 (0, 0))) qv = some (.cells (rnc pv) 111 (0, 0)) := (set_other (fun hx => by rw [hx, hFpv] at hqv; cases hqv)).trans (hFA3 _ _ hqv)
    have pv4 : (A3.set pv (.cells (ync k' stj tag' val' an' cvv h' l' f' row' col') 114 (0, 0))) pv = some (.cells (ync k' stj tag' val' an' cvv h' l' f' row' col') 114 (0, 0)) := set_at _ _ _
    have qj4 := (set_other (A := A3) (o := .cells (ync k' stj tag' val' an' cvv h' l' f' row' col') 114 (0, 0)) nqj).trans hqj3
    have all4 : ∀ c o, c ≠ pv → A3 c = some o → (A3.set pv (.cells (ync k' stj tag' val' an' cvv h' l' f' row' col') 114 (0, 0))) c = some o := fun c o hc ho => (set_other hc).trans ho
    clear hP
    have hP := hs.2
    clear hsa hs
    generalize A3.set pv (.cells (ync k' stj tag' val' an' cvv h' l' f' row' col') 114 (0, 0)) = A4 at hP b4 qv4 pv4 qj4 all4 ⊢
    refine xc_reg2 fun K hK => ?_
    simp only [rall, rsl, gres]
    iterate 3 (refine seqX_hide2 fun R hR => ?_; simp [go_sem, hn1, hn2, g1, g2, d1212, d2121]; refine hR _ _ _ ?_; clear hR R)
    refine seqX_hide2 fun R hR => ?_
    simp [go_sem, hn1, hn2, g1, g2, d1212, d2121]
    refine call_same hP (ynode48 A4 qv pv k' stj tag' val' an' cvv h' l' f' row' col' qv4 pv4 hk') ?_
    rintro _ rfl
    refine hR _ _ _ ?_; clear hR R
    refine seqX_hide2 fun R hR => ?_
    simp [go_sem, hn1, hn2, g1, g2, d1212, d2121]
    refine call_ov hP (setY115 A4 b qj pv _ _ b4 qj4 pv4 rfl rfl (hoy stj)) ?_
    clear hP
    rintro _ A5 rfl hP
    refine hR _ _ _ ?_; clear hR R
    rw [seqX_nil]
    refine hK _ _ _ ?_; clear hK K
    refine hN17 _ _ _ ?_
    refine xc_two fun N18 hN18 => ?_
    refine xc_reg2 fun K hK => ?_
    simp only [rall, rsl, gres]
    iterate 3 (refine seqX_hide2 fun R hR => ?_; simp [go_sem, hn1, hn2, g1, g2, d1212, d2121]; refine hR _ _ _ ?_; clear hR R)
    rw [seqX_nil]
    refine hK _ _ _ ?_; clear hK K
    refine hN18 _ _ _ ?_
    simp [go_sem, hn1, hn2, g1, g2, d1212, d2121]
    have qj5 : (A4.set qj (.cells (ync k' stj tag' val' an' cvv h' l' f' row' col') 114 (0, 0))) qj = some (.cells (ync k' stj tag' val' an' cvv h' l' f' row' col') 114 (0, 0)) := set_at _ _ _
    have b5 : (A4.set qj (.cells (ync k' stj tag' val' an' cvv h' l' f' row' col') 114 (0, 0))) b = some (.cells (rnc qj) 111 (0, 0)) := (set_other (fun hx => by rw [hx, qj4] at b4; cases b4)).trans b4
    have hr := HY.repl (A5 := A4.set qj (.cells (ync k' stj tag' val' an' cvv h' l' f' row' col') 114 (0, 0))) stj hclo hGjq hGjH hG v1 hHA hGA hFA hHF hGF hGH qj5 (fun c o c1 c2 co => (set_other c1).trans (all4 c o c2 (hA13 _ _ (a2 c o c2 co))))
    obtain ⟨r1, H', r2, r3, r4, r5⟩ := hr
    have hle := le_ov hP
    exact ⟨some b, rfl, View.le_trans r1 hle, H', b, rfl, View.le_trans r2 hle, r3, r4, qj, hle _ _ b5, r5.le hle⟩
  cases hb : (decide (k' = 8) && decide (tag' = tStr)) with
  | false =>
    refine hR _ _ _ ?_; clear hR R
    iterate 8 (refine seqX_hide2 fun R hR => ?_; simp [go_sem, hn1, hn2]; refine hR _ _ _ ?_; clear hR R)
    refine seqX_hide2 fun R hR => ?_
    simp [go_sem, hn1, hn2]
    refine hR _ _ _ ?_; clear hR R
    iterate 8 (refine seqX_hide2 fun R hR => ?_; simp [go_sem, hn1, hn2]; refine hR _ _ _ ?_; clear hR R)
    refine seqX_hide2 fun R hR => ?_
    simp [go_sem, hn1, hn2]
    refine hR _ _ _ ?_; clear hR R
    refine seqX_hide2 fun R hR => ?_
    simp [go_sem, hn1, hn2]
    refine hR _ _ _ ?_; clear hR R
    (refine seqX_hide2 fun R hR => ?_; simp [go_sem, hn1, hn2]; refine hR _ _ _ ?_; clear hR R)
    rw [seqX_nil]
    refine hK _ _ _ ?_; clear hK K
    refine hN5 _ _ _ ?_
    refine xc_iffalse (by simp [go_sem, hn1, hn2]) ?_
    exact st0 (A) (0) _ hP (by simp [go_sem, hn1, hn2]) (by simp [go_sem, hn1, hn2]) (hpv) (fun _ _ _ hh => hh)
  | true =>
  rw [Bool.and_eq_true, decide_eq_true_eq, decide_eq_true_eq] at hb
  obtain ⟨rfl, rfl⟩ := hb
  have c1 := cell_of (i := 1) hpv rfl
  refine hR _ _ _ ?_; clear hR R
  iterate 8 (refine seqX_hide2 fun R hR => ?_; simp [go_sem, hn1, hn2, bc hP c1]; refine hR _ _ _ ?_; clear hR R)
  refine seqX_hide2 fun R hR => ?_
  simp [go_sem, hn1, hn2, bc hP c1]
  refine call_same hP (ynode48 A qv pv 8 0 tStr val' an' cvv h' l' f' row' col' hqvA hpv hk') ?_
  rintro _ rfl
  refine hR _ _ _ ?_; clear hR R
  iterate 8 (refine seqX_hide2 fun R hR => ?_; simp [go_sem, hn1, hn2, bc hP c1]; refine hR _ _ _ ?_; clear hR R)
  refine seqX_hide2 fun R hR => ?_
  simp [go_sem, hn1, hn2, bc hP c1]
  refine call_same hP (ynode48 A qv pv 8 0 tStr val' an' cvv h' l' f' row' col' hqvA hpv hk') ?_
  rintro _ rfl
  refine hR _ _ _ ?_; clear hR R
  refine seqX_hide2 fun R hR => ?_
  simp [go_sem, hn1, hn2]
  refine call_same hP (yaml114W A pv 0 tStr val' an' cvv h' l' f' row' col' hpv (hwd rfl rfl)) ?_
  rintro _ ⟨b, rfl⟩
  cases b with
  | false =>
    refine hR _ _ _ ?_; clear hR R
    (refine seqX_hide2 fun R hR => ?_; simp [go_sem, hn1, hn2]; refine hR _ _ _ ?_; clear hR R)
    rw [seqX_nil]
    refine hK _ _ _ ?_; clear hK K
    refine hN5 _ _ _ ?_
    refine xc_iffalse (by simp [go_sem, hn1, hn2]) ?_
    exact st0 (A) (0) _ hP (by simp [go_sem, hn1, hn2]) (by simp [go_sem, hn1, hn2]) (hpv) (fun _ _ _ hh => hh)
  | true =>
  refine hR _ _ _ ?_; clear hR R
  (refine seqX_hide2 fun R hR => ?_; simp [go_sem, hn1, hn2]; refine hR _ _ _ ?_; clear hR R)
  rw [seqX_nil]
  refine hK _ _ _ ?_; clear hK K
  refine hN5 _ _ _ ?_
  refine xc_iftrue (by simp [go_sem, hn1, hn2]) ?_
  refine xc_reg2 fun K hK => ?_
  simp only [rall, rsl, gres]
  iterate 2 (refine seqX_hide2 fun R hR => ?_; simp [go_sem, hn1, hn2]; refine hR _ _ _ ?_; clear hR R)
  refine seqX_hide2 fun R hR => ?_
  simp [go_sem, hn1, hn2]
  refine call_same hP (ynode48 A qv pv 8 0 tStr val' an' cvv h' l' f' row' col' hqvA hpv hk') ?_
  rintro _ rfl
  have e1 : pv ≠ q2 := fun hx => by have := hP.1; rw [← hx, hpv] at this; cases this
  have hs := cstoreF (L := [(q2, .cells #[.string ⟨#[]⟩, .string nm, .string ⟨#[]⟩, .string ⟨#[]⟩, .string ⟨#[]⟩, ptr0 qv, .string ⟨#[]⟩, .bool false, .int .u32 0] 75 (0, 0))]) hP ti71 hpv (i := 1) (u := .int .u32 2) (c' := ync 8 2 tStr val' an' cvv h' l' f' row' col') (by show 1 < 12; decide) rfl rfl
  have hsa := hs.1
  refine hR _ _ _ ?_; clear hR R
  iterate 2 (refine seqX_hide2 fun R hR => ?_; simp [go_sem, hn1, hn2, hsa, e1]; refine hR _ _ _ ?_; clear hR R)
  refine seqX_hide2 fun R hR => ?_
  simp [go_sem, hn1, hn2, hsa, e1]
  refine hR _ _ _ ?_; clear hR R
  rw [seqX_nil]
  refine hK _ _ _ ?_; clear hK K
  replace hP := hs.2
  exact st0 (_) (2) _ hP (by simp [go_sem, hn1, hn2, hsa, e1]) (by simp [go_sem, hn1, hn2, hsa, e1]) (set_at _ _ _) (fun _ _ h1 hh => (set_other h1).trans hh)
end Go.Proofs.YtpinamipjddobaaV

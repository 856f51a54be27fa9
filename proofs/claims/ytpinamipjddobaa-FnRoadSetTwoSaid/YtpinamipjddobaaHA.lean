/- Trees: heaplets; impl.bare, build, rooted once more: all nodes of a tree are new, and apart from each other. -/
import Derived.Test.YtpinamipjddobaaKH
namespace Go.Proofs.YtpinamipjddobaaV
open Go.RowKit
set_option linter.unusedSimpArgs false
set_option linter.unusedVariables false
/-- A view less another one. -/
def vsub (A B : View) : View := fun k => if (B k).isSome then none else A k
theorem vsub_le (A B : View) : vsub A B ≤ A := fun k o h => by
  unfold vsub at h
  split at h
  · cases h
  · exact h
theorem vsub_at {A B : View} {k : Nat} (h : B k = none) : vsub A B k = A k := by
  unfold vsub
  rw [h]
  rfl
theorem vsub_none {A B : View} {k : Nat} (h : B k ≠ none) : vsub A B k = none := by
  unfold vsub
  cases hb : B k with
  | none => exact absurd hb h
  | some o => rfl
theorem vsub_some {A B : View} {k : Nat} {o : Obj} (h : vsub A B k = some o) : B k = none ∧ A k = some o := by
  unfold vsub at h
  split at h
  · cases h
  · rename_i h2
    refine ⟨?_, h⟩
    cases hb : B k with
    | none => rfl
    | some o => rw [hb] at h2; exact absurd rfl h2
/-- Two views that know no block both. -/
def Apt (G H : View) : Prop := ∀ k, G k = none ∨ H k = none
theorem Apt.symm {G H : View} (h : Apt G H) : Apt H G := fun k => (h k).symm
theorem Apt.le {G G' H H' : View} (h : Apt G H) (hg : G' ≤ G) (hh : H' ≤ H) : Apt G' H' := fun k => (h k).imp (none_le hg) (none_le hh)
theorem apt_vsub (A B : View) : Apt (vsub A B) B := fun k => by
  cases hb : B k with
  | none => exact .inr rfl
  | some o => exact .inl (vsub_none (by rw [hb]; simp))
def vnil : View := fun _ => none
theorem vnil_le (A : View) : vnil ≤ A := fun _ _ h => by cases h
theorem apt_nil (A : View) : Apt vnil A := fun _ => .inl rfl
theorem le_vsub {A B C : View} (h : A ≤ B) (hc : Apt A C) : A ≤ vsub B C := fun k o hk => by
  rcases hc k with e | e
  · rw [hk] at e; cases e
  · rw [vsub_at e]; exact h _ _ hk
/-- A tree of kyaml nodes in its own part of the heap: its nodes, and their lists, lie apart. -/
def HY (H : View) : Tr → Nat → Prop
  | .mk k st tag val an h l f row col _ kids, p => ∃ (cv : Value) (ps : List Nat) (Hs : Nat → View), H p = some (.cells (ync k st tag val an cv h l f row col) 114 (0, 0)) ∧ Own (eraseB H cv) H 90 1 cv kids.length (ps.map ptr0) ∧ blockOf cv ≠ some p ∧ ps.length = kids.length ∧
      (∀ j, Hs j ≤ eraseB H cv ∧ Hs j p = none) ∧ (∀ i j, i ≠ j → Apt (Hs i) (Hs j)) ∧ ∀ j (hj : j < kids.length), ∃ q, ps[j]? = some q ∧ HY (Hs j) (kids[j]) q
termination_by v => SizeOf.sizeOf v
decreasing_by
  have := List.sizeOf_lt_of_mem (List.getElem_mem hj)
  simp
  omega
theorem HY.open {H : View} {k st : Int} {tag val an h l f : ByteArray} {row col al : Int} {kids : List Tr} {p : Nat} (e : HY H (.mk k st tag val an h l f row col al kids) p) :
    ∃ (cv : Value) (ps : List Nat) (Hs : Nat → View), H p = some (.cells (ync k st tag val an cv h l f row col) 114 (0, 0)) ∧ Own (eraseB H cv) H 90 1 cv kids.length (ps.map ptr0) ∧ blockOf cv ≠ some p ∧ ps.length = kids.length ∧
      (∀ j, Hs j ≤ eraseB H cv ∧ Hs j p = none) ∧ (∀ i j, i ≠ j → Apt (Hs i) (Hs j)) ∧ ∀ j (hj : j < kids.length), ∃ q, ps[j]? = some q ∧ HY (Hs j) (kids[j]) q := by
  rw [HY] at e
  exact e
theorem HY.le {G H : View} {t : Tr} {p : Nat} (e : HY G t p) (hle : G ≤ H) : HY H t p := by
  obtain ⟨k, st, tag, val, an, h, l, f, row, col, al, kids⟩ := t
  obtain ⟨cv, ps, Hs, h1, h2, h3, h4, h5, h6, h7⟩ := e.open
  rw [HY]
  exact ⟨cv, ps, Hs, hle _ _ h1, own_rebase (h2.le hle), h3, h4, fun j => ⟨View.le_trans (h5 j).1 (eraseB_mono hle cv), (h5 j).2⟩, h6, h7⟩
theorem HY.yn : ∀ {H : View} {t : Tr} {p : Nat}, HY H t p → IsYn H t p
  | H, .mk k st tag val an h l f row col al kids, p, e => by
    obtain ⟨cv, ps, Hs, h1, h2, h3, h4, h5, h6, h7⟩ := e.open
    rw [IsYn]
    refine ⟨cv, ps, h1, h2.row, h4, fun j hj => ?_⟩
    obtain ⟨q, g1, g2⟩ := h7 j hj
    exact ⟨q, g1, IsYn.le (View.le_trans (h5 j).1 (eraseB_le _ _)) _ _ (HY.yn g2)⟩
termination_by _ v => SizeOf.sizeOf v
decreasing_by
  have := List.sizeOf_lt_of_mem (List.getElem_mem hj)
  simp
  omega
theorem HY.ne {H : View} {t : Tr} {p : Nat} (e : HY H t p) : H p ≠ none := e.yn.ne
theorem own_sub {A D : View} {e : TypeId} {n : Nat} {v : Value} {cs : List Value} (h : Own A D e 1 v n cs) : Own (eraseB (vsub D A) v) (vsub D A) e 1 v n cs :=
  own_rebase (own_move (D' := A) h fun b o h1 h2 h3 => ⟨h1, by rw [vsub_at h1]; exact h3⟩)
/-- A tree in a part of the heap that was not there. -/
def NewY (A A' : View) (t : Tr) (p : Nat) : Prop := A ≤ A' ∧ ∃ H, HY H t p ∧ Apt H A ∧ H ≤ A'
theorem NewY.grow {A0 A A' A'' : View} {t : Tr} {p : Nat} (h : NewY A A' t p) (h0 : A0 ≤ A) (h1 : A' ≤ A'') : NewY A0 A'' t p :=
  let ⟨e, H, g1, g2, g3⟩ := h
  ⟨View.le_trans h0 (View.le_trans e h1), H, g1, g2.le (View.le_refl _) h0, View.le_trans g3 h1⟩
/-- A new tree and its handle. -/
def NewR (A A' : View) (t : Tr) (q : Nat) : Prop := ∃ p H, A' q = some (.cells #[.slice none 0 0, ptr0 p, .bool false, .slice none 0 0] 111 (0, 0)) ∧ A q = none ∧ H q = none ∧ A ≤ A' ∧ HY H t p ∧ Apt H A ∧ H ≤ A'
theorem NewR.grow {A A' A'' : View} {t : Tr} {q : Nat} (h : NewR A A' t q) (h1 : A' ≤ A'') : NewR A A'' t q :=
  let ⟨p, H, g1, g2, g3, g4, g5, g6, g7⟩ := h
  ⟨p, H, h1 _ _ g1, g2, g3, View.le_trans g4 h1, g5, g6, View.le_trans g7 h1⟩
theorem NewY.yn {A A' : View} {t : Tr} {p : Nat} (h : NewY A A' t p) : IsYn A' t p :=
  let ⟨_, _, g1, _, g3⟩ := h
  IsYn.le g3 _ _ g1.yn
theorem own_some {D0 D : View} {e : TypeId} {n : Nat} {v : Value} {cs : List Value} {b : Nat} (h : Own D0 D e 1 v n cs) (hb : blockOf v = some b) : D0 b = none ∧ ∃ o, D b = some o := by
  obtain ⟨h1, ⟨rfl, rfl⟩ | ⟨a, cap, rfl, hn⟩⟩ := h
  · simp [blockOf] at hb
  · obtain ⟨c', h3, _⟩ := sliceIn_block h1
    simp only [blockOf, Option.some.injEq] at hb
    subst hb
    exact ⟨hn, _, h3⟩
theorem le_eraseB {A G : View} {v : Value} (h : G ≤ A) (hb : ∀ b, blockOf v = some b → G b = none) : G ≤ eraseB A v := fun k o hk => by
  rw [eraseB_apart fun hx => by rw [hb _ hx] at hk; cases hk]
  exact h _ _ hk
/-- A kid may be changed in its own part of the heap. -/
theorem HY.kid {H : View} {k st : Int} {tag val an h l f : ByteArray} {row col al : Int} {kids : List Tr} {p : Nat} (e : HY H (.mk k st tag val an h l f row col al kids) p) :
    ∃ (cv : Value) (ps : List Nat), H p = some (.cells (ync k st tag val an cv h l f row col) 114 (0, 0)) ∧ Own (eraseB H cv) H 90 1 cv kids.length (ps.map ptr0) ∧ blockOf cv ≠ some p ∧ ps.length = kids.length ∧
      ∀ j (hj : j < kids.length), ∃ (q : Nat) (G : View), ps[j]? = some q ∧ HY G kids[j] q ∧ G ≤ eraseB H cv ∧ G p = none ∧
        ∀ (A' G' : View) (x : Tr), vsub H G ≤ A' → G' ≤ A' → Apt G' (vsub H G) → HY G' x q → HY A' (.mk k st tag val an h l f row col al (kids.set j x)) p := by
  obtain ⟨cv, ps, Hs, h1, h2, h3, h4, h5, h6, h7⟩ := e.open
  refine ⟨cv, ps, h1, h2, h3, h4, fun j hj => ?_⟩
  obtain ⟨q, g1, g2⟩ := h7 j hj
  refine ⟨q, Hs j, g1, g2, (h5 j).1, (h5 j).2, fun A' G' x k1 k2 k3 k4 => ?_⟩
  have hp : vsub H (Hs j) p = H p := vsub_at (h5 j).2
  have hc : ∀ b, blockOf cv = some b → ∃ o, vsub H (Hs j) b = some o ∧ H b = some o := fun b hb => by
    obtain ⟨e1, o, e2⟩ := own_some h2 hb
    exact ⟨o, by rw [vsub_at (none_le (h5 j).1 e1)]; exact e2, e2⟩
  have hm : ∀ m, m ≠ j → Hs m ≤ vsub H (Hs j) := fun m hm => le_vsub (View.le_trans (h5 m).1 (eraseB_le _ _)) (h6 m j hm)
  have hG : ∀ b, blockOf cv = some b → G' b = none := fun b hb => by
    obtain ⟨o, e1, -⟩ := hc b hb
    rcases k3 b with g | g
    · exact g
    · rw [e1] at g; cases g
  have hGp : G' p = none := by
    rcases k3 p with g | g
    · exact g
    · rw [hp, h1] at g; cases g
  rw [HY]
  refine ⟨cv, ps, fun m => if m = j then G' else Hs m, ?_, ?_, h3, by rw [List.length_set]; exact h4, fun m => ?_, fun m i hmi => ?_, fun i hi => ?_⟩
  · exact k1 _ _ (by rw [hp]; exact h1)
  · rw [List.length_set]
    refine own_rebase (own_move (D' := eraseB H cv) h2 fun b o e1 e2 e3 => ⟨e1, ?_⟩)
    obtain ⟨o', g2, g3⟩ := hc b e2
    rw [e3] at g3
    cases g3
    exact k1 _ _ g2
  · show (if m = j then G' else Hs m) ≤ _ ∧ (if m = j then G' else Hs m) p = none
    split
    · exact ⟨le_eraseB k2 hG, hGp⟩
    · rename_i hmj
      exact ⟨le_eraseB (View.le_trans (hm m hmj) k1) fun b hb => none_le (h5 m).1 (own_some h2 hb).1, (h5 m).2⟩
  · show Apt (if m = j then G' else Hs m) (if i = j then G' else Hs i)
    by_cases e1 : m = j
    · rw [if_pos e1, if_neg (by omega)]
      exact k3.le (View.le_refl _) (hm i (by omega))
    · rw [if_neg e1]
      split
      · exact (k3.le (View.le_refl _) (hm m e1)).symm
      · exact h6 m i hmi
  · rw [List.length_set] at hi
    by_cases e1 : i = j
    · subst e1
      refine ⟨q, g1, ?_⟩
      show HY (if i = i then G' else Hs i) _ _
      rw [if_pos rfl, List.getElem_set_self]
      exact k4
    · obtain ⟨q', g3, g4⟩ := h7 i hi
      refine ⟨q', g3, ?_⟩
      show HY (if i = j then G' else Hs i) _ _
      rw [if_neg e1, List.getElem_set_ne (by omega)]
      exact g4
set_option maxRecDepth 20000 in
set_option maxHeartbeats 16000000 in
theorem bareH (t : Tr) : ∀ (lv : Nat) (A : View) (c : Array Value), IsTr A t c → PT lv t → nds t ≤ 1000000 →
    VCalls Try.prog 84 #[.agg c] A fun r A' => ∃ p, r = ptr0 p ∧ NewY A A' t p := by
  induction hsz : SizeOf.sizeOf t using Nat.strongRecOn generalizing t with
  | _ N0 ih =>
  intro lv A c hc hpl hnd
  subst hsz
  obtain ⟨k, st, tag, val, an, h, l, f, row, col, al, kids⟩ := t
  have ihk : ∀ x ∈ kids, ∀ (lv : Nat) (A : View) (c : Array Value), IsTr A x c → PT lv x → nds x ≤ 1000000 →
    VCalls Try.prog 84 #[.agg c] A fun r A' => ∃ p, r = ptr0 p ∧ NewY A A' x p := fun x hx lv A c h1 h2 h3 => ih _ (by
      have := List.sizeOf_lt_of_mem hx
      simp
      omega) x rfl lv A c h1 h2 h3
  clear ih
  rw [PT] at hpl
  obtain ⟨hlv, ⟨hst, hal⟩, hkk, hpk⟩ := hpl
  have hk : k = 2 ∨ k = 4 ∨ k = 8 := by
    rcases hkk with h | h | h
    · exact .inr (.inr h)
    · exact .inl h
    · exact .inr (.inl h)
  subst hst
  subst hal
  rw [nds_mk] at hnd
  have hkl := nds_len kids
  have hcz := hc.size
  have hco := hc.ones
  obtain ⟨bs, cap, rfl, hT⟩ := hc.open
  refine xcalls Try.func84 rfl (by simp [Try.ntmps84]) ?_
  simp only [Try.f84]
  have hP : Priv A (addrs []) := Priv.nil A
  show xc _ _ _ _ _ _ (ov A [])
  refine xc_two fun N1 hN1 => ?_
  refine xc_reg2 fun K hK => ?_
  simp only [rall, rsl, gres]
  refine seqX_hide2 fun R hR => ?_
  simp [go_sem, hcz, hco]
  intro q1 hq1
  replace hP := hP.cons hq1
  clear hq1
  refine hR _ _ _ ?_; clear hR R
  (refine seqX_hide2 fun R hR => ?_; simp [go_sem, hcz, hco]; refine hR _ _ _ ?_; clear hR R)
  rw [seqX_nil]
  refine hK _ _ _ ?_; clear hK K
  refine hN1 _ _ _ ?_
  refine xc_two fun N2 hN2 => ?_
  refine xc_reg2 fun K hK => ?_
  simp only [rall, rsl, gres]
  iterate 3 (refine seqX_hide2 fun R hR => ?_; simp [go_sem, hcz, hco]; refine hR _ _ _ ?_; clear hR R)
  refine seqX_hide2 fun R hR => ?_
  simp [go_sem, hcz, hco]
  refine hR _ _ _ ?_; clear hR R
  iterate 17 (refine seqX_hide2 fun R hR => ?_; simp [go_sem, hcz, hco]; refine hR _ _ _ ?_; clear hR R)
  refine seqX_hide2 fun R hR => ?_
  simp [go_sem, hcz, hco]
  intro q26 hq26
  replace hP := hP.cons hq26
  clear hq26
  have d261 : q26 ≠ q1 := (hP.ne q1 (by simp [addrs])).1
  have d126 : q1 ≠ q26 := (hP.ne q1 (by simp [addrs])).2
  refine hR _ _ _ ?_; clear hR R
  (refine seqX_hide2 fun R hR => ?_; simp [go_sem, hcz, hco, d261, d126]; refine hR _ _ _ ?_; clear hR R)
  rw [seqX_nil]
  refine hK _ _ _ ?_; clear hK K
  refine hN2 _ _ _ ?_
  refine xc_two fun N3 hN3 => ?_
  refine xc_two fun N4 hN4 => ?_
  refine xc_reg2 fun K hK => ?_
  simp only [rall, rsl, gres]
  iterate 2 (refine seqX_hide2 fun R hR => ?_; simp [go_sem, hcz, hco, d261, d126]; refine hR _ _ _ ?_; clear hR R)
  rw [seqX_nil]
  refine hK _ _ _ ?_; clear hK K
  refine hN4 _ _ _ ?_
  rw [xc_block]
  refine xc_two fun N5 hN5 => ?_
  refine xc_two fun N6 hN6 => ?_
  refine xc_reg2 fun K hK => ?_
  simp only [rall, rsl, gres]
  iterate 2 (refine seqX_hide2 fun R hR => ?_; simp [go_sem, hcz, hco, d261, d126]; refine hR _ _ _ ?_; clear hR R)
  rw [seqX_nil]
  refine hK _ _ _ ?_; clear hK K
  refine hN6 _ _ _ ?_
  have lp : ∀  (e : Env), Priv A [q26, q1] → e 1 = .pointer (some ⟨q1, 0, none⟩) → e 3 = .pointer (some ⟨q26, 0, none⟩) → N3 e [] (ov A [(q26, .cells (ync k 0 tag val an (.slice none 0 0) h l f row col) 114 (0, 0)), (q1, .cells (trc k 0 tag val an h l f row col (-1) (.slice bs kids.length cap)) 24 (0, 0))]) := by
    clear hP
    intro e hP g1 g3
    refine hN3 _ _ _ ?_
    refine xc_two fun N7 hN7 => ?_
    refine xc_two fun N8 hN8 => ?_
    refine xc_reg2 fun K hK => ?_
    simp only [rall, rsl, gres]
    iterate 4 (refine seqX_hide2 fun R hR => ?_; simp [go_sem, hcz, hco, d261, d126, g1, g3]; refine hR _ _ _ ?_; clear hR R)
    rw [seqX_nil]
    refine hK _ _ _ ?_; clear hK K
    refine hN8 _ _ _ ?_
    rw [xc_block]
    rw [xc_loop]
    refine vloopK (fun k' e ds A' => ∃ (i : Nat) (D : View) (cv : Value) (ps : List Nat) (Hs : Nat → View), k' = kids.length - i ∧ ds = [] ∧ A' = ov D [(q26, .cells (ync k 0 tag val an cv h l f row col) 114 (0, 0)), (q1, .cells (trc k 0 tag val an h l f row col (-1) (.slice bs kids.length cap)) 24 (0, 0))] ∧ Priv D [q26, q1] ∧ e 1 = .pointer (some ⟨q1, 0, none⟩) ∧ e 3 = .pointer (some ⟨q26, 0, none⟩) ∧ e 46 = .slice bs kids.length cap ∧ e 47 = .int .i64 kids.length ∧ e 48 = .int .i64 i ∧ (i ≤ kids.length) ∧ (A ≤ eraseB D cv) ∧ (Own (eraseB D cv) D 90 1 cv i (ps.map ptr0)) ∧ (ps.length = i) ∧ (∀ j, Hs j ≤ eraseB D cv ∧ Apt (Hs j) A) ∧ (∀ j, i ≤ j → Hs j = vnil) ∧ (∀ m j, m ≠ j → Apt (Hs m) (Hs j)) ∧ (∀ j (hj : j < kids.length), j < i → ∃ q, ps[j]? = some q ∧ HY (Hs j) kids[j] q)) _ ⟨0, A, .slice none 0 0, [], fun _ => vnil, rfl, rfl, rfl, hP, by simp [go_sem, hcz, hco, d261, d126, g1, g3], by simp [go_sem, hcz, hco, d261, d126, g1, g3], by simp [go_sem, hcz, hco, d261, d126, g1, g3], by simp [go_sem, hcz, hco, d261, d126, g1, g3], by simp [go_sem, hcz, hco, d261, d126, g1, g3], by omega, View.le_refl _, Own.nil _ _ _ _, rfl, fun j => ⟨vnil_le _, apt_nil _⟩, fun _ _ => rfl, fun _ _ _ => apt_nil _, fun j hj h => by omega⟩ ?_
    clear g1 g3
    clear hP
    rintro k' e ds _ ⟨i, D, cv, ps, Hs, rfl, rfl, rfl, hP, g1, g3, g46, g47, g48, hil, hAD, hO, hpl, hHl, hHn, hHa, hyn⟩ J1 X1 hJ1 hX1
    refine xc_sound _ ?_
    have hw1 : IntKind.i64.wrap ((i : Int) + 1) = ((i + 1 : Nat) : Int) := by rw [wrap_in (by omega) (by omega)]; omega
    by_cases hi : i < kids.length
    rotate_left
    · have hie : i = kids.length := by omega
      refine xc_two fun N9 hN9 => ?_
      refine xc_reg2 fun K hK => ?_
      simp only [rall, rsl, gres]
      (refine seqX_hide2 fun R hR => ?_; simp [go_sem, hcz, hco, d261, d126, g1, g3, g46, g47, g48, hi]; refine hR _ _ _ ?_; clear hR R)
      rw [seqX_nil]
      refine hK _ _ _ ?_; clear hK K
      refine hN9 _ _ _ ?_
      refine xc_two fun N10 hN10 => ?_
      refine xc_iffalse (by simp [go_sem, hcz, hco, d261, d126, g1, g3, g46, g47, g48, hi]) ?_
      refine hX1 _ _ _ _ ?_
      refine hN7 _ _ _ ?_
      refine xc_two fun N11 hN11 => ?_
      refine xc_reg2 fun K hK => ?_
      simp only [rall, rsl, gres]
      iterate 2 (refine seqX_hide2 fun R hR => ?_; simp [go_sem, hcz, hco, d261, d126, g1, g3, g46, g47, g48, hi]; refine hR _ _ _ ?_; clear hR R)
      rw [seqX_nil]
      refine hK _ _ _ ?_; clear hK K
      refine hN11 _ _ _ ?_
      simp [go_sem, hcz, hco, d261, d126, g1, g3, g46, g47, g48, hi]
      have hq0 : A q26 = none := none_le (View.le_trans hAD (eraseB_le D cv)) hP.1
      have hle : D ≤ ov D [(q26, .cells (ync k 0 tag val an cv h l f row col) 114 (0, 0)), (q1, .cells (trc k 0 tag val an h l f row col (-1) (.slice bs kids.length cap)) 24 (0, 0))] := le_ov hP
      have hnb := own_block hO hP.1
      have hOA : Own A D 90 1 cv kids.length (ps.map ptr0) := by
        rw [← hie]
        exact own_move hO fun b o h1 h2 h3 => ⟨none_le hAD h1, h3⟩
      have hH : HY (vsub (ov D [(q26, .cells (ync k 0 tag val an cv h l f row col) 114 (0, 0)), (q1, .cells (trc k 0 tag val an h l f row col (-1) (.slice bs kids.length cap)) 24 (0, 0))]) A) (.mk k 0 tag val an h l f row col (-1) kids) q26 := by
        rw [HY]
        refine ⟨cv, ps, Hs, ?_, ?_, hnb, by omega, fun j => ⟨?_, none_le (View.le_trans (hHl j).1 (eraseB_le D cv)) hP.1⟩, hHa, fun j hj => hyn j hj (by omega)⟩
        · rw [vsub_at hq0]
          exact ov_at_here _ _ _ _
        · exact own_sub (hOA.le hle)
        · refine View.le_trans (le_vsub (hHl j).1 (hHl j).2) ?_
          intro b o hb
          obtain ⟨e1, e2⟩ := vsub_some hb
          obtain ⟨e3, e4⟩ := eraseB_some e2
          rw [eraseB_apart e3, vsub_at e1]
          exact hle _ _ e4
      exact ⟨View.le_trans hAD (View.le_trans (eraseB_le D cv) hle), _, hH, apt_vsub _ _, vsub_le _ _⟩
    obtain ⟨bs', cap', f1, hel⟩ := hT
    simp only [Value.slice.injEq, true_and] at f1
    obtain ⟨rfl, rfl⟩ := f1
    obtain ⟨a, ci, rfl, u0, hci0⟩ := hel i hi
    have hx := List.getElem_mem hi
    have hpk1 := hpk i hi
    have hnk : nds kids[i] ≤ 1000000 := by
      have : nds kids[i] ≤ (kids.map nds).sum := nds_mem hx
      omega
    have hii : (i : Int) < kids.length := by omega
    have u1e := le_cells hAD _ _ _ u0
    have u1 := le_cells (eraseB_le D cv) _ _ _ u1e
    have hci := hci0.le hAD
    have hcz := hci.size
    have hco := hci.ones
    obtain ⟨vb, vc, rfl⟩ := hO.shape
    have hPe : Priv (eraseB D (.slice vb i vc)) [q26, q1] := hP.anti (fun b _ h => none_le (eraseB_le D (.slice vb i vc)) h)
    refine xc_two fun N9 hN9 => ?_
    refine xc_reg2 fun K hK => ?_
    simp only [rall, rsl, gres]
    (refine seqX_hide2 fun R hR => ?_; simp [go_sem, hcz, hco, d261, d126, g1, g3, g46, g47, g48, hi, hii, hw1, bcs hP u1, bcs hPe u1e]; refine hR _ _ _ ?_; clear hR R)
    rw [seqX_nil]
    refine hK _ _ _ ?_; clear hK K
    refine hN9 _ _ _ ?_
    refine xc_two fun N10 hN10 => ?_
    refine xc_iftrue (by simp [go_sem, hcz, hco, d261, d126, g1, g3, g46, g47, g48, hi, hii, hw1, bcs hP u1, bcs hPe u1e]) ?_
    refine hN10 _ _ _ ?_
    refine xc_two fun N11 hN11 => ?_
    rw [xc_block]
    refine xc_two fun N12 hN12 => ?_
    refine xc_reg2 fun K hK => ?_
    simp only [rall, rsl, gres]
    iterate 2 (refine seqX_hide2 fun R hR => ?_; simp [go_sem, hcz, hco, d261, d126, g1, g3, g46, g47, g48, hi, hii, hw1, bcs hP u1, bcs hPe u1e]; refine hR _ _ _ ?_; clear hR R)
    rw [seqX_nil]
    refine hK _ _ _ ?_; clear hK K
    refine hN12 _ _ _ ?_
    rw [xc_draws]
    refine vdrawK [(0, true), (1, true), (2, true), (3, true), (4, true), (5, true), (6, true), (7, true), (8, true), (9, true), (10, true), (11, true), (12, false), (13, true), (14, true), (15, false)] (ov (eraseB D (.slice vb i vc)) [(q26, .cells (ync k 0 tag val an (.slice vb i vc) h l f row col) 114 (0, 0)), (q1, .cells (trc k 0 tag val an h l f row col (-1) (.slice (some a) kids.length cap)) 24 (0, 0))]) mixed (by kernel_rfl) (ov_mono (eraseB_le _ _)) fun K hK => ?_
    simp only [rsl, gres]
    iterate 10 (refine seqR_hide fun R hR => ?_; simp [go_sem, hcz, hco, d261, d126, g1, g3, g46, g47, g48, hi, hii, hw1, bcs hP u1, bcs hPe u1e]; refine hR _ _ _ ?_; clear hR R)
    refine seqR_hide fun R hR => ?_
    simp [go_sem, hcz, hco, d261, d126, g1, g3, g46, g47, g48, hi, hii, hw1, bcs hP u1, bcs hPe u1e]
    refine call_sub hP (eraseB_le D (.slice vb i vc)) (ihk _ hx (lv - 1) (eraseB D (.slice vb i vc)) ci hci hpk1 hnk) ?_
    clear hP
    rintro _ E D3 ⟨p, rfl, hAE, G, hG, hGA, hGE⟩ hED hKp hmono hP
    have hDD := hmono hAE
    have hE3 := keep_erase hO hED hKp
    have hO3 := own_rebase (hO.le hDD)
    refine ⟨ov_mono (View.le_trans hAE hED), hR _ _ _ ?_⟩; clear hR R
    refine seqR_hide fun R hR => ?_
    simp [go_sem, hcz, hco, d261, d126, g1, g3, g46, g47, g48, hi, hii, hw1]
    intro q62 hq62
    replace hP := hP.cons hq62
    clear hq62
    have d6226 : q62 ≠ q26 := (hP.ne q26 (by simp [addrs])).1
    have d2662 : q26 ≠ q62 := (hP.ne q26 (by simp [addrs])).2
    have d621 : q62 ≠ q1 := (hP.ne q1 (by simp [addrs])).1
    have d162 : q1 ≠ q62 := (hP.ne q1 (by simp [addrs])).2
    refine hR _ _ _ ?_; clear hR R
    refine seqR_hide fun R hR => ?_
    simp [go_sem, hcz, hco, d261, d126, g1, g3, g46, g47, g48, hi, hii, hw1, d6226, d2662, d621, d162]
    refine append_ov (cs := [ptr0 p]) (m := 1) hP ti100 ti100 (fun k => by simp) ti90 rfl (by decide) hO3 (eraseB_le _ _) (by simp [appended, View.cells?, go_sem]) (by simp [isStr]) (fun v hv => by rw [List.mem_singleton] at hv; subst hv; rfl) (by omega) ?_
    clear hP
    rintro v4 D4 h4 hO4 h4e hP
    obtain ⟨wb, wc, rfl⟩ := hO4.shape
    refine hR _ _ _ ?_; clear hR R
    iterate 2 (refine seqR_hide fun R hR => ?_; simp [go_sem, hcz, hco, d261, d126, g1, g3, g46, g47, g48, hi, hii, hw1, d6226, d2662, d621, d162]; refine hR _ _ _ ?_; clear hR R)
    refine seqR_hide fun R hR => ?_
    simp [go_sem, hcz, hco, d261, d126, g1, g3, g46, g47, g48, hi, hii, hw1, d6226, d2662, d621, d162]
    refine hR _ _ _ ?_; clear hR R
    rw [seqR_nil]
    refine hK _ _ _ ?_; clear hK K
    refine hN11 _ _ _ ?_
    refine xc_reg2 fun K hK => ?_
    simp only [rall, rsl, gres]
    iterate 2 (refine seqX_hide2 fun R hR => ?_; simp [go_sem, hcz, hco, d261, d126, g1, g3, g46, g47, g48, hi, hii, hw1, d6226, d2662, d621, d162]; refine hR _ _ _ ?_; clear hR R)
    rw [seqX_nil]
    refine hK _ _ _ ?_; clear hK K
    refine sink_goal 0 hP rfl fun hPn lq62 nq62 => ?_
    clear hP; have hP := hPn; clear hPn
    simp only [List.eraseIdx_cons_zero, List.eraseIdx_cons_succ, addrs_cons, addrs_nil] at hP ⊢
    have hE5 := View.le_trans h4e (eraseB_mono lq62 (.slice wb (i + 1) wc))
    have hE6 := View.le_trans hAE (View.le_trans hE3 hE5)
    have hHi := hHn i (Nat.le_refl _)
    have hGA2 : Apt G A := hGA.le (View.le_refl _) hAD
    have hyn2 : ∀ j (hj : j < kids.length), j < i + 1 → ∃ q, (ps ++ [p])[j]? = some q ∧ HY ((fun m => if m = i then G else Hs m) j) kids[j] q := fun j hj h => by
      rcases Nat.lt_or_eq_of_le (Nat.le_of_lt_succ h) with h2 | h2
      · obtain ⟨q, k1, k2⟩ := hyn j hj h2
        refine ⟨q, by rw [List.getElem?_append_left (by omega)]; exact k1, ?_⟩
        show HY (if j = i then G else Hs j) _ _
        rw [if_neg (by omega)]
        exact k2
      · subst h2
        refine ⟨p, by rw [← hpl]; simp, ?_⟩
        show HY (if j = j then G else Hs j) _ _
        rw [if_pos rfl]
        exact hG
    have hHl2 : ∀ j, (fun m => if m = i then G else Hs m) j ≤ eraseB (D4.set q62 (.cells #[ptr0 p] 90 (0, 0))) (.slice wb (i + 1) wc) ∧ Apt ((fun m => if m = i then G else Hs m) j) A := fun j => by
      show (if j = i then G else Hs j) ≤ _ ∧ Apt (if j = i then G else Hs j) A
      split
      · exact ⟨View.le_trans hGE (View.le_trans hE3 hE5), hGA2⟩
      · exact ⟨View.le_trans (hHl j).1 hE6, (hHl j).2⟩
    have hHn2 : ∀ j, i + 1 ≤ j → (fun m => if m = i then G else Hs m) j = vnil := fun j hj => by
      show (if j = i then G else Hs j) = vnil
      rw [if_neg (by omega)]
      exact hHn j (by omega)
    have hHa2 : ∀ m j, m ≠ j → Apt ((fun m => if m = i then G else Hs m) m) ((fun m => if m = i then G else Hs m) j) := fun m j hmj => by
      show Apt (if m = i then G else Hs m) (if j = i then G else Hs j)
      by_cases e1 : m = i
      · rw [if_pos e1, if_neg (by omega)]
        exact hGA.le (View.le_refl _) (hHl j).1
      · rw [if_neg e1]
        split
        · exact (hGA.le (View.le_refl _) (hHl m).1).symm
        · exact hHa m j hmj
    refine hJ1 (kids.length - (i + 1)) _ _ _ (by omega) ⟨i + 1, _, .slice wb (i + 1) wc, ps ++ [p], fun m => if m = i then G else Hs m, rfl, rfl, rfl, hP, by simp [go_sem, hcz, hco, d261, d126, g1, g3, g46, g47, g48, hi, hii, hw1, d6226, d2662, d621, d162], by simp [go_sem, hcz, hco, d261, d126, g1, g3, g46, g47, g48, hi, hii, hw1, d6226, d2662, d621, d162], by simp [go_sem, hcz, hco, d261, d126, g1, g3, g46, g47, g48, hi, hii, hw1, d6226, d2662, d621, d162], by simp [go_sem, hcz, hco, d261, d126, g1, g3, g46, g47, g48, hi, hii, hw1, d6226, d2662, d621, d162], by simp [go_sem, hcz, hco, d261, d126, g1, g3, g46, g47, g48, hi, hii, hw1, d6226, d2662, d621, d162], by omega, View.le_trans hAD hE6, by rw [List.map_append]; exact own_rebase (hO4.le lq62), by rw [List.length_append, hpl]; rfl, hHl2, hHn2, hHa2, hyn2⟩
  rcases hk with rfl | rfl | rfl
  · skip
    refine xc_iffalse (by simp [go_sem, hcz, hco, d261, d126]) ?_
    refine xc_two fun N7 hN7 => ?_
    refine xc_reg2 fun K hK => ?_
    simp only [rall, rsl, gres]
    iterate 2 (refine seqX_hide2 fun R hR => ?_; simp [go_sem, hcz, hco, d261, d126]; refine hR _ _ _ ?_; clear hR R)
    rw [seqX_nil]
    refine hK _ _ _ ?_; clear hK K
    refine hN7 _ _ _ ?_
    refine xc_iffalse (by simp [go_sem, hcz, hco, d261, d126]) ?_
    refine xc_two fun N8 hN8 => ?_
    refine xc_reg2 fun K hK => ?_
    simp only [rall, rsl, gres]
    iterate 2 (refine seqX_hide2 fun R hR => ?_; simp [go_sem, hcz, hco, d261, d126]; refine hR _ _ _ ?_; clear hR R)
    rw [seqX_nil]
    refine hK _ _ _ ?_; clear hK K
    refine hN8 _ _ _ ?_
    refine xc_iftrue (by simp [go_sem, hcz, hco, d261, d126]) ?_
    refine hN5 _ _ _ ?_
    refine xc_iftrue (by simp [go_sem, hcz, hco, d261, d126]) ?_
    refine xc_reg2 fun K hK => ?_
    simp only [rall, rsl, gres]
    iterate 3 (refine seqX_hide2 fun R hR => ?_; simp [go_sem, hcz, hco, d261, d126]; refine hR _ _ _ ?_; clear hR R)
    refine seqX_hide2 fun R hR => ?_
    simp [go_sem, hcz, hco, d261, d126]
    refine hR _ _ _ ?_; clear hR R
    iterate 2 (refine seqX_hide2 fun R hR => ?_; simp [go_sem, hcz, hco, d261, d126]; refine hR _ _ _ ?_; clear hR R)
    refine seqX_hide2 fun R hR => ?_
    simp [go_sem, hcz, hco, d261, d126]
    refine hR _ _ _ ?_; clear hR R
    rw [seqX_nil]
    refine hK _ _ _ ?_; clear hK K
    exact lp  _ hP (by simp [go_sem, hcz, hco, d261, d126]) (by simp [go_sem, hcz, hco, d261, d126])
  · skip
    refine xc_iffalse (by simp [go_sem, hcz, hco, d261, d126]) ?_
    refine xc_two fun N7 hN7 => ?_
    refine xc_reg2 fun K hK => ?_
    simp only [rall, rsl, gres]
    iterate 2 (refine seqX_hide2 fun R hR => ?_; simp [go_sem, hcz, hco, d261, d126]; refine hR _ _ _ ?_; clear hR R)
    rw [seqX_nil]
    refine hK _ _ _ ?_; clear hK K
    refine hN7 _ _ _ ?_
    refine xc_iffalse (by simp [go_sem, hcz, hco, d261, d126]) ?_
    refine xc_two fun N8 hN8 => ?_
    refine xc_reg2 fun K hK => ?_
    simp only [rall, rsl, gres]
    iterate 2 (refine seqX_hide2 fun R hR => ?_; simp [go_sem, hcz, hco, d261, d126]; refine hR _ _ _ ?_; clear hR R)
    rw [seqX_nil]
    refine hK _ _ _ ?_; clear hK K
    refine hN8 _ _ _ ?_
    refine xc_iffalse (by simp [go_sem, hcz, hco, d261, d126]) ?_
    refine xc_two fun N9 hN9 => ?_
    refine xc_reg2 fun K hK => ?_
    simp only [rall, rsl, gres]
    iterate 2 (refine seqX_hide2 fun R hR => ?_; simp [go_sem, hcz, hco, d261, d126]; refine hR _ _ _ ?_; clear hR R)
    rw [seqX_nil]
    refine hK _ _ _ ?_; clear hK K
    refine hN9 _ _ _ ?_
    refine xc_iftrue (by simp [go_sem, hcz, hco, d261, d126]) ?_
    refine hN5 _ _ _ ?_
    refine xc_iftrue (by simp [go_sem, hcz, hco, d261, d126]) ?_
    refine xc_reg2 fun K hK => ?_
    simp only [rall, rsl, gres]
    iterate 3 (refine seqX_hide2 fun R hR => ?_; simp [go_sem, hcz, hco, d261, d126]; refine hR _ _ _ ?_; clear hR R)
    refine seqX_hide2 fun R hR => ?_
    simp [go_sem, hcz, hco, d261, d126]
    refine hR _ _ _ ?_; clear hR R
    iterate 2 (refine seqX_hide2 fun R hR => ?_; simp [go_sem, hcz, hco, d261, d126]; refine hR _ _ _ ?_; clear hR R)
    refine seqX_hide2 fun R hR => ?_
    simp [go_sem, hcz, hco, d261, d126]
    refine hR _ _ _ ?_; clear hR R
    rw [seqX_nil]
    refine hK _ _ _ ?_; clear hK K
    exact lp  _ hP (by simp [go_sem, hcz, hco, d261, d126]) (by simp [go_sem, hcz, hco, d261, d126])
  · skip
    refine xc_iffalse (by simp [go_sem, hcz, hco, d261, d126]) ?_
    refine xc_two fun N7 hN7 => ?_
    refine xc_reg2 fun K hK => ?_
    simp only [rall, rsl, gres]
    iterate 2 (refine seqX_hide2 fun R hR => ?_; simp [go_sem, hcz, hco, d261, d126]; refine hR _ _ _ ?_; clear hR R)
    rw [seqX_nil]
    refine hK _ _ _ ?_; clear hK K
    refine hN7 _ _ _ ?_
    refine xc_iffalse (by simp [go_sem, hcz, hco, d261, d126]) ?_
    refine xc_two fun N8 hN8 => ?_
    refine xc_reg2 fun K hK => ?_
    simp only [rall, rsl, gres]
    iterate 2 (refine seqX_hide2 fun R hR => ?_; simp [go_sem, hcz, hco, d261, d126]; refine hR _ _ _ ?_; clear hR R)
    rw [seqX_nil]
    refine hK _ _ _ ?_; clear hK K
    refine hN8 _ _ _ ?_
    refine xc_iffalse (by simp [go_sem, hcz, hco, d261, d126]) ?_
    refine xc_two fun N9 hN9 => ?_
    refine xc_reg2 fun K hK => ?_
    simp only [rall, rsl, gres]
    iterate 2 (refine seqX_hide2 fun R hR => ?_; simp [go_sem, hcz, hco, d261, d126]; refine hR _ _ _ ?_; clear hR R)
    rw [seqX_nil]
    refine hK _ _ _ ?_; clear hK K
    refine hN9 _ _ _ ?_
    refine xc_iffalse (by simp [go_sem, hcz, hco, d261, d126]) ?_
    refine xc_two fun N10 hN10 => ?_
    refine xc_reg2 fun K hK => ?_
    simp only [rall, rsl, gres]
    iterate 2 (refine seqX_hide2 fun R hR => ?_; simp [go_sem, hcz, hco, d261, d126]; refine hR _ _ _ ?_; clear hR R)
    rw [seqX_nil]
    refine hK _ _ _ ?_; clear hK K
    refine hN10 _ _ _ ?_
    refine xc_iftrue (by simp [go_sem, hcz, hco, d261, d126]) ?_
    refine hN5 _ _ _ ?_
    refine xc_iftrue (by simp [go_sem, hcz, hco, d261, d126]) ?_
    refine xc_reg2 fun K hK => ?_
    simp only [rall, rsl, gres]
    iterate 3 (refine seqX_hide2 fun R hR => ?_; simp [go_sem, hcz, hco, d261, d126]; refine hR _ _ _ ?_; clear hR R)
    refine seqX_hide2 fun R hR => ?_
    simp [go_sem, hcz, hco, d261, d126]
    refine hR _ _ _ ?_; clear hR R
    iterate 2 (refine seqX_hide2 fun R hR => ?_; simp [go_sem, hcz, hco, d261, d126]; refine hR _ _ _ ?_; clear hR R)
    refine seqX_hide2 fun R hR => ?_
    simp [go_sem, hcz, hco, d261, d126]
    refine hR _ _ _ ?_; clear hR R
    rw [seqX_nil]
    refine hK _ _ _ ?_; clear hK K
    exact lp  _ hP (by simp [go_sem, hcz, hco, d261, d126]) (by simp [go_sem, hcz, hco, d261, d126])
set_option maxRecDepth 20000 in
set_option maxHeartbeats 4000000 in
theorem buildH (A : View) (t : Tr) (lv : Nat) (c : Array Value) (hc : IsTr A t c) (hpl : PT lv t) (hnd : nds t ≤ 1000000) : VCalls Try.prog 74 #[.agg c] A fun r A' => ∃ p, r = ptr0 p ∧ NewY A A' t p := by
  have hcz := hc.size
  have hco := hc.ones
  refine xcalls Try.func74 rfl (by simp [Try.ntmps74]) ?_
  simp only [Try.f74]
  have hP : Priv A (addrs []) := Priv.nil A
  show xc _ _ _ _ _ _ (ov A [])
  refine xc_two fun N1 hN1 => ?_
  refine xc_reg2 fun K hK => ?_
  simp only [rall, rsl, gres]
  refine seqX_hide2 fun R hR => ?_
  simp [go_sem, hcz, hco]
  intro q1 hq1
  replace hP := hP.cons hq1
  clear hq1
  refine hR _ _ _ ?_; clear hR R
  (refine seqX_hide2 fun R hR => ?_; simp [go_sem, hcz, hco]; refine hR _ _ _ ?_; clear hR R)
  rw [seqX_nil]
  refine hK _ _ _ ?_; clear hK K
  refine hN1 _ _ _ ?_
  refine xc_two fun N2 hN2 => ?_
  refine xc_reg2 fun K hK => ?_
  simp only [rall, rsl, gres]
  (refine seqX_hide2 fun R hR => ?_; simp [go_sem, hcz, hco]; refine hR _ _ _ ?_; clear hR R)
  refine seqX_hide2 fun R hR => ?_
  simp [go_sem, hcz, hco]
  refine call_ov hP (bareH t lv A c hc hpl hnd) ?_
  clear hP
  rintro _ A1 ⟨p, rfl, hty⟩ hP
  have hy := hty.yn
  have hA1 := hty.1
  refine hR _ _ _ ?_; clear hR R
  (refine seqX_hide2 fun R hR => ?_; simp [go_sem, hcz, hco]; refine hR _ _ _ ?_; clear hR R)
  rw [seqX_nil]
  refine hK _ _ _ ?_; clear hK K
  refine hN2 _ _ _ ?_
  refine xc_two fun N3 hN3 => ?_
  rw [xc_draws]
  refine vdrawK [(0, true), (1, true), (2, true), (3, true), (4, false)] (ov A1 [(q1, .cells c 24 (0, 0))]) mixed (by kernel_rfl) (View.le_refl _) fun K hK => ?_
  simp only [rsl, gres]
  iterate 3 (refine seqR_hide fun R hR => ?_; simp [go_sem, hcz, hco]; refine hR _ _ _ ?_; clear hR R)
  refine seqR_hide fun R hR => ?_
  simp [go_sem, hcz, hco]
  refine call_ov hP (listed46 t A1 A1 p (.slice none 0 0) 0 [] hy (View.le_refl _) (Own.nil _ _ _ _) (by omega)) ?_
  clear hP
  rintro r A2 ⟨n', cs', hO2, hE2, -⟩ hP
  have hA2 : A1 ≤ A2 := View.le_trans hE2 (eraseB_le _ _)
  refine ⟨ov_mono hA2, hR _ _ _ ?_⟩; clear hR R
  refine seqR_hide fun R hR => ?_
  simp [go_sem, hcz, hco]
  refine call_ov hP (aliased45 t lv A2 c p r (hc.le (View.le_trans hA1 hA2)) (IsYn.le hA2 _ _ hy) hpl hnd) ?_
  clear hP
  rintro _ A3 hA3 hP
  refine hR _ _ _ ?_; clear hR R
  rw [seqR_nil]
  refine hK _ _ _ ?_; clear hK K
  refine hN3 _ _ _ ?_
  refine xc_two fun N4 hN4 => ?_
  refine xc_reg2 fun K hK => ?_
  simp only [rall, rsl, gres]
  iterate 2 (refine seqX_hide2 fun R hR => ?_; simp [go_sem, hcz, hco]; refine hR _ _ _ ?_; clear hR R)
  rw [seqX_nil]
  refine hK _ _ _ ?_; clear hK K
  refine hN4 _ _ _ ?_
  simp [go_sem, hcz, hco]
  refine hty.grow (View.le_refl _) (View.le_trans hA2 (View.le_trans hA3 ?_))
  exact le_ov hP
set_option maxRecDepth 20000 in
set_option maxHeartbeats 4000000 in
theorem rootedH (A : View) (t : Tr) (lv : Nat) (c : Array Value) (hc : IsTr A t c) (hpl : PT lv t) (hnd : nds t ≤ 400) (hlv : lv ≤ 40) : VCalls Try.prog 47 #[.agg c] A fun r A' => ∃ q, r = .tuple #[ptr0 q, .bool true] ∧ NewR A A' t q := by
  have hcz := hc.size
  have hco := hc.ones
  refine xcalls Try.func47 rfl (by simp [Try.ntmps47]) ?_
  simp only [Try.f47]
  have hP : Priv A (addrs []) := Priv.nil A
  show xc _ _ _ _ _ _ (ov A [])
  refine xc_two fun N1 hN1 => ?_
  refine xc_reg2 fun K hK => ?_
  simp only [rall, rsl, gres]
  refine seqX_hide2 fun R hR => ?_
  simp [go_sem, hcz, hco]
  intro q1 hq1
  replace hP := hP.cons hq1
  clear hq1
  refine hR _ _ _ ?_; clear hR R
  iterate 2 (refine seqX_hide2 fun R hR => ?_; simp [go_sem, hcz, hco]; refine hR _ _ _ ?_; clear hR R)
  rw [seqX_nil]
  refine hK _ _ _ ?_; clear hK K
  refine hN1 _ _ _ ?_
  refine xc_two fun N2 hN2 => ?_
  refine xc_reg2 fun K hK => ?_
  simp only [rall, rsl, gres]
  refine seqX_hide2 fun R hR => ?_
  simp [go_sem, hcz, hco]
  intro q4 hq4
  replace hP := hP.cons hq4
  clear hq4
  have d41 : q4 ≠ q1 := (hP.ne q1 (by simp [addrs])).1
  have d14 : q1 ≠ q4 := (hP.ne q1 (by simp [addrs])).2
  refine hR _ _ _ ?_; clear hR R
  refine seqX_hide2 fun R hR => ?_
  simp [go_sem, hcz, hco, d41, d14]
  intro q5 hq5
  replace hP := hP.cons hq5
  clear hq5
  have d54 : q5 ≠ q4 := (hP.ne q4 (by simp [addrs])).1
  have d45 : q4 ≠ q5 := (hP.ne q4 (by simp [addrs])).2
  have d51 : q5 ≠ q1 := (hP.ne q1 (by simp [addrs])).1
  have d15 : q1 ≠ q5 := (hP.ne q1 (by simp [addrs])).2
  refine hR _ _ _ ?_; clear hR R
  refine seqX_hide2 fun R hR => ?_
  simp [go_sem, hcz, hco, d41, d14, d54, d45, d51, d15]
  refine hR _ _ _ ?_; clear hR R
  refine seqX_hide2 fun R hR => ?_
  simp [go_sem, hcz, hco, d41, d14, d54, d45, d51, d15]
  refine hR _ _ _ ?_; clear hR R
  rw [seqX_nil]
  refine hK _ _ _ ?_; clear hK K
  refine hN2 _ _ _ ?_
  refine xc_two fun N3 hN3 => ?_
  refine xc_reg2 fun K hK => ?_
  simp only [rall, rsl, gres]
  refine seqX_hide2 fun R hR => ?_
  simp [go_sem, hcz, hco, d41, d14, d54, d45, d51, d15]
  intro q6 hq6
  replace hP := hP.cons hq6
  clear hq6
  have d65 : q6 ≠ q5 := (hP.ne q5 (by simp [addrs])).1
  have d56 : q5 ≠ q6 := (hP.ne q5 (by simp [addrs])).2
  have d64 : q6 ≠ q4 := (hP.ne q4 (by simp [addrs])).1
  have d46 : q4 ≠ q6 := (hP.ne q4 (by simp [addrs])).2
  have d61 : q6 ≠ q1 := (hP.ne q1 (by simp [addrs])).1
  have d16 : q1 ≠ q6 := (hP.ne q1 (by simp [addrs])).2
  refine hR _ _ _ ?_; clear hR R
  rw [seqX_nil]
  refine hK _ _ _ ?_; clear hK K
  refine hN3 _ _ _ ?_
  refine xc_two fun N4 hN4 => ?_
  refine xc_two fun N5 hN5 => ?_
  refine xc_reg2 fun K hK => ?_
  simp only [rall, rsl, gres]
  (refine seqX_hide2 fun R hR => ?_; simp [go_sem, hcz, hco, d41, d14, d54, d45, d51, d15, d65, d56, d64, d46, d61, d16]; refine hR _ _ _ ?_; clear hR R)
  refine seqX_hide2 fun R hR => ?_
  simp [go_sem, hcz, hco, d41, d14, d54, d45, d51, d15, d65, d56, d64, d46, d61, d16]
  obtain ⟨eq6, hPn, nq6⟩ := sinkI (A := A) (L := [(q6, .cells #[.slice none 0 0] 104 (0, 0)), (q5, .cells #[.int .i64 0] 3 (0, 0)), (q4, .cells #[.int .i64 0] 3 (0, 0)), (q1, .cells c 24 (0, 0))]) 0 hP rfl
  rw [eq6]
  clear eq6 hP; have hP := hPn; clear hPn
  simp only [List.eraseIdx_cons_zero, List.eraseIdx_cons_succ, addrs_cons, addrs_nil] at hP ⊢
  obtain ⟨eq5, hPn, nq5⟩ := sinkI (A := A.set q6 (.cells #[.slice none 0 0] 104 (0, 0))) (L := [(q5, .cells #[.int .i64 0] 3 (0, 0)), (q4, .cells #[.int .i64 0] 3 (0, 0)), (q1, .cells c 24 (0, 0))]) 0 hP rfl
  rw [eq5]
  clear eq5 hP; have hP := hPn; clear hPn
  simp only [List.eraseIdx_cons_zero, List.eraseIdx_cons_succ, addrs_cons, addrs_nil] at hP ⊢
  obtain ⟨eq4, hPn, nq4⟩ := sinkI (A := (A.set q6 (.cells #[.slice none 0 0] 104 (0, 0))).set q5 (.cells #[.int .i64 0] 3 (0, 0))) (L := [(q4, .cells #[.int .i64 0] 3 (0, 0)), (q1, .cells c 24 (0, 0))]) 0 hP rfl
  rw [eq4]
  clear eq4 hP; have hP := hPn; clear hPn
  simp only [List.eraseIdx_cons_zero, List.eraseIdx_cons_succ, addrs_cons, addrs_nil] at hP ⊢
  have n64 : q6 ≠ q4 := d64
  have hC : Cnt A (((A.set q6 (.cells #[.slice none 0 0] 104 (0, 0))).set q5 (.cells #[.int .i64 0] 3 (0, 0))).set q4 (.cells #[.int .i64 0] 3 (0, 0))) q4 q5 q6 0 (.slice none 0 0) [] := by
    refine ⟨le_set0 (le_set0 (le_set0 (View.le_refl _) nq6) (none_le (le_set nq6) nq5)) (none_le (View.le_trans (le_set nq6) (le_set nq5)) nq4), none_le (View.le_trans (le_set nq6) (le_set nq5)) nq4, nq6, set_at _ _ _, ?_, Own.nil _ _ _ _, by simp [blockOf], by simp [blockOf], fun hx => n64 hx.symm⟩
    rw [set_other n64, set_other d65, set_at]
  generalize ((A.set q6 (.cells #[.slice none 0 0] 104 (0, 0))).set q5 (.cells #[.int .i64 0] 3 (0, 0))).set q4 (.cells #[.int .i64 0] 3 (0, 0)) = A1 at hP hC ⊢
  have lA1 : A ≤ A1 := hC.low
  refine call_ov hP (counted32 t lv 0 A A1 c q4 q5 q6 0 (.slice none 0 0) [] hc hpl hC (by omega) (by omega)) ?_
  clear hP
  rintro _ A2 ⟨rfl, ev', cs', hC2⟩ hP
  have lA2 := View.le_trans hC2.low (eraseB_le A2 ev')
  refine hR _ _ _ ?_; clear hR R
  (refine seqX_hide2 fun R hR => ?_; simp [go_sem, hcz, hco, d41, d14, d54, d45, d51, d15, d65, d56, d64, d46, d61, d16]; refine hR _ _ _ ?_; clear hR R)
  rw [seqX_nil]
  refine hK _ _ _ ?_; clear hK K
  refine hN5 _ _ _ ?_
  refine xc_iffalse (by simp [go_sem, hcz, hco, d41, d14, d54, d45, d51, d15, d65, d56, d64, d46, d61, d16]) ?_
  refine hN4 _ _ _ ?_
  refine xc_two fun N6 hN6 => ?_
  refine xc_reg2 fun K hK => ?_
  simp only [rall, rsl, gres]
  (refine seqX_hide2 fun R hR => ?_; simp [go_sem, hcz, hco, d41, d14, d54, d45, d51, d15, d65, d56, d64, d46, d61, d16]; refine hR _ _ _ ?_; clear hR R)
  refine seqX_hide2 fun R hR => ?_
  simp [go_sem, hcz, hco, d41, d14, d54, d45, d51, d15, d65, d56, d64, d46, d61, d16]
  refine call_ov hP (buildH A2 t lv c (hc.le lA2) hpl (by omega)) ?_
  clear hP
  rintro _ A3 ⟨p, rfl, hty⟩ hP
  refine hR _ _ _ ?_; clear hR R
  refine seqX_hide2 fun R hR => ?_
  simp [go_sem, hcz, hco, d41, d14, d54, d45, d51, d15, d65, d56, d64, d46, d61, d16]
  refine call_ov hP (newRNodeS A3 p) ?_
  clear hP
  rintro _ A4 ⟨q, rfl, hr, hq0, hA4⟩ hP
  refine hR _ _ _ ?_; clear hR R
  iterate 2 (refine seqX_hide2 fun R hR => ?_; simp [go_sem, hcz, hco, d41, d14, d54, d45, d51, d15, d65, d56, d64, d46, d61, d16]; refine hR _ _ _ ?_; clear hR R)
  rw [seqX_nil]
  refine hK _ _ _ ?_; clear hK K
  refine hN6 _ _ _ ?_
  simp [go_sem, hcz, hco, d41, d14, d54, d45, d51, d15, d65, d56, d64, d46, d61, d16]
  obtain ⟨e1, H, e2, e3, e4⟩ := hty
  have l4 := View.le_trans hA4 (le_ov hP)
  exact ⟨p, H, le_ov hP _ _ hr, none_le (View.le_trans lA2 e1) hq0, none_le e4 hq0, View.le_trans lA2 (View.le_trans e1 l4), e2, e3.le (View.le_refl _) lA2, View.le_trans e4 l4⟩
end Go.Proofs.YtpinamipjddobaaV

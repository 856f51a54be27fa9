/- Trees: SetElement (under way). -/
import Derived.Test.YtpinamipjddobaaSC
import Derived.Test.YtpinamipjddobaaKU0
namespace Go.Proofs.YtpinamipjddobaaV
open Go.RowKit
set_option linter.unusedSimpArgs false
set_option linter.unusedVariables false
/-- A view without a block. -/
def rmv (A : View) (p : Nat) : View := fun k => if k = p then none else A k
theorem rmv_le (A : View) (p : Nat) : rmv A p ≤ A := fun k o h => by
  unfold rmv at h
  split at h
  · cases h
  · exact h
theorem rmv_at (A : View) (p : Nat) : rmv A p p = none := if_pos rfl
theorem le_rmv {A B : View} {p : Nat} (h : A ≤ B) (hp : A p = none) : A ≤ rmv B p := fun k o hk => by
  unfold rmv
  by_cases e : k = p
  · rw [e, hp] at hk; cases hk
  · rw [if_neg e]; exact h _ _ hk
theorem meth_es : meth Try.prog 92 "Filter" = some ⟨139, none⟩ := by kernel_rfl
theorem caught61 (p q s : Addr) (w : World) :
    CallsD Try.prog 61 #[.pointer (some p), .pointer (some q), .pointer (some s)] .returning w fun e u' w' => (∃ v, e = .returned v) ∧ u' = .returning ∧ w' = w := by
  refine callsD_of_wpS Try.func61 rfl fun c₀ cs hu => ?_
  apply wpS_seq
  apply wpS_region
  simp [wpOpsS, go_sem, recoverD, hu, Try.ntmps61, Exit.thenS]
  refine wpS_cond (t := false) (by simp [Act.eval, Array.replicate]) ?_
  simp only [Bool.false_eq_true, if_false]
  refine wpS_of_wp (wp_skip ?_)
  cases c₀
  simp_all [bodyPostS, results, Try.results61]
set_option maxRecDepth 20000 in
theorem rmaybeNil (A : View) (b : Option Addr) (c : Nat) : VCalls Try.prog 48 #[.slice b 0 c] A fun r A' => r = .tuple #[.pointer none, .bool true] ∧ A' = A := by
  refine xcalls Try.func48 rfl (by simp [Try.ntmps48]) ?_
  simp only [Try.f48]
  have hP : Priv A (addrs []) := Priv.nil A
  show xc _ _ _ _ _ _ (ov A [])
  refine xc_two fun N1 hN1 => ?_
  refine xc_reg2 fun K hK => ?_
  simp only [rall, rsl, gres]
  iterate 2 (refine seqX_hide2 fun R hR => ?_; simp [go_sem]; refine hR _ _ _ ?_; clear hR R)
  rw [seqX_nil]
  refine hK _ _ _ ?_; clear hK K
  refine hN1 _ _ _ ?_
  refine xc_two fun N2 hN2 => ?_
  refine xc_two fun N3 hN3 => ?_
  refine xc_reg2 fun K hK => ?_
  simp only [rall, rsl, gres]
  iterate 3 (refine seqX_hide2 fun R hR => ?_; simp [go_sem]; refine hR _ _ _ ?_; clear hR R)
  rw [seqX_nil]
  refine hK _ _ _ ?_; clear hK K
  refine hN3 _ _ _ ?_
  refine xc_iftrue (by simp [go_sem]) ?_
  refine xc_two fun N4 hN4 => ?_
  refine xc_reg2 fun K hK => ?_
  simp only [rall, rsl, gres]
  iterate 2 (refine seqX_hide2 fun R hR => ?_; simp [go_sem]; refine hR _ _ _ ?_; clear hR R)
  rw [seqX_nil]
  refine hK _ _ _ ?_; clear hK K
  refine hN4 _ _ _ ?_
  simp [go_sem]
  rfl
theorem resT_mem {f : Tr → Bool} {e kids : List Tr} {x : Tr} (h : x ∈ resT f e kids) : x ∈ kids ∨ x ∈ e := by
  have key : x ∈ setT f e kids → x ∈ kids ∨ x ∈ e := fun h => by
    rw [setT, List.mem_flatMap] at h
    obtain ⟨y, hy, h⟩ := h
    split at h
    · exact .inr h
    · rw [List.mem_singleton] at h; subst h; exact .inl hy
  rw [resT] at h
  split at h
  · exact key h
  · rcases List.mem_append.1 h with h | h
    · exact key h
    · exact .inr h
theorem nds_setT (f : Tr → Bool) (e : List Tr) (M : Nat) (hM : (e.map nds).sum ≤ M) : ∀ kids : List Tr, ((setT f e kids).map nds).sum ≤ (kids.map nds).sum + kids.length * M
  | [] => by simp [setT]
  | x :: l => by
    have ih := nds_setT f e M hM l
    have hs : setT f e (x :: l) = (if f x then e else [x]) ++ setT f e l := by rw [setT, List.flatMap_cons, ← setT]
    rw [hs, List.map_append, List.sum_append, List.map_cons, List.sum_cons, List.length_cons, Nat.add_mul, Nat.one_mul]
    split
    · omega
    · simp
      omega
theorem len_sum : ∀ l : List Tr, l.length ≤ (l.map nds).sum
  | [] => Nat.le_refl _
  | x :: l => by
    have := len_sum l
    have := nds_pos x
    rw [List.length_cons, List.map_cons, List.sum_cons]
    omega
theorem nds_resT (f : Tr → Bool) (e kids : List Tr) (hM : (e.map nds).sum ≤ 400) (hk : (kids.map nds).sum ≤ 400) : ((resT f e kids).map nds).sum ≤ 170000 := by
  have h1 := nds_setT f e 400 hM kids
  have h2 := len_sum kids
  rw [resT]
  split
  · omega
  · rw [List.map_append, List.sum_append]
    omega
/-- A maybe-node: none, or a node beneath a view without the block p. -/
def RM (A : View) (p : Nat) (o : Option Tr) (v : Value) (A' : View) : Prop :=
  ∃ E, rmv A p ≤ E ∧ E ≤ A' ∧ E p = none ∧
    match o with
    | none => v = .pointer none
    | some x => ∃ q m, v = ptr0 q ∧ A' q = some (.cells (rnc m) 111 (0, 0)) ∧ IsYn E x m
theorem rmaybeE (A : View) (p : Nat) (ob : Obj) (hp : A p = some ob) (o : Option Tr) (lv : Nat) (l : Value) (hl : Trs (rmv A p) l (opt1 o)) (hpt : ∀ x, o = some x → PT lv x ∧ nds x ≤ 400) (hlv : lv ≤ 40) : VCalls Try.prog 48 #[l] A fun r A' => ∃ v, r = .tuple #[v, .bool true] ∧ RM A p o v A' ∧ A ≤ A' := by
  cases o with
  | none =>
    obtain ⟨lb, lc, rfl⟩ := hl.slice
    refine (rmaybeNil A lb lc).mono ?_
    rintro r A' ⟨rfl, rfl⟩
    exact ⟨_, rfl, ⟨rmv A' p, View.le_refl _, rmv_le _ _, rmv_at _ _, rfl⟩, View.le_refl _⟩
  | some x =>
    refine call_sub (L := []) (A := A) trivial (rmv_le A p) (rmaybe48 (rmv A p) x lv l hl (hpt x rfl).1 (hpt x rfl).2 hlv) ?_
    rintro _ E A' ⟨q, m, rfl, h1, h2, h3, h4⟩ hle hKp hmono -
    refine ⟨_, rfl, ⟨E, h4.le, hle, (hKp _ _ (rmv_at A p) hp).1, q, m, rfl, hle _ _ h1, h4.yn⟩, hmono h4.le⟩
def Tr.setK : Tr → List Tr → Tr
  | .mk k st tag val an h l f row col al _, ks => .mk k st tag val an h l f row col al ks
/-- What SetElement leaves: the list with such an element. -/
def SQ (A : View) (q p : Nat) (t : Tr) (o : Option Tr) (ks vs : List ByteArray) (v : Value) (A' : View) : Prop := RP o v A' ∧ TopR A A' (t.setK (resT (fitK ks vs) (opt1 o) t.kids)) q p
set_option maxRecDepth 20000 in
set_option maxHeartbeats 400000 in
theorem setElem34 (A : View) (t : Tr) (o : Option Tr) (lv : Nat) (c : Array Value) (el kv vv : Value) (ks vs : List ByteArray) (hc : IsTr A t c) (hpt : PT lv t) (hnd : nds t ≤ 400) (hlv : lv ≤ 40) (hk : t.kind = 2) (ht : t.tag ≠ tNull) (hel : Trs A el (opt1 o)) (hpo : ∀ x, o = some x → PT lv x ∧ nds x ≤ 400 ∧ x.kind ≠ 1 ∧ x.tag ≠ tNull) (hks : Texts A kv ks) (hvs : Texts A vv vs) (hl : ks.length = vs.length) (h0 : 0 < ks.length) (h5 : ks.length < 5) (hkn : ∀ s ∈ ks, s ≠ e0) (hvn : ∀ s ∈ vs, s ≠ e0)
    (hkk : ∀ x ∈ t.kids, EN x ∧ (x.kind = 4 → x.kids.length % 2 = 0)) :
    VCalls Try.prog 34 #[.agg c, el, kv, vv] A fun r A' => ∃ c1 fv, r = .tuple #[.agg c1, fv, .int .i64 0] ∧ IsTr A' (t.setK (resT (fitK ks vs) (opt1 o) t.kids)) c1 ∧ Trs A' fv (opt1 o) ∧ A ≤ A' := by
  have hcz := hc.size
  have hco := hc.ones
  have hNT := hpt.nt
  obtain ⟨k, st, tag, val, an, h, l, f, row, col, al, kids, rfl⟩ := t.ex
  have hk1 : k ≠ 1 := by have : k = 2 := hk; omega
  have hnk : (kids.map nds).sum ≤ 400 := by rw [nds_mk] at hnd; omega
  have hlen := len_sum kids
  have hkl : kids.length ≤ 1000000 := by omega
  replace hkk : ∀ x ∈ kids, EN x ∧ (x.kind = 4 → x.kids.length % 2 = 0) ∧ x.kids.length ≤ 1000000 := fun x hx => ⟨(hkk x hx).1, (hkk x hx).2, by
    have h1 := len_sum x.kids
    have h2 := nds_kid' (t := .mk k st tag val an h l f row col al kids) hx
    obtain ⟨k1, st1, tag1, val1, an1, hh1, l1, f1, row1, col1, al1, kk1, rfl⟩ := x.ex
    rw [nds_mk] at h2
    have h3 : kk1.length ≤ (kk1.map nds).sum := h1
    show kk1.length ≤ 1000000
    omega⟩
  have hnt : NT (.mk k st tag val an h l f row col al (resT (fitK ks vs) (opt1 o) kids)) := by
    refine NT.mk' hNT.open.1 hNT.open.2.1 hNT.open.2.2.1 fun x hx => ?_
    rcases resT_mem hx with hx | hx
    · exact hNT.open.2.2.2 x hx
    · cases o with
      | none => cases hx
      | some y =>
        rw [opt1, List.mem_singleton] at hx
        subst hx
        exact (hpo _ rfl).1.nt
  have hndr : nds (.mk k st tag val an h l f row col al (resT (fitK ks vs) (opt1 o) kids)) ≤ 1000000 := by
    rw [nds_mk]
    have := nds_resT (fitK ks vs) (opt1 o) kids (by
      cases o with
      | none => exact Nat.zero_le _
      | some y =>
        have := (hpo _ rfl).2.1
        show ([y].map nds).sum ≤ 400
        simp
        omega) hnk
    omega
  have hfnt : ∀ x, o = some x → NT x ∧ nds x ≤ 1000000 := fun x hx => ⟨(hpo x hx).1.nt, by have := (hpo x hx).2.1; omega⟩
  obtain ⟨kb, kc, rfl⟩ := hks.slice
  obtain ⟨wb, wc, rfl⟩ := hvs.slice
  obtain ⟨eb, ec, rfl⟩ := hel.slice
  have z1 : ¬ (10 : Int) < ks.length := by omega
  have z2 : ¬ (10 : Int) < vs.length := by omega
  have z3 : ¬ 10 < ks.length := by omega
  have z4 : ¬ 10 < vs.length := by omega
  refine xcallsD Try.func34 rfl (by simp [Try.ntmps34]) ?_
  simp only [Try.f34]
  have hP : Priv A (addrs []) := Priv.nil A
  show xc _ _ _ _ _ _ (ov A [])
  refine xc_two fun N1 hN1 => ?_
  refine xc_reg2 fun K hK => ?_
  simp only [rall, rsl, gres]
  refine seqX_hide2 fun R hR => ?_
  simp [go_sem, hcz, hco]
  intro q4 hq4
  replace hP := hP.cons hq4
  clear hq4
  refine hR _ _ _ ?_; clear hR R
  refine seqX_hide2 fun R hR => ?_
  simp [go_sem, hcz, hco]
  intro q8 hq8
  replace hP := hP.cons hq8
  clear hq8
  have d84 : q8 ≠ q4 := (hP.ne q4 (by simp [addrs])).1
  have d48 : q4 ≠ q8 := (hP.ne q4 (by simp [addrs])).2
  refine hR _ _ _ ?_; clear hR R
  refine seqX_hide2 fun R hR => ?_
  simp [go_sem, hcz, hco, d84, d48]
  intro q9 hq9
  replace hP := hP.cons hq9
  clear hq9
  have d98 : q9 ≠ q8 := (hP.ne q8 (by simp [addrs])).1
  have d89 : q8 ≠ q9 := (hP.ne q8 (by simp [addrs])).2
  have d94 : q9 ≠ q4 := (hP.ne q4 (by simp [addrs])).1
  have d49 : q4 ≠ q9 := (hP.ne q4 (by simp [addrs])).2
  refine hR _ _ _ ?_; clear hR R
  refine seqX_hide2 fun R hR => ?_
  simp [go_sem, hcz, hco, d84, d48, d98, d89, d94, d49]
  intro q10 hq10
  replace hP := hP.cons hq10
  clear hq10
  have d109 : q10 ≠ q9 := (hP.ne q9 (by simp [addrs])).1
  have d910 : q9 ≠ q10 := (hP.ne q9 (by simp [addrs])).2
  have d108 : q10 ≠ q8 := (hP.ne q8 (by simp [addrs])).1
  have d810 : q8 ≠ q10 := (hP.ne q8 (by simp [addrs])).2
  have d104 : q10 ≠ q4 := (hP.ne q4 (by simp [addrs])).1
  have d410 : q4 ≠ q10 := (hP.ne q4 (by simp [addrs])).2
  refine hR _ _ _ ?_; clear hR R
  rw [seqX_nil]
  refine hK _ _ _ ?_; clear hK K
  refine hN1 _ _ _ ?_
  refine xc_two fun N2 hN2 => ?_
  refine xc_reg2 fun K hK => ?_
  simp only [rall, rsl, gres]
  (refine seqX_hide2 fun R hR => ?_; simp [go_sem, hcz, hco, d84, d48, d98, d89, d94, d49, d109, d910, d108, d810, d104, d410]; refine hR _ _ _ ?_; clear hR R)
  refine seqX_hide2 fun R hR => ?_
  simp [go_sem, hcz, hco, d84, d48, d98, d89, d94, d49, d109, d910, d108, d810, d104, d410, toDefer]
  refine hR _ _ _ ?_; clear hR R
  rw [seqX_nil]
  refine hK _ _ _ ?_; clear hK K
  refine hN2 _ _ _ ?_
  refine xc_two fun N3 hN3 => ?_
  refine xc_reg2 fun K hK => ?_
  simp only [rall, rsl, gres]
  (refine seqX_hide2 fun R hR => ?_; simp [go_sem, hcz, hco, d84, d48, d98, d89, d94, d49, d109, d910, d108, d810, d104, d410]; refine hR _ _ _ ?_; clear hR R)
  refine seqX_hide2 fun R hR => ?_
  simp [go_sem, hcz, hco, d84, d48, d98, d89, d94, d49, d109, d910, d108, d810, d104, d410]
  refine call_ov hP (rootedS A _ lv c hc hpt hnd hlv) ?_
  clear hP
  rintro _ A2 ⟨q, p, rfl, hq, hqp, hq0, HT⟩ hP
  have hA2 := HT.le
  obtain ⟨B0, cv, ps, y1, y2, y3, y4, y5, y6, y7, y8⟩ := HT
  obtain ⟨cb, cc, rfl⟩ := y5.shape
  have hBr : B0 ≤ rmv A2 p := le_rmv y2 y3
  refine hR _ _ _ ?_; clear hR R
  iterate 5 (refine seqX_hide2 fun R hR => ?_; simp [go_sem, hcz, hco, d84, d48, d98, d89, d94, d49, d109, d910, d108, d810, d104, d410]; refine hR _ _ _ ?_; clear hR R)
  rw [seqX_nil]
  refine hK _ _ _ ?_; clear hK K
  refine hN3 _ _ _ ?_
  refine xc_two fun N4 hN4 => ?_
  refine xc_reg2 fun K hK => ?_
  simp only [rall, rsl, gres]
  (refine seqX_hide2 fun R hR => ?_; simp [go_sem, hcz, hco, d84, d48, d98, d89, d94, d49, d109, d910, d108, d810, d104, d410]; refine hR _ _ _ ?_; clear hR R)
  refine seqX_hide2 fun R hR => ?_
  simp [go_sem, hcz, hco, d84, d48, d98, d89, d94, d49, d109, d910, d108, d810, d104, d410]
  refine call_ov hP (rmaybeE A2 p _ y4 o lv _ (hel.le (View.le_trans y1 hBr)) (fun x hx => ⟨(hpo x hx).1, (hpo x hx).2.1⟩) hlv) ?_
  clear hP
  rintro _ A3 ⟨ev, rfl, ⟨E, hrE, hEA3, hEp, hev⟩, hA3⟩ hP
  have hAE : A ≤ E := View.le_trans y1 (View.le_trans hBr hrE)
  refine hR _ _ _ ?_; clear hR R
  iterate 5 (refine seqX_hide2 fun R hR => ?_; simp [go_sem, hcz, hco, d84, d48, d98, d89, d94, d49, d109, d910, d108, d810, d104, d410, z1, z2, z3, z4]; refine hR _ _ _ ?_; clear hR R)
  rw [seqX_nil]
  refine hK _ _ _ ?_; clear hK K
  refine hN4 _ _ _ ?_
  refine xc_two fun N5 hN5 => ?_
  refine xc_two fun N6 hN6 => ?_
  refine xc_reg2 fun K hK => ?_
  simp only [rall, rsl, gres]
  iterate 16 (refine seqX_hide2 fun R hR => ?_; simp [go_sem, hcz, hco, d84, d48, d98, d89, d94, d49, d109, d910, d108, d810, d104, d410, z1, z2, z3, z4]; refine hR _ _ _ ?_; clear hR R)
  rw [seqX_nil]
  refine hK _ _ _ ?_; clear hK K
  refine hN6 _ _ _ ?_
  refine xc_iffalse (by simp [go_sem, hcz, hco, d84, d48, d98, d89, d94, d49, d109, d910, d108, d810, d104, d410, z1, z2, z3, z4]) ?_
  refine hN5 _ _ _ ?_
  refine xc_two fun N7 hN7 => ?_
  refine xc_reg2 fun K hK => ?_
  simp only [rall, rsl, gres]
  refine seqX_hide2 fun R hR => ?_
  simp [go_sem, hcz, hco, d84, d48, d98, d89, d94, d49, d109, d910, d108, d810, d104, d410, z1, z2, z3, z4]
  intro q46 hq46
  replace hP := hP.cons hq46
  clear hq46
  have d4610 : q46 ≠ q10 := (hP.ne q10 (by simp [addrs])).1
  have d1046 : q10 ≠ q46 := (hP.ne q10 (by simp [addrs])).2
  have d469 : q46 ≠ q9 := (hP.ne q9 (by simp [addrs])).1
  have d946 : q9 ≠ q46 := (hP.ne q9 (by simp [addrs])).2
  have d468 : q46 ≠ q8 := (hP.ne q8 (by simp [addrs])).1
  have d846 : q8 ≠ q46 := (hP.ne q8 (by simp [addrs])).2
  have d464 : q46 ≠ q4 := (hP.ne q4 (by simp [addrs])).1
  have d446 : q4 ≠ q46 := (hP.ne q4 (by simp [addrs])).2
  refine hR _ _ _ ?_; clear hR R
  (refine seqX_hide2 fun R hR => ?_; simp [go_sem, hcz, hco, d84, d48, d98, d89, d94, d49, d109, d910, d108, d810, d104, d410, z1, z2, z3, z4, d4610, d1046, d469, d946, d468, d846, d464, d446]; refine hR _ _ _ ?_; clear hR R)
  refine seqX_hide2 fun R hR => ?_
  simp [go_sem, hcz, hco, d84, d48, d98, d89, d94, d49, d109, d910, d108, d810, d104, d410, z1, z2, z3, z4, d4610, d1046, d469, d946, d468, d846, d464, d446]
  obtain ⟨eq46, hPn, nq46⟩ := sinkI (A := A3) (L := [(q46, .cells #[] 9 (0, 0)), (q10, .cells #[.int .i64 0] 3 (0, 0)), (q9, .cells #[.slice none 0 0] 22 (0, 0)), (q8, .cells (trc 0 0 ⟨#[]⟩ ⟨#[]⟩ ⟨#[]⟩ ⟨#[]⟩ ⟨#[]⟩ ⟨#[]⟩ 0 0 0 (.slice none 0 0)) 24 (0, 0)), (q4, .cells c 24 (0, 0))]) 0 hP rfl
  rw [eq46]
  clear eq46 hP; have hP := hPn; clear hPn
  simp only [List.eraseIdx_cons_zero, List.eraseIdx_cons_succ, addrs_cons, addrs_nil] at hP ⊢
  have lq46 : A3 ≤ A3.set q46 (.cells #[] 9 (0, 0)) := le_set nq46
  have hOt := own_emptyk nq46 9 1
  generalize A3.set q46 (.cells #[] 9 (0, 0)) = D0 at hP hOt lq46 ⊢
  refine append_ov (cs := ks.map .string) (m := ks.length) hP ti47 ti47 (fun k => by simp) ti9 rfl (by decide) hOt lq46 ?_ (by simp [isStr]) (fun v hv => by obtain ⟨s, _, rfl⟩ := List.mem_map.1 hv; rfl) (by omega) ?_
  · refine appended_row (hks.le (View.le_trans hA2 (View.le_trans hA3 (View.le_trans lq46 ?_))))
    exact le_ov hP
  clear hP
  rintro v1 D1 hD1 hO1 - hP
  simp only [addrs_cons, addrs_nil] at hP
  rw [Nat.zero_add, List.nil_append] at hO1
  obtain ⟨ub, uc, rfl⟩ := hO1.shape
  refine hR _ _ _ ?_; clear hR R
  refine seqX_hide2 fun R hR => ?_
  simp [go_sem, hcz, hco, d84, d48, d98, d89, d94, d49, d109, d910, d108, d810, d104, d410, z1, z2, z3, z4, d4610, d1046, d469, d946, d468, d846, d464, d446]
  intro q49 hq49
  replace hP := hP.cons hq49
  clear hq49
  have d4910 : q49 ≠ q10 := (hP.ne q10 (by simp [addrs])).1
  have d1049 : q10 ≠ q49 := (hP.ne q10 (by simp [addrs])).2
  have d499 : q49 ≠ q9 := (hP.ne q9 (by simp [addrs])).1
  have d949 : q9 ≠ q49 := (hP.ne q9 (by simp [addrs])).2
  have d498 : q49 ≠ q8 := (hP.ne q8 (by simp [addrs])).1
  have d849 : q8 ≠ q49 := (hP.ne q8 (by simp [addrs])).2
  have d494 : q49 ≠ q4 := (hP.ne q4 (by simp [addrs])).1
  have d449 : q4 ≠ q49 := (hP.ne q4 (by simp [addrs])).2
  refine hR _ _ _ ?_; clear hR R
  (refine seqX_hide2 fun R hR => ?_; simp [go_sem, hcz, hco, d84, d48, d98, d89, d94, d49, d109, d910, d108, d810, d104, d410, z1, z2, z3, z4, d4610, d1046, d469, d946, d468, d846, d464, d446, d4910, d1049, d499, d949, d498, d849, d494, d449]; refine hR _ _ _ ?_; clear hR R)
  refine seqX_hide2 fun R hR => ?_
  simp [go_sem, hcz, hco, d84, d48, d98, d89, d94, d49, d109, d910, d108, d810, d104, d410, z1, z2, z3, z4, d4610, d1046, d469, d946, d468, d846, d464, d446, d4910, d1049, d499, d949, d498, d849, d494, d449]
  obtain ⟨eq49, hPn, nq49⟩ := sinkI (A := D1) (L := [(q49, .cells #[] 9 (0, 0)), (q10, .cells #[.int .i64 0] 3 (0, 0)), (q9, .cells #[.slice none 0 0] 22 (0, 0)), (q8, .cells (trc 0 0 ⟨#[]⟩ ⟨#[]⟩ ⟨#[]⟩ ⟨#[]⟩ ⟨#[]⟩ ⟨#[]⟩ 0 0 0 (.slice none 0 0)) 24 (0, 0)), (q4, .cells c 24 (0, 0))]) 0 hP rfl
  rw [eq49]
  clear eq49 hP; have hP := hPn; clear hPn
  simp only [List.eraseIdx_cons_zero, List.eraseIdx_cons_succ, addrs_cons, addrs_nil] at hP ⊢
  have lq49 : D1 ≤ D1.set q49 (.cells #[] 9 (0, 0)) := le_set nq49
  have hOs := own_emptyk nq49 9 1
  generalize D1.set q49 (.cells #[] 9 (0, 0)) = D9 at hP hOs lq49 ⊢
  refine append_ov (cs := vs.map .string) (m := vs.length) hP ti47 ti47 (fun k => by simp) ti9 rfl (by decide) hOs lq49 ?_ (by simp [isStr]) (fun v hv => by obtain ⟨s, _, rfl⟩ := List.mem_map.1 hv; rfl) (by omega) ?_
  · refine appended_row (hvs.le (View.le_trans hA2 (View.le_trans hA3 (View.le_trans hD1 (View.le_trans lq49 ?_)))))
    exact le_ov hP
  clear hP
  rintro v2 D2 hD12 hO2 - hP
  simp only [addrs_cons, addrs_nil] at hP
  rw [Nat.zero_add, List.nil_append] at hO2
  obtain ⟨xb, xc, rfl⟩ := hO2.shape
  have hu1 : Texts D2 (.slice ub ks.length uc) ks := hO1.row.le hD12
  have hu2 : Texts D2 (.slice xb vs.length xc) vs := hO2.row
  have hD2 : A3 ≤ D2 := View.le_trans hD1 hD12
  refine hR _ _ _ ?_; clear hR R
  (refine seqX_hide2 fun R hR => ?_; simp [go_sem, hcz, hco, d84, d48, d98, d89, d94, d49, d109, d910, d108, d810, d104, d410, z1, z2, z3, z4, d4610, d1046, d469, d946, d468, d846, d464, d446, d4910, d1049, d499, d949, d498, d849, d494, d449]; refine hR _ _ _ ?_; clear hR R)
  refine seqX_hide2 fun R hR => ?_
  simp [go_sem, hcz, hco, d84, d48, d98, d89, d94, d49, d109, d910, d108, d810, d104, d410, z1, z2, z3, z4, d4610, d1046, d469, d946, d468, d846, d464, d446, d4910, d1049, d499, d949, d498, d849, d494, d449]
  intro q15 hq15
  replace hP := hP.cons hq15
  clear hq15
  have d1510 : q15 ≠ q10 := (hP.ne q10 (by simp [addrs])).1
  have d1015 : q10 ≠ q15 := (hP.ne q10 (by simp [addrs])).2
  have d159 : q15 ≠ q9 := (hP.ne q9 (by simp [addrs])).1
  have d915 : q9 ≠ q15 := (hP.ne q9 (by simp [addrs])).2
  have d158 : q15 ≠ q8 := (hP.ne q8 (by simp [addrs])).1
  have d815 : q8 ≠ q15 := (hP.ne q8 (by simp [addrs])).2
  have d154 : q15 ≠ q4 := (hP.ne q4 (by simp [addrs])).1
  have d415 : q4 ≠ q15 := (hP.ne q4 (by simp [addrs])).2
  refine hR _ _ _ ?_; clear hR R
  refine seqX_hide2 fun R hR => ?_
  simp [go_sem, hcz, hco, d84, d48, d98, d89, d94, d49, d109, d910, d108, d810, d104, d410, z1, z2, z3, z4, d4610, d1046, d469, d946, d468, d846, d464, d446, d4910, d1049, d499, d949, d498, d849, d494, d449, d1510, d1015, d159, d915, d158, d815, d154, d415]
  refine hR _ _ _ ?_; clear hR R
  rw [seqX_nil]
  refine hK _ _ _ ?_; clear hK K
  refine hN7 _ _ _ ?_
  refine xc_two fun N8 hN8 => ?_
  refine xc_two fun N9 hN9 => ?_
  cases o with
  | none =>
    obtain rfl : ev = .pointer none := hev
    refine xc_reg2 fun K hK => ?_
    simp only [rall, rsl, gres]
    iterate 2 (refine seqX_hide2 fun R hR => ?_; simp [go_sem, hcz, hco, d84, d48, d98, d89, d94, d49, d109, d910, d108, d810, d104, d410, z1, z2, z3, z4, d4610, d1046, d469, d946, d468, d846, d464, d446, d4910, d1049, d499, d949, d498, d849, d494, d449, d1510, d1015, d159, d915, d158, d815, d154, d415]; refine hR _ _ _ ?_; clear hR R)
    rw [seqX_nil]
    refine hK _ _ _ ?_; clear hK K
    refine hN9 _ _ _ ?_
    refine xc_iffalse (by simp [go_sem, hcz, hco, d84, d48, d98, d89, d94, d49, d109, d910, d108, d810, d104, d410, z1, z2, z3, z4, d4610, d1046, d469, d946, d468, d846, d464, d446, d4910, d1049, d499, d949, d498, d849, d494, d449, d1510, d1015, d159, d915, d158, d815, d154, d415]) ?_
    refine hN8 _ _ _ ?_
    refine xc_two fun N10 hN10 => ?_
    refine xc_reg2 fun K hK => ?_
    simp only [rall, rsl, gres]
    iterate 3 (refine seqX_hide2 fun R hR => ?_; simp [go_sem, hcz, hco, d84, d48, d98, d89, d94, d49, d109, d910, d108, d810, d104, d410, z1, z2, z3, z4, d4610, d1046, d469, d946, d468, d846, d464, d446, d4910, d1049, d499, d949, d498, d849, d494, d449, d1510, d1015, d159, d915, d158, d815, d154, d415]; refine hR _ _ _ ?_; clear hR R)
    refine seqX_hide2 fun R hR => ?_
    simp [go_sem, hcz, hco, d84, d48, d98, d89, d94, d49, d109, d910, d108, d810, d104, d410, z1, z2, z3, z4, d4610, d1046, d469, d946, d468, d846, d464, d446, d4910, d1049, d499, d949, d498, d849, d494, d449, d1510, d1015, d159, d915, d158, d815, d154, d415]
    intro q62 hq62
    replace hP := hP.cons hq62
    clear hq62
    have d6215 : q62 ≠ q15 := (hP.ne q15 (by simp [addrs])).1
    have d1562 : q15 ≠ q62 := (hP.ne q15 (by simp [addrs])).2
    have d6210 : q62 ≠ q10 := (hP.ne q10 (by simp [addrs])).1
    have d1062 : q10 ≠ q62 := (hP.ne q10 (by simp [addrs])).2
    have d629 : q62 ≠ q9 := (hP.ne q9 (by simp [addrs])).1
    have d962 : q9 ≠ q62 := (hP.ne q9 (by simp [addrs])).2
    have d628 : q62 ≠ q8 := (hP.ne q8 (by simp [addrs])).1
    have d862 : q8 ≠ q62 := (hP.ne q8 (by simp [addrs])).2
    have d624 : q62 ≠ q4 := (hP.ne q4 (by simp [addrs])).1
    have d462 : q4 ≠ q62 := (hP.ne q4 (by simp [addrs])).2
    refine hR _ _ _ ?_; clear hR R
    refine seqX_hide2 fun R hR => ?_
    simp [go_sem, hcz, hco, d84, d48, d98, d89, d94, d49, d109, d910, d108, d810, d104, d410, z1, z2, z3, z4, d4610, d1046, d469, d946, d468, d846, d464, d446, d4910, d1049, d499, d949, d498, d849, d494, d449, d1510, d1015, d159, d915, d158, d815, d154, d415, d6215, d1562, d6210, d1062, d629, d962, d628, d862, d624, d462]
    obtain ⟨eq62, hPn, nq62⟩ := sinkI (A := D2) (L := [(q62, .cells #[.iface 92 (.agg #[.string ⟨#[]⟩, .pointer none, .slice ub ks.length uc, .slice xb vs.length xc])] 116 (0, 0)), (q15, .cells #[.string ⟨#[]⟩, .pointer none, .slice ub ks.length uc, .slice xb vs.length xc] 92 (0, 0)), (q10, .cells #[.int .i64 0] 3 (0, 0)), (q9, .cells #[.slice none 0 0] 22 (0, 0)), (q8, .cells (trc 0 0 ⟨#[]⟩ ⟨#[]⟩ ⟨#[]⟩ ⟨#[]⟩ ⟨#[]⟩ ⟨#[]⟩ 0 0 0 (.slice none 0 0)) 24 (0, 0)), (q4, .cells c 24 (0, 0))]) 0 hP rfl
    rw [eq62]
    clear eq62 hP; have hP := hPn; clear hPn
    simp only [List.eraseIdx_cons_zero, List.eraseIdx_cons_succ, addrs_cons, addrs_nil] at hP ⊢
    have lq : D2 ≤ D2.set q62 (.cells #[.iface 92 (.agg #[.string ⟨#[]⟩, .pointer none, .slice ub ks.length uc, .slice xb vs.length xc])] 116 (0, 0)) := le_set nq62
    have hrow : Row (D2.set q62 (.cells #[.iface 92 (.agg #[.string ⟨#[]⟩, .pointer none, .slice ub ks.length uc, .slice xb vs.length xc])] 116 (0, 0))) 1 (.slice (some ⟨q62, 0, none⟩) 1 1) 1 [.iface 92 (.agg #[.string ⟨#[]⟩, .pointer none, .slice ub ks.length uc, .slice xb vs.length xc])] := .inl ⟨_, 1, rfl, cells_block (set_at _ _ _) rfl⟩
    generalize D2.set q62 (.cells #[.iface 92 (.agg #[.string ⟨#[]⟩, .pointer none, .slice ub ks.length uc, .slice xb vs.length xc])] 116 (0, 0)) = A4 at hP lq hrow ⊢
    have hE4 : E ≤ A4 := View.le_trans hEA3 (View.le_trans hD2 lq)
    have h24 : A2 ≤ A4 := View.le_trans hA3 (View.le_trans hD2 lq)
    have hq4 := h24 _ _ hq
    have hp4 := h24 _ _ y4
    refine call_ov hP (pipe1 A4 q p 92 139 (.agg #[.string ⟨#[]⟩, .pointer none, .slice ub ks.length uc, .slice xb vs.length xc]) (.slice (some ⟨q62, 0, none⟩) 1 1) k st tag val an (.slice cb kids.length cc) h l f row col hq4 hp4 hk1 meth_es (by kernel_rfl) hrow (SQ A q p (.mk k st tag val an h l f row col al kids) (none) ks vs) (setter139 A E A4 q p (none) (.slice ub ks.length uc) (.slice xb vs.length xc) ks vs k st tag val an h l f row col al kids cb cc ps hAE hE4 hEp hp4 (y5.row.le h24) y7 (fun j hj => let ⟨q, e1, e2⟩ := y8 j hj; ⟨q, e1, e2.le (View.le_trans hBr hrE)⟩) hq4 hqp hk ht (fun x hx => by cases hx) (fun x hx => by cases hx) (hu1.le lq) (hu2.le lq) hl h0 h5 hkn hvn hkl hkk)) ?_
    clear hP
    rintro _ A5 ⟨x, rfl, hx, HR5⟩ hP
    refine hR _ _ _ ?_; clear hR R
    iterate 5 (refine seqX_hide2 fun R hR => ?_; simp [go_sem, hcz, hco, d84, d48, d98, d89, d94, d49, d109, d910, d108, d810, d104, d410, z1, z2, z3, z4, d4610, d1046, d469, d946, d468, d846, d464, d446, d4910, d1049, d499, d949, d498, d849, d494, d449, d1510, d1015, d159, d915, d158, d815, d154, d415, d6215, d1562, d6210, d1062, d629, d962, d628, d862, d624, d462]; refine hR _ _ _ ?_; clear hR R)
    rw [seqX_nil]
    refine hK _ _ _ ?_; clear hK K
    refine hN10 _ _ _ ?_
    refine xc_two fun N11 hN11 => ?_
    refine xc_two fun N12 hN12 => ?_
    refine xc_reg2 fun K hK => ?_
    simp only [rall, rsl, gres]
    iterate 2 (refine seqX_hide2 fun R hR => ?_; simp [go_sem, hcz, hco, d84, d48, d98, d89, d94, d49, d109, d910, d108, d810, d104, d410, z1, z2, z3, z4, d4610, d1046, d469, d946, d468, d846, d464, d446, d4910, d1049, d499, d949, d498, d849, d494, d449, d1510, d1015, d159, d915, d158, d815, d154, d415, d6215, d1562, d6210, d1062, d629, d962, d628, d862, d624, d462]; refine hR _ _ _ ?_; clear hR R)
    rw [seqX_nil]
    refine hK _ _ _ ?_; clear hK K
    refine hN12 _ _ _ ?_
    refine xc_iffalse (by simp [go_sem, hcz, hco, d84, d48, d98, d89, d94, d49, d109, d910, d108, d810, d104, d410, z1, z2, z3, z4, d4610, d1046, d469, d946, d468, d846, d464, d446, d4910, d1049, d499, d949, d498, d849, d494, d449, d1510, d1015, d159, d915, d158, d815, d154, d415, d6215, d1562, d6210, d1062, d629, d962, d628, d862, d624, d462]) ?_
    refine hN11 _ _ _ ?_
    refine xc_two fun N13 hN13 => ?_
    refine xc_reg2 fun K hK => ?_
    simp only [rall, rsl, gres]
    (refine seqX_hide2 fun R hR => ?_; simp [go_sem, hcz, hco, d84, d48, d98, d89, d94, d49, d109, d910, d108, d810, d104, d410, z1, z2, z3, z4, d4610, d1046, d469, d946, d468, d846, d464, d446, d4910, d1049, d499, d949, d498, d849, d494, d449, d1510, d1015, d159, d915, d158, d815, d154, d415, d6215, d1562, d6210, d1062, d629, d962, d628, d862, d624, d462]; refine hR _ _ _ ?_; clear hR R)
    refine seqX_hide2 fun R hR => ?_
    simp [go_sem, hcz, hco, d84, d48, d98, d89, d94, d49, d109, d910, d108, d810, d104, d410, z1, z2, z3, z4, d4610, d1046, d469, d946, d468, d846, d464, d446, d4910, d1049, d499, d949, d498, d849, d494, d449, d1510, d1015, d159, d915, d158, d815, d154, d415, d6215, d1562, d6210, d1062, d629, d962, d628, d862, d624, d462]
    refine call_ov hP (treeOf28 A5 (.mk k st tag val an h l f row col al (resT (fitK ks vs) (opt1 (none)) kids)) q HR5.rn hnt hndr) ?_
    clear hP
    rintro _ A6 ⟨c1, rfl, hc1, hA6⟩ hP
    have hcz1 := hc1.size
    have hco1 := hc1.ones
    refine hR _ _ _ ?_; clear hR R
    (refine seqX_hide2 fun R hR => ?_; simp [go_sem, hcz, hco, d84, d48, d98, d89, d94, d49, d109, d910, d108, d810, d104, d410, z1, z2, z3, z4, d4610, d1046, d469, d946, d468, d846, d464, d446, d4910, d1049, d499, d949, d498, d849, d494, d449, d1510, d1015, d159, d915, d158, d815, d154, d415, d6215, d1562, d6210, d1062, d629, d962, d628, d862, d624, d462, hcz1, hco1]; refine hR _ _ _ ?_; clear hR R)
    refine seqX_hide2 fun R hR => ?_
    simp [go_sem, hcz, hco, d84, d48, d98, d89, d94, d49, d109, d910, d108, d810, d104, d410, z1, z2, z3, z4, d4610, d1046, d469, d946, d468, d846, d464, d446, d4910, d1049, d499, d949, d498, d849, d494, d449, d1510, d1015, d159, d915, d158, d815, d154, d415, d6215, d1562, d6210, d1062, d629, d962, d628, d862, d624, d462, hcz1, hco1]
    refine call_ov hP (found51 A6 (none) _ (hx.le hA6) hfnt) ?_
    clear hP
    rintro fv A7 ⟨hfv, hA7⟩ hP
    have hfs := hfv.slice
    obtain ⟨fb, fc, rfl⟩ := hfs
    have hidle : Idle Try.prog { target := .fn (.func 61) #[.pointer (some ⟨q8, 0, none⟩), .pointer (some ⟨q9, 0, none⟩), .pointer (some ⟨q10, 0, none⟩)], args := #[] } := by
      intro w'
      exact ⟨_, _, 61, #[.pointer (some ⟨q8, 0, none⟩), .pointer (some ⟨q9, 0, none⟩), .pointer (some ⟨q10, 0, none⟩)], rfl, by simp [go_sem, invoke], caught61 _ _ _ _⟩
    refine hR _ _ _ ?_; clear hR R
    refine seqX_hide2 fun R hR => ?_
    simp [go_sem, hcz, hco, d84, d48, d98, d89, d94, d49, d109, d910, d108, d810, d104, d410, z1, z2, z3, z4, d4610, d1046, d469, d946, d468, d846, d464, d446, d4910, d1049, d499, d949, d498, d849, d494, d449, d1510, d1015, d159, d915, d158, d815, d154, d415, d6215, d1562, d6210, d1062, d629, d962, d628, d862, d624, d462, hcz1, hco1]
    refine hR _ _ _ ?_; clear hR R
    refine seqX_hide2 fun R hR => ?_
    simp [go_sem, hcz, hco, d84, d48, d98, d89, d94, d49, d109, d910, d108, d810, d104, d410, z1, z2, z3, z4, d4610, d1046, d469, d946, d468, d846, d464, d446, d4910, d1049, d499, d949, d498, d849, d494, d449, d1510, d1015, d159, d915, d158, d815, d154, d415, d6215, d1562, d6210, d1062, d629, d962, d628, d862, d624, d462, hcz1, hco1]
    refine hR _ _ _ ?_; clear hR R
    refine seqX_hide2 fun R hR => ?_
    simp [go_sem, hcz, hco, d84, d48, d98, d89, d94, d49, d109, d910, d108, d810, d104, d410, z1, z2, z3, z4, d4610, d1046, d469, d946, d468, d846, d464, d446, d4910, d1049, d499, d949, d498, d849, d494, d449, d1510, d1015, d159, d915, d158, d815, d154, d415, d6215, d1562, d6210, d1062, d629, d962, d628, d862, d624, d462, hcz1, hco1]
    refine hR _ _ _ ?_; clear hR R
    rw [seqX_nil]
    refine hK _ _ _ ?_; clear hK K
    refine hN13 _ _ _ ?_
    simp [go_sem, hcz, hco, d84, d48, d98, d89, d94, d49, d109, d910, d108, d810, d104, d410, z1, z2, z3, z4, d4610, d1046, d469, d946, d468, d846, d464, d446, d4910, d1049, d499, d949, d498, d849, d494, d449, d1510, d1015, d159, d915, d158, d815, d154, d415, d6215, d1562, d6210, d1062, d629, d962, d628, d862, d624, d462, hcz1, hco1]
    refine ⟨hidle, c1, _, ⟨rfl, rfl⟩, hc1.le (View.le_trans hA7 ?_), hfv.le ?_, View.le_trans HR5.2.2.le (View.le_trans hA6 (View.le_trans hA7 ?_))⟩
    · exact le_ov hP
    · exact le_ov hP
    · exact le_ov hP
  | some e =>
  obtain ⟨rq, m, rfl, hrq, hye⟩ := hev
  refine xc_reg2 fun K hK => ?_
  simp only [rall, rsl, gres]
  iterate 2 (refine seqX_hide2 fun R hR => ?_; simp [go_sem, hcz, hco, d84, d48, d98, d89, d94, d49, d109, d910, d108, d810, d104, d410, z1, z2, z3, z4, d4610, d1046, d469, d946, d468, d846, d464, d446, d4910, d1049, d499, d949, d498, d849, d494, d449, d1510, d1015, d159, d915, d158, d815, d154, d415]; refine hR _ _ _ ?_; clear hR R)
  rw [seqX_nil]
  refine hK _ _ _ ?_; clear hK K
  refine hN9 _ _ _ ?_
  refine xc_iftrue (by simp [go_sem, hcz, hco, d84, d48, d98, d89, d94, d49, d109, d910, d108, d810, d104, d410, z1, z2, z3, z4, d4610, d1046, d469, d946, d468, d846, d464, d446, d4910, d1049, d499, d949, d498, d849, d494, d449, d1510, d1015, d159, d915, d158, d815, d154, d415]) ?_
  refine xc_reg2 fun K hK => ?_
  simp only [rall, rsl, gres]
  (refine seqX_hide2 fun R hR => ?_; simp [go_sem, hcz, hco, d84, d48, d98, d89, d94, d49, d109, d910, d108, d810, d104, d410, z1, z2, z3, z4, d4610, d1046, d469, d946, d468, d846, d464, d446, d4910, d1049, d499, d949, d498, d849, d494, d449, d1510, d1015, d159, d915, d158, d815, d154, d415]; refine hR _ _ _ ?_; clear hR R)
  refine seqX_hide2 fun R hR => ?_
  simp [go_sem, hcz, hco, d84, d48, d98, d89, d94, d49, d109, d910, d108, d810, d104, d410, z1, z2, z3, z4, d4610, d1046, d469, d946, d468, d846, d464, d446, d4910, d1049, d499, d949, d498, d849, d494, d449, d1510, d1015, d159, d915, d158, d815, d154, d415]
  refine call_same hP (doc49 D2 rq m (hD2 _ _ hrq)) ?_
  rintro _ rfl
  refine hR _ _ _ ?_; clear hR R
  (refine seqX_hide2 fun R hR => ?_; simp [go_sem, hcz, hco, d84, d48, d98, d89, d94, d49, d109, d910, d108, d810, d104, d410, z1, z2, z3, z4, d4610, d1046, d469, d946, d468, d846, d464, d446, d4910, d1049, d499, d949, d498, d849, d494, d449, d1510, d1015, d159, d915, d158, d815, d154, d415]; refine hR _ _ _ ?_; clear hR R)
  refine seqX_hide2 fun R hR => ?_
  simp [go_sem, hcz, hco, d84, d48, d98, d89, d94, d49, d109, d910, d108, d810, d104, d410, z1, z2, z3, z4, d4610, d1046, d469, d946, d468, d846, d464, d446, d4910, d1049, d499, d949, d498, d849, d494, d449, d1510, d1015, d159, d915, d158, d815, d154, d415]
  refine hR _ _ _ ?_; clear hR R
  rw [seqX_nil]
  refine hK _ _ _ ?_; clear hK K
  refine hN8 _ _ _ ?_
  refine xc_two fun N10 hN10 => ?_
  refine xc_reg2 fun K hK => ?_
  simp only [rall, rsl, gres]
  iterate 3 (refine seqX_hide2 fun R hR => ?_; simp [go_sem, hcz, hco, d84, d48, d98, d89, d94, d49, d109, d910, d108, d810, d104, d410, z1, z2, z3, z4, d4610, d1046, d469, d946, d468, d846, d464, d446, d4910, d1049, d499, d949, d498, d849, d494, d449, d1510, d1015, d159, d915, d158, d815, d154, d415]; refine hR _ _ _ ?_; clear hR R)
  refine seqX_hide2 fun R hR => ?_
  simp [go_sem, hcz, hco, d84, d48, d98, d89, d94, d49, d109, d910, d108, d810, d104, d410, z1, z2, z3, z4, d4610, d1046, d469, d946, d468, d846, d464, d446, d4910, d1049, d499, d949, d498, d849, d494, d449, d1510, d1015, d159, d915, d158, d815, d154, d415]
  intro q62 hq62
  replace hP := hP.cons hq62
  clear hq62
  have d6215 : q62 ≠ q15 := (hP.ne q15 (by simp [addrs])).1
  have d1562 : q15 ≠ q62 := (hP.ne q15 (by simp [addrs])).2
  have d6210 : q62 ≠ q10 := (hP.ne q10 (by simp [addrs])).1
  have d1062 : q10 ≠ q62 := (hP.ne q10 (by simp [addrs])).2
  have d629 : q62 ≠ q9 := (hP.ne q9 (by simp [addrs])).1
  have d962 : q9 ≠ q62 := (hP.ne q9 (by simp [addrs])).2
  have d628 : q62 ≠ q8 := (hP.ne q8 (by simp [addrs])).1
  have d862 : q8 ≠ q62 := (hP.ne q8 (by simp [addrs])).2
  have d624 : q62 ≠ q4 := (hP.ne q4 (by simp [addrs])).1
  have d462 : q4 ≠ q62 := (hP.ne q4 (by simp [addrs])).2
  refine hR _ _ _ ?_; clear hR R
  refine seqX_hide2 fun R hR => ?_
  simp [go_sem, hcz, hco, d84, d48, d98, d89, d94, d49, d109, d910, d108, d810, d104, d410, z1, z2, z3, z4, d4610, d1046, d469, d946, d468, d846, d464, d446, d4910, d1049, d499, d949, d498, d849, d494, d449, d1510, d1015, d159, d915, d158, d815, d154, d415, d6215, d1562, d6210, d1062, d629, d962, d628, d862, d624, d462]
  obtain ⟨eq62, hPn, nq62⟩ := sinkI (A := D2) (L := [(q62, .cells #[.iface 92 (.agg #[.string ⟨#[]⟩, ptr0 m, .slice ub ks.length uc, .slice xb vs.length xc])] 116 (0, 0)), (q15, .cells #[.string ⟨#[]⟩, ptr0 m, .slice ub ks.length uc, .slice xb vs.length xc] 92 (0, 0)), (q10, .cells #[.int .i64 0] 3 (0, 0)), (q9, .cells #[.slice none 0 0] 22 (0, 0)), (q8, .cells (trc 0 0 ⟨#[]⟩ ⟨#[]⟩ ⟨#[]⟩ ⟨#[]⟩ ⟨#[]⟩ ⟨#[]⟩ 0 0 0 (.slice none 0 0)) 24 (0, 0)), (q4, .cells c 24 (0, 0))]) 0 hP rfl
  rw [eq62]
  clear eq62 hP; have hP := hPn; clear hPn
  simp only [List.eraseIdx_cons_zero, List.eraseIdx_cons_succ, addrs_cons, addrs_nil] at hP ⊢
  have lq : D2 ≤ D2.set q62 (.cells #[.iface 92 (.agg #[.string ⟨#[]⟩, ptr0 m, .slice ub ks.length uc, .slice xb vs.length xc])] 116 (0, 0)) := le_set nq62
  have hrow : Row (D2.set q62 (.cells #[.iface 92 (.agg #[.string ⟨#[]⟩, ptr0 m, .slice ub ks.length uc, .slice xb vs.length xc])] 116 (0, 0))) 1 (.slice (some ⟨q62, 0, none⟩) 1 1) 1 [.iface 92 (.agg #[.string ⟨#[]⟩, ptr0 m, .slice ub ks.length uc, .slice xb vs.length xc])] := .inl ⟨_, 1, rfl, cells_block (set_at _ _ _) rfl⟩
  generalize D2.set q62 (.cells #[.iface 92 (.agg #[.string ⟨#[]⟩, ptr0 m, .slice ub ks.length uc, .slice xb vs.length xc])] 116 (0, 0)) = A4 at hP lq hrow ⊢
  have hE4 : E ≤ A4 := View.le_trans hEA3 (View.le_trans hD2 lq)
  have h24 : A2 ≤ A4 := View.le_trans hA3 (View.le_trans hD2 lq)
  have hq4 := h24 _ _ hq
  have hp4 := h24 _ _ y4
  refine call_ov hP (pipe1 A4 q p 92 139 (.agg #[.string ⟨#[]⟩, ptr0 m, .slice ub ks.length uc, .slice xb vs.length xc]) (.slice (some ⟨q62, 0, none⟩) 1 1) k st tag val an (.slice cb kids.length cc) h l f row col hq4 hp4 hk1 meth_es (by kernel_rfl) hrow (SQ A q p (.mk k st tag val an h l f row col al kids) (some e) ks vs) (setter139 A E A4 q p (some (e, m)) (.slice ub ks.length uc) (.slice xb vs.length xc) ks vs k st tag val an h l f row col al kids cb cc ps hAE hE4 hEp hp4 (y5.row.le h24) y7 (fun j hj => let ⟨q, e1, e2⟩ := y8 j hj; ⟨q, e1, e2.le (View.le_trans hBr hrE)⟩) hq4 hqp hk ht (fun x hx => by cases hx; exact hye) (fun x hx => by cases hx; exact (hpo _ rfl).2.2) (hu1.le lq) (hu2.le lq) hl h0 h5 hkn hvn hkl hkk)) ?_
  clear hP
  rintro _ A5 ⟨x, rfl, hx, HR5⟩ hP
  refine hR _ _ _ ?_; clear hR R
  iterate 5 (refine seqX_hide2 fun R hR => ?_; simp [go_sem, hcz, hco, d84, d48, d98, d89, d94, d49, d109, d910, d108, d810, d104, d410, z1, z2, z3, z4, d4610, d1046, d469, d946, d468, d846, d464, d446, d4910, d1049, d499, d949, d498, d849, d494, d449, d1510, d1015, d159, d915, d158, d815, d154, d415, d6215, d1562, d6210, d1062, d629, d962, d628, d862, d624, d462]; refine hR _ _ _ ?_; clear hR R)
  rw [seqX_nil]
  refine hK _ _ _ ?_; clear hK K
  refine hN10 _ _ _ ?_
  refine xc_two fun N11 hN11 => ?_
  refine xc_two fun N12 hN12 => ?_
  refine xc_reg2 fun K hK => ?_
  simp only [rall, rsl, gres]
  iterate 2 (refine seqX_hide2 fun R hR => ?_; simp [go_sem, hcz, hco, d84, d48, d98, d89, d94, d49, d109, d910, d108, d810, d104, d410, z1, z2, z3, z4, d4610, d1046, d469, d946, d468, d846, d464, d446, d4910, d1049, d499, d949, d498, d849, d494, d449, d1510, d1015, d159, d915, d158, d815, d154, d415, d6215, d1562, d6210, d1062, d629, d962, d628, d862, d624, d462]; refine hR _ _ _ ?_; clear hR R)
  rw [seqX_nil]
  refine hK _ _ _ ?_; clear hK K
  refine hN12 _ _ _ ?_
  refine xc_iffalse (by simp [go_sem, hcz, hco, d84, d48, d98, d89, d94, d49, d109, d910, d108, d810, d104, d410, z1, z2, z3, z4, d4610, d1046, d469, d946, d468, d846, d464, d446, d4910, d1049, d499, d949, d498, d849, d494, d449, d1510, d1015, d159, d915, d158, d815, d154, d415, d6215, d1562, d6210, d1062, d629, d962, d628, d862, d624, d462]) ?_
  refine hN11 _ _ _ ?_
  refine xc_two fun N13 hN13 => ?_
  refine xc_reg2 fun K hK => ?_
  simp only [rall, rsl, gres]
  (refine seqX_hide2 fun R hR => ?_; simp [go_sem, hcz, hco, d84, d48, d98, d89, d94, d49, d109, d910, d108, d810, d104, d410, z1, z2, z3, z4, d4610, d1046, d469, d946, d468, d846, d464, d446, d4910, d1049, d499, d949, d498, d849, d494, d449, d1510, d1015, d159, d915, d158, d815, d154, d415, d6215, d1562, d6210, d1062, d629, d962, d628, d862, d624, d462]; refine hR _ _ _ ?_; clear hR R)
  refine seqX_hide2 fun R hR => ?_
  simp [go_sem, hcz, hco, d84, d48, d98, d89, d94, d49, d109, d910, d108, d810, d104, d410, z1, z2, z3, z4, d4610, d1046, d469, d946, d468, d846, d464, d446, d4910, d1049, d499, d949, d498, d849, d494, d449, d1510, d1015, d159, d915, d158, d815, d154, d415, d6215, d1562, d6210, d1062, d629, d962, d628, d862, d624, d462]
  refine call_ov hP (treeOf28 A5 (.mk k st tag val an h l f row col al (resT (fitK ks vs) (opt1 (some e)) kids)) q HR5.rn hnt hndr) ?_
  clear hP
  rintro _ A6 ⟨c1, rfl, hc1, hA6⟩ hP
  have hcz1 := hc1.size
  have hco1 := hc1.ones
  refine hR _ _ _ ?_; clear hR R
  (refine seqX_hide2 fun R hR => ?_; simp [go_sem, hcz, hco, d84, d48, d98, d89, d94, d49, d109, d910, d108, d810, d104, d410, z1, z2, z3, z4, d4610, d1046, d469, d946, d468, d846, d464, d446, d4910, d1049, d499, d949, d498, d849, d494, d449, d1510, d1015, d159, d915, d158, d815, d154, d415, d6215, d1562, d6210, d1062, d629, d962, d628, d862, d624, d462, hcz1, hco1]; refine hR _ _ _ ?_; clear hR R)
  refine seqX_hide2 fun R hR => ?_
  simp [go_sem, hcz, hco, d84, d48, d98, d89, d94, d49, d109, d910, d108, d810, d104, d410, z1, z2, z3, z4, d4610, d1046, d469, d946, d468, d846, d464, d446, d4910, d1049, d499, d949, d498, d849, d494, d449, d1510, d1015, d159, d915, d158, d815, d154, d415, d6215, d1562, d6210, d1062, d629, d962, d628, d862, d624, d462, hcz1, hco1]
  refine call_ov hP (found51 A6 (some e) _ (hx.le hA6) hfnt) ?_
  clear hP
  rintro fv A7 ⟨hfv, hA7⟩ hP
  have hfs := hfv.slice
  obtain ⟨fb, fc, rfl⟩ := hfs
  have hidle : Idle Try.prog { target := .fn (.func 61) #[.pointer (some ⟨q8, 0, none⟩), .pointer (some ⟨q9, 0, none⟩), .pointer (some ⟨q10, 0, none⟩)], args := #[] } := by
    intro w'
    exact ⟨_, _, 61, #[.pointer (some ⟨q8, 0, none⟩), .pointer (some ⟨q9, 0, none⟩), .pointer (some ⟨q10, 0, none⟩)], rfl, by simp [go_sem, invoke], caught61 _ _ _ _⟩
  refine hR _ _ _ ?_; clear hR R
  refine seqX_hide2 fun R hR => ?_
  simp [go_sem, hcz, hco, d84, d48, d98, d89, d94, d49, d109, d910, d108, d810, d104, d410, z1, z2, z3, z4, d4610, d1046, d469, d946, d468, d846, d464, d446, d4910, d1049, d499, d949, d498, d849, d494, d449, d1510, d1015, d159, d915, d158, d815, d154, d415, d6215, d1562, d6210, d1062, d629, d962, d628, d862, d624, d462, hcz1, hco1]
  refine hR _ _ _ ?_; clear hR R
  refine seqX_hide2 fun R hR => ?_
  simp [go_sem, hcz, hco, d84, d48, d98, d89, d94, d49, d109, d910, d108, d810, d104, d410, z1, z2, z3, z4, d4610, d1046, d469, d946, d468, d846, d464, d446, d4910, d1049, d499, d949, d498, d849, d494, d449, d1510, d1015, d159, d915, d158, d815, d154, d415, d6215, d1562, d6210, d1062, d629, d962, d628, d862, d624, d462, hcz1, hco1]
  refine hR _ _ _ ?_; clear hR R
  refine seqX_hide2 fun R hR => ?_
  simp [go_sem, hcz, hco, d84, d48, d98, d89, d94, d49, d109, d910, d108, d810, d104, d410, z1, z2, z3, z4, d4610, d1046, d469, d946, d468, d846, d464, d446, d4910, d1049, d499, d949, d498, d849, d494, d449, d1510, d1015, d159, d915, d158, d815, d154, d415, d6215, d1562, d6210, d1062, d629, d962, d628, d862, d624, d462, hcz1, hco1]
  refine hR _ _ _ ?_; clear hR R
  rw [seqX_nil]
  refine hK _ _ _ ?_; clear hK K
  refine hN13 _ _ _ ?_
  simp [go_sem, hcz, hco, d84, d48, d98, d89, d94, d49, d109, d910, d108, d810, d104, d410, z1, z2, z3, z4, d4610, d1046, d469, d946, d468, d846, d464, d446, d4910, d1049, d499, d949, d498, d849, d494, d449, d1510, d1015, d159, d915, d158, d815, d154, d415, d6215, d1562, d6210, d1062, d629, d962, d628, d862, d624, d462, hcz1, hco1]
  refine ⟨hidle, c1, _, ⟨rfl, rfl⟩, hc1.le (View.le_trans hA7 ?_), hfv.le ?_, View.le_trans HR5.2.2.le (View.le_trans hA6 (View.le_trans hA7 ?_))⟩
  · exact le_ov hP
  · exact le_ov hP
  · exact le_ov hP
end Go.Proofs.YtpinamipjddobaaV

/- The logic of views: drawn regions with two operations of which either may come first. -/
import Derived.Test.YtpinamipjddobaaV12
namespace Go.Proofs.YtpinamipjddobaaV
open Go.RowKit
set_option linter.unusedSimpArgs false
set_option linter.unusedVariables false
section
variable {P : Program} {n : Nat} {ops : Array Oper} {S : View} {Q : VQ}
def pairsX (ops : Array Oper) (M : List Nat) (a b : Nat) : List Nat → Bool
  | [] => true
  | j :: l => l.all (fun x => pairOk ops M j x || (j == a && x == b && !direct ops x j)) && !l.contains j && pairsX ops M a b l
theorem pairsX_split {M : List Nat} {a b : Nat} : ∀ {l1 l2 : List Nat} {x : Nat}, x ≠ b → pairsX ops M a b (l1 ++ x :: l2) = true → (∀ j ∈ l1, pairOk ops M j x = true ∧ j ≠ x) ∧ x ∉ l2 ∧ pairsX ops M a b (l1 ++ l2) = true
  | [], l2, x, hx, h => by
    simp only [List.nil_append, pairsX, Bool.and_eq_true, Bool.not_eq_true'] at h
    refine ⟨fun j hj => absurd hj (by simp), (fun hx => ?_), h.2⟩
    have := h.1.2
    rw [List.contains_iff_mem.2 hx] at this
    cases this
  | j :: l1, l2, x, hx, h => by
    simp only [List.cons_append, pairsX, Bool.and_eq_true, Bool.not_eq_true'] at h
    obtain ⟨⟨h1, h2⟩, h3⟩ := h
    obtain ⟨i1, i2, i3⟩ := pairsX_split hx h3
    have hjx : j ≠ x := fun hx => by
      have : (l1 ++ x :: l2).contains j = true := List.contains_iff_mem.2 (by rw [hx]; simp)
      rw [this] at h2; cases h2
    refine ⟨fun k hk => ?_, i2, ?_⟩
    · rcases List.mem_cons.1 hk with rfl | hk
      · have h4 := List.all_eq_true.1 h1 x (by simp)
        have h5 : (x == b) = false := by simp [hx]
        rw [h5] at h4
        simp only [Bool.and_false, Bool.false_and, Bool.or_false] at h4
        exact ⟨h4, hjx⟩
      · exact i1 k hk
    · simp only [List.cons_append, pairsX, Bool.and_eq_true, Bool.not_eq_true']
      refine ⟨⟨List.all_eq_true.2 fun k hk => List.all_eq_true.1 h1 k ?_, ?_⟩, i3⟩
      · rcases List.mem_append.1 hk with hk | hk <;> simp [hk]
      · cases hc : (l1 ++ l2).contains j with
        | false => rfl
        | true =>
          have hm := List.contains_iff_mem.1 hc
          have : (l1 ++ x :: l2).contains j = true := List.contains_iff_mem.2 (by rcases List.mem_append.1 hm with hm | hm <;> simp [hm])
          rw [this] at h2; cases h2
theorem pairsX_done {M : List Nat} {a b : Nat} : ∀ {l : List Nat}, a ∉ l → pairsX ops M a b l = true → pairsOk ops M l = true
  | [], _, _ => rfl
  | j :: l, ha, h => by
    simp only [pairsX, Bool.and_eq_true, Bool.not_eq_true'] at h
    simp only [pairsOk, Bool.and_eq_true, Bool.not_eq_true']
    refine ⟨⟨List.all_eq_true.2 fun x hx => ?_, h.1.2⟩, pairsX_done (fun hm => ha (List.mem_cons_of_mem _ hm)) h.2⟩
    have h4 := List.all_eq_true.1 h.1.1 x hx
    have h5 : (j == a) = false := by
      have : j ≠ a := fun hx => ha (by rw [hx]; exact List.mem_cons_self)
      simp [this]
    rw [h5] at h4
    simpa using h4
theorem step_any {needS : Nat → Bool} {A0 : View} {w0 : World} {Q' : Exit → Act → World → Prop} {x : Nat} {ox : Oper} {l1 l2 : List Nat} {e : Env} {ds : List Deferred} {A : View} {w : World} {K : Act → World → Prop} (hox : ops[x]? = some ox) (hsel : Region.noSelect ops = true)
    (hap : ∀ j ∈ l1, apartB ops j x = true ∧ (knd ops x ≠ .H ∨ isDet (knd ops j) = true)) (hD0 : knd ops x = .D → S ≤ A) (h : seqV P n ops S needS Q (l1 ++ x :: l2) e ds A) (hA : Holds A w) (h0 : Kept A0 w0 A w)
    (next : ∀ e' ds' A' w', ((S ≤ A → S ≤ A') ∨ (needS x = true → S ≤ A')) → seqV P n ops S needS Q (l1 ++ l2) e' ds' A' → Holds A' w' → Kept A0 w0 A' w' → K (frame n e' ds') w') : wpOp P ops Q' x K (frame n e ds) w := by
  have hknd : knd ops x = kind ox.op := by unfold knd; rw [hox]
  by_cases hD : vwant n ops e ox = true → isDet (kind ox.op) = true
  · obtain ⟨v, hv⟩ := getDet hox l1 (fun j hj => (hap j hj).1) h hA hD
    refine det_wp hox hv hA hD0 fun w' hA' hk' => ?_
    exact next _ _ A w' (.inl fun h => h) (moveDet hox hsel l1 (fun j hj => (hap j hj).1) hv h) hA' (h0.trans hk')
  · obtain ⟨hw, hnd⟩ := Classical.not_imp.1 hD
    unfold wpOp
    simp only [hox, yielded_frame]
    rw [if_pos (show Region.wanted ox (gval n ops e) = true from hw)]
    refine .inl ?_
    cases hk : kind ox.op with
    | P => rw [hk] at hnd; exact absurd rfl hnd
    | D => rw [hk] at hnd; exact absurd rfl hnd
    | L =>
      obtain ⟨q, hq⟩ := getNew hox hk l1 (fun j hj => (hap j hj).1) h hA hw
      unfold Oper.wp
      rw [frame_eval]
      obtain ⟨dst, op, ty, pos, af, g⟩ := ox
      obtain ⟨ob, f⟩ := q
      obtain ⟨nx, w', hr, A', ⟨b, hb, h1, h2⟩, h3, h4⟩ := vp_sound _ (fun nx A' => ∃ b, A b = none ∧ nx = .value (f b) ∧ A' = A.set b ob) _ _ (xnew_sound (dst := dst) (ty := ty) (pos := pos) (af := af) (g := g) hq (fun b hb => ⟨b, hb, rfl, rfl⟩)) hA
      subst h1 h2
      rw [hr]
      simp only [Oper.upon, frame_put]
      refine next _ _ _ w' (.inl fun hSA => ?_) (moveL hox hk hsel l1 (fun j hj => (hap j hj).1) hw hq hb h) h3 (h0.trans h4)
      intro k o hko
      have := hSA k o hko
      rw [set_other (fun hx => by rw [hx, hb] at this; cases this)]
      exact this
    | H =>
      have hH := moveH hox hk hsel l1 (fun j hj => ⟨(hap j hj).1, (hap j hj).2.resolve_left (by rw [hknd, hk]; simp)⟩) hw h
      refine Oper.wp_mono ?_ (vop_wp hH hA h0)
      rintro a w' hmid
      obtain ⟨e', ds', rfl, A', ⟨hS', hq⟩, hh, hk'⟩ := hmid.dn
      exact next e' ds' A' w' (.inr hS') hq hh hk'
theorem step_two {needS : Nat → Bool} {A0 : View} {w0 : World} {Q' : Exit → Act → World → Prop} {x : Nat} {ox : Oper} {l1 l2 m1 m2 : List Nat} {e : Env} {ds : List Deferred} {A : View} {w : World} {K : Act → World → Prop} (hox : ops[x]? = some ox) (hsel : Region.noSelect ops = true)
    (hap : ∀ j ∈ l1, apartB ops j x = true) (hap' : ∀ j ∈ m1, apartB ops j x = true) (hH : knd ops x ≠ .H) (hD0 : knd ops x = .D → S ≤ A) (h : seqV P n ops S needS Q (l1 ++ x :: l2) e ds A) (h' : seqV P n ops S needS Q (m1 ++ x :: m2) e ds A) (hA : Holds A w) (h0 : Kept A0 w0 A w)
    (next : ∀ e' ds' A' w', (S ≤ A → S ≤ A') → seqV P n ops S needS Q (l1 ++ l2) e' ds' A' → seqV P n ops S needS Q (m1 ++ m2) e' ds' A' → Holds A' w' → Kept A0 w0 A' w' → K (frame n e' ds') w') : wpOp P ops Q' x K (frame n e ds) w := by
  have hknd : knd ops x = kind ox.op := by unfold knd; rw [hox]
  by_cases hD : vwant n ops e ox = true → isDet (kind ox.op) = true
  · obtain ⟨v, hv⟩ := getDet hox l1 hap h hA hD
    refine det_wp hox hv hA hD0 fun w' hA' hk' => ?_
    exact next _ _ A w' (fun h => h) (moveDet hox hsel l1 hap hv h) (moveDet hox hsel m1 hap' hv h') hA' (h0.trans hk')
  · obtain ⟨hw, hnd⟩ := Classical.not_imp.1 hD
    unfold wpOp
    simp only [hox, yielded_frame]
    rw [if_pos (show Region.wanted ox (gval n ops e) = true from hw)]
    refine .inl ?_
    cases hk : kind ox.op with
    | P => rw [hk] at hnd; exact absurd rfl hnd
    | D => rw [hk] at hnd; exact absurd rfl hnd
    | H => rw [hknd, hk] at hH; exact absurd rfl hH
    | L =>
      obtain ⟨q, hq⟩ := getNew hox hk l1 hap h hA hw
      unfold Oper.wp
      rw [frame_eval]
      obtain ⟨dst, op, ty, pos, af, g⟩ := ox
      obtain ⟨ob, f⟩ := q
      obtain ⟨nx, w', hr, A', ⟨b, hb, h1, h2⟩, h3, h4⟩ := vp_sound _ (fun nx A' => ∃ b, A b = none ∧ nx = .value (f b) ∧ A' = A.set b ob) _ _ (xnew_sound (dst := dst) (ty := ty) (pos := pos) (af := af) (g := g) hq (fun b hb => ⟨b, hb, rfl, rfl⟩)) hA
      subst h1 h2
      rw [hr]
      simp only [Oper.upon, frame_put]
      refine next _ _ _ w' (fun hSA => ?_) (moveL hox hk hsel l1 hap hw hq hb h) (moveL hox hk hsel m1 hap' hw hq hb h') h3 (h0.trans h4)
      intro k o hko
      have := hSA k o hko
      rw [set_other (fun hx => by rw [hx, hb] at this; cases this)]
      exact this
def hardBehind (ops : Array Oper) (M : List Nat) (p q : Nat) : Bool := (List.range ops.size).all fun x => !(knd ops x == .H) || x == p || x == q || Nat.testBit (M.getD x 0) p
theorem hap_of {M : List Nat} {l1 : List Nat} {x : Nat} (hp : ∀ j ∈ l1, pairOk ops M j x = true ∧ j ≠ x) (hbit : ∀ j ∈ l1, Nat.testBit (M.getD x 0) j = false) : ∀ j ∈ l1, apartB ops j x = true ∧ (knd ops x ≠ .H ∨ isDet (knd ops j) = true) := by
  intro j hj
  have h1 := (hp j hj).1
  unfold pairOk at h1
  rw [hbit j hj] at h1
  simp only [Bool.false_or, Bool.and_eq_true, Bool.or_eq_true, bne_iff_ne, ne_eq] at h1
  exact h1.2
theorem unlisted_step {listed : Array Bool} {l1 l2 : List Nat} {x : Nat} (hsz : listed.size = ops.size) (hxs : x < ops.size) (hl : ∀ i, i ∈ l1 ++ x :: l2 ↔ i < ops.size ∧ listed.getD i true = false) (hx1 : x ∉ l1) (hx2 : x ∉ l2) : ∀ i, i ∈ l1 ++ l2 ↔ i < ops.size ∧ (listed.setIfInBounds x true).getD i true = false := by
  intro i
  by_cases hix : i = x
  · subst hix
    constructor
    · intro hm; rcases List.mem_append.1 hm with hm | hm
      · exact absurd hm hx1
      · exact absurd hm hx2
    · rintro ⟨_, h2⟩
      have : (listed.setIfInBounds i true).getD i true = true := by simp [hsz, hxs]
      rw [this] at h2; cases h2
  · rw [getD_set_ne true (Ne.symm hix)]
    rw [← hl i]
    simp [hix]
theorem closed_step {listed : Array Bool} {x : Nat} {ox : Oper} (hox : ops[x]? = some ox) (hdir : ∀ e ∈ ox.after, Region.binds .any e = true → listed.getD e.on false = true) (hcl : ∀ (m : Nat) (o : Oper), ops[m]? = some o → listed.getD m false = true → ∀ e ∈ o.after, Region.binds .any e = true → listed.getD e.on false = true) :
    ∀ (m : Nat) (o : Oper), ops[m]? = some o → (listed.setIfInBounds x true).getD m false = true → ∀ e ∈ o.after, Region.binds .any e = true → (listed.setIfInBounds x true).getD e.on false = true := by
  intro m o ho hm ed he hb
  by_cases hmx : m = x
  · subst hmx
    rw [hox] at ho
    simp only [Option.some.injEq] at ho
    subst ho
    exact getD_set_true (hdir ed he hb)
  · rw [getD_set_ne false (Ne.symm hmx)] at hm
    exact getD_set_true (hcl m o ho hm ed he hb)
theorem seq_two {M : List Nat} {A0 : View} {w0 : World} {Q' : Exit → Act → World → Prop} {p q : Nat} (hpq : p ≠ q) (hM : ckM ops M = true) (hE : edgesIn ops = true) (hself : noSelf ops = true) (hsel : Region.noSelect ops = true) (hhard : hardBehind ops M p q = true) (hQ : ∀ a w, Mid n Q A0 w0 a w → Q' .normal a w) :
    ∀ (fuel : Nat) (listed : Array Bool) (l m : List Nat) (e : Env) (ds : List Deferred) (A : View) (w : World), listed.size = ops.size → l.length ≤ fuel → m.length ≤ fuel → p ∈ l → q ∈ l →
    (∀ i, i ∈ l ↔ i < ops.size ∧ listed.getD i true = false) → (∀ i, i ∈ m ↔ i < ops.size ∧ listed.getD i true = false) → pairsX ops M p q l = true → pairsX ops M q p m = true →
    (∀ (m : Nat) (o : Oper), ops[m]? = some o → listed.getD m false = true → ∀ e ∈ o.after, Region.binds .any e = true → listed.getD e.on false = true) →
    ((∃ i ∈ l, knd ops i = .D) → S ≤ A) → seqV P n ops S (needM ops M) Q l e ds A → seqV P n ops S (needM ops M) Q m e ds A → Holds A w → Kept A0 w0 A w → wpAny P .any ops Q' fuel listed (frame n e ds) w := by
  intro fuel
  induction fuel with
  | zero =>
    intro listed l m e ds A w hsz hlen hlenm hpl hql
    have : l = [] := List.length_eq_zero_iff.1 (by omega)
    subst this
    cases hpl
  | succ fuel ih =>
    intro listed l m e ds A w hsz hlen hlenm hpl hql hl hm hX hXm hcl hS h h' hA h0
    refine ⟨fun hr => ?_, fun x hx => ?_⟩
    · cases l with
      | nil => cases hpl
      | cons i l =>
        exfalso
        obtain ⟨hi, hun⟩ := (hl i).1 (by simp)
        have hoi : ops[i]? = some ops[i] := Array.getElem?_eq_getElem hi
        have : i ∈ Region.ready .any ops listed := by
          refine mem_ready.2 ⟨hun, _, hoi, fun ed he hb => ?_⟩
          have hlt : ed.on < ops.size := by
            have h1 := Array.all_eq_true_iff_forall_mem.1 (Array.all_eq_true_iff_forall_mem.1 hE _ (Array.mem_of_getElem? hoi)) ed he
            rw [hb] at h1
            simpa using h1
          have hdir : direct ops ed.on i = true := by
            unfold direct
            rw [hoi]
            exact Array.any_eq_true'.2 ⟨ed, he, by simp [hb]⟩
          cases hc : listed.getD ed.on false with
          | true => rfl
          | false =>
            exfalso
            have hmm : ed.on ∈ i :: l := (hl ed.on).2 ⟨hlt, by
              have hs : ed.on < listed.size := by omega
              simp only [Array.getD_eq_getD_getElem?, Array.getElem?_eq_getElem hs, Option.getD_some] at hc ⊢
              exact hc⟩
            simp only [pairsX, Bool.and_eq_true] at hX
            rcases List.mem_cons.1 hmm with hmm | hmm
            · have h2 := List.all_eq_true.1 hself i (List.mem_range.2 hi)
              rw [hmm] at hdir
              rw [hdir] at h2
              cases h2
            · have h2 := List.all_eq_true.1 hX.1.1 ed.on hmm
              unfold pairOk at h2
              rw [hdir] at h2
              simp at h2
        rw [hr] at this
        cases this
    · obtain ⟨hun, ox, hox, hdir⟩ := mem_ready.1 hx
      have hxs : x < ops.size := (Array.getElem?_eq_some_iff.1 hox).1
      have hxl : x ∈ l := (hl x).2 ⟨hxs, hun⟩
      have hxm : x ∈ m := (hm x).2 ⟨hxs, hun⟩
      have hbit : ∀ j ∈ l, Nat.testBit (M.getD x 0) j = false := by
        intro j hj
        obtain ⟨hjs, hju⟩ := (hl j).1 hj
        cases hb : Nat.testBit (M.getD x 0) j with
        | false => rfl
        | true =>
          have h1 := listed_of_M hM hcl x ox hox hdir j hjs hb
          rw [getD_both' (by omega) hju] at h1
          cases h1
      have hml : ∀ j, j ∈ m → j ∈ l := fun j hj => (hl j).2 ((hm j).1 hj)
      have hlm : ∀ j, j ∈ l → j ∈ m := fun j hj => (hm j).2 ((hl j).1 hj)
      have hneed : ∀ {l1 l2 : List Nat}, (∀ i ∈ l1 ++ l2, i ∈ l) → x ∉ l1 ++ l2 → ∀ {A' : View}, ((S ≤ A → S ≤ A') ∨ (needM ops M x = true → S ≤ A')) → (∃ i ∈ l1 ++ l2, knd ops i = .D) → S ≤ A' := by
        intro l1 l2 hsub hxn A' hor hex
        obtain ⟨i, hi, hki⟩ := hex
        rcases hor with h1 | h1
        · exact h1 (hS ⟨i, hsub i hi, hki⟩)
        · refine h1 (List.any_eq_true.2 ⟨i, List.mem_range.2 ((hl i).1 (hsub i hi)).1, ?_⟩)
          have hix : i ≠ x := fun hx => hxn (hx ▸ hi)
          rw [hki, hbit i (hsub i hi)]
          simp [hix]
      by_cases hxq : x = q
      · obtain ⟨m1, m2, rfl⟩ := List.append_of_mem hxm
        obtain ⟨hpair, hx2, hX'⟩ := pairsX_split (by rw [hxq]; exact fun h => hpq h.symm) hXm
        have hx1 : x ∉ m1 := fun hm => (hpair x hm).2 rfl
        have hx12 : x ∉ m1 ++ m2 := fun h => (List.mem_append.1 h).elim hx1 hx2
        have hsub : ∀ i ∈ m1 ++ m2, i ∈ l := fun i hi => hml i (by rcases List.mem_append.1 hi with hi | hi <;> simp [hi])
        refine step_any hox hsel (hap_of hpair fun j hj => hbit j (hml j (by simp [hj]))) (fun hk => hS ⟨x, hxl, hk⟩) h' hA h0 fun e' ds' A' w' hor hq hh hk' => ?_
        exact seq_any hM hE hself hsel hQ fuel _ (m1 ++ m2) e' ds' A' w' (by simp [hsz]) (by simp only [List.length_append, List.length_cons] at hlenm ⊢; omega) (unlisted_step hsz hxs hm hx1 hx2) (pairsX_done (hxq ▸ hx12) hX') (closed_step hox hdir hcl) (hneed hsub hx12 hor) hq hh hk'
      · obtain ⟨l1, l2, rfl⟩ := List.append_of_mem hxl
        obtain ⟨hpair, hx2, hX'⟩ := pairsX_split hxq hX
        have hx1 : x ∉ l1 := fun hm => (hpair x hm).2 rfl
        have hx12 : x ∉ l1 ++ l2 := fun h => (List.mem_append.1 h).elim hx1 hx2
        have hsub : ∀ i ∈ l1 ++ l2, i ∈ l1 ++ x :: l2 := fun i hi => by rcases List.mem_append.1 hi with hi | hi <;> simp [hi]
        by_cases hxp : x = p
        · refine step_any hox hsel (hap_of hpair fun j hj => hbit j (by simp [hj])) (fun hk => hS ⟨x, hxl, hk⟩) h hA h0 fun e' ds' A' w' hor hq hh hk' => ?_
          exact seq_any hM hE hself hsel hQ fuel _ (l1 ++ l2) e' ds' A' w' (by simp [hsz]) (by simp only [List.length_append, List.length_cons] at hlen ⊢; omega) (unlisted_step hsz hxs hl hx1 hx2) (pairsX_done (hxp ▸ hx12) hX') (closed_step hox hdir hcl) (hneed hsub hx12 hor) hq hh hk'
        · have hnH : knd ops x ≠ .H := fun hk => by
            have h1 := List.all_eq_true.1 hhard x (List.mem_range.2 hxs)
            rw [hbit p hpl, hk] at h1
            simp [hxp, hxq] at h1
          obtain ⟨m1, m2, rfl⟩ := List.append_of_mem hxm
          obtain ⟨hpair', hx2', hX''⟩ := pairsX_split hxp hXm
          have hx1' : x ∉ m1 := fun hm => (hpair' x hm).2 rfl
          refine step_two hox hsel (fun j hj => (hap_of hpair (fun j hj => hbit j (by simp [hj])) j hj).1) (fun j hj => (hap_of hpair' (fun j hj => hbit j (hml j (by simp [hj]))) j hj).1) hnH (fun hk => hS ⟨x, hxl, hk⟩) h h' hA h0 fun e' ds' A' w' hor hq hq' hh hk' => ?_
          have hin : ∀ k, k ≠ x → k ∈ l1 ++ x :: l2 → k ∈ l1 ++ l2 := fun k hk hm => by
            rcases List.mem_append.1 hm with hm | hm
            · simp [hm]
            · rcases List.mem_cons.1 hm with hm | hm
              · exact absurd hm hk
              · simp [hm]
          exact ih _ (l1 ++ l2) (m1 ++ m2) e' ds' A' w' (by simp [hsz]) (by simp only [List.length_append, List.length_cons] at hlen ⊢; omega) (by simp only [List.length_append, List.length_cons] at hlenm ⊢; omega) (hin p (Ne.symm hxp) hpl) (hin q (Ne.symm hxq) hql) (unlisted_step hsz hxs hl hx1 hx2) (unlisted_step hsz hxs hm hx1' hx2') hX' hX'' (closed_step hox hdir hcl) (hneed hsub hx12 (.inl hor)) hq hq' hh hk'
def okTwo (ops : Array Oper) (M : List Nat) (p q : Nat) (l m : List Nat) : Bool :=
  !(p == q) && ckM ops M && noSelf ops && edgesIn ops && Region.noSelect ops && hardBehind ops M p q && pairsX ops M p q l && pairsX ops M q p m && l.contains p && l.contains q && (List.range ops.size).all (fun i => l.contains i) && l.all (fun i => decide (i < ops.size)) && decide (l.length ≤ ops.size) && (List.range ops.size).all (fun i => m.contains i) && m.all (fun i => decide (i < ops.size)) && decide (m.length ≤ ops.size)
/-- A drawn region with two operations that are in no order: both orders are shown. -/
theorem vdraw2 {id : Nat} {Q : Exit → VQ} {e : Env} {ds : List Deferred} {A : View} (p q : Nat) (l m : List (Nat × Bool)) (S : View) (hm : P.follows .mixedOrders = true) (hok : (okTwo ops (autoM ops) p q (l.map (·.1)) (m.map (·.1)) && okNeed ops (autoM ops) l && okNeed ops (autoM ops) m) = true) (hS : S ≤ A)
    (h : ∀ K : VQ, (∀ e ds A, Q .normal e ds A → K e ds A) → seqR P n S K (rslv ops l) e ds A) (h' : ∀ K : VQ, (∀ e ds A, Q .normal e ds A → K e ds A) → seqR P n S K (rslv ops m) e ds A) : VCode P n (.region id ops true) Q e ds A := by
  simp only [Bool.and_eq_true] at hok
  obtain ⟨⟨hk, hn1⟩, hn2⟩ := hok
  intro w hA
  simp only [okTwo, Bool.and_eq_true] at hk
  obtain ⟨⟨⟨⟨⟨⟨⟨⟨⟨⟨⟨⟨⟨⟨⟨hpq, h1⟩, h2⟩, h4⟩, h5⟩, hh⟩, hX⟩, hXm⟩, hp⟩, hq⟩, h6⟩, h7⟩, h8⟩, h9⟩, h10⟩, h11⟩ := hk
  have mem : ∀ l : List Nat, (List.range ops.size).all (fun i => l.contains i) = true → l.all (fun i => decide (i < ops.size)) = true → ∀ i, i ∈ l ↔ i < ops.size ∧ (Array.replicate ops.size false).getD i true = false := fun l h6 h7 i => by
    constructor
    · intro hi
      have : i < ops.size := by simpa using List.all_eq_true.1 h7 i hi
      exact ⟨this, by simp [this]⟩
    · rintro ⟨hi, _⟩
      exact List.contains_iff_mem.1 (List.all_eq_true.1 h6 i (List.mem_range.2 hi))
  refine wp_region_any hm ?_
  refine seq_two (Q := Q .normal) (A0 := A) (w0 := w) (Q' := Goal n Q A w) (p := p) (q := q) (fun hx => by rw [hx] at hpq; simp at hpq) h1 h4 h2 h5 hh (fun a w' hmid => hmid) ops.size (Array.replicate ops.size false) (l.map (·.1)) (m.map (·.1)) e ds A { w with drawn := w.drawn + 1 } (by simp) (by simpa using h8) (by simpa using h11)
    (List.contains_iff_mem.1 hp) (List.contains_iff_mem.1 hq) (mem _ h6 h7) (mem _ h9 h10) hX hXm ?_ (fun _ => hS) (seqV_of_seqR l hn1 (h _ fun _ _ _ h => h)) (seqV_of_seqR m hn2 (h' _ fun _ _ _ h => h)) hA ⟨rfl, rfl, rfl, Nat.le_refl _, fun _ _ _ => rfl, fun _ hb => .inl hb⟩
  intro m o ho hm
  have hms : m < ops.size := (Array.getElem?_eq_some_iff.1 ho).1
  simp [hms] at hm
end
end Go.Proofs.YtpinamipjddobaaV

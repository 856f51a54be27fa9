/- Shell patterns: FnPathMatches. -/
import Derived.Test.YthjbgpmcfcijgaaDoorPP
namespace Go.Proofs.YthjbgpmcfcijgaaDoorV
open Go.RowKit
open Pm (nb nb_len nb_get nb_drop nb_nil nb_cons nb_extract extract_size' It takes chr1 cls1 clsGo rng pat Mt GL SlOK)
set_option linter.unusedSimpArgs false
set_option linter.unusedVariables false
theorem clsGo_rs : ∀ (l : List Nat) (rs : List (Nat × Nat)) {q : List (Nat × Nat)} {r : List Nat}, clsGo l rs = some (q, r) → q.length ≤ rs.length + l.length := by
  intro l
  induction hn : l.length using Nat.strongRecOn generalizing l with
  | _ n ih =>
  intro rs q r h
  subst hn
  cases l with
  | nil => unfold clsGo at h; cases h
  | cons c t =>
    rw [clsGo] at h
    split at h
    · simp only [Option.some.injEq, Prod.mk.injEq] at h
      obtain ⟨rfl, -⟩ := h
      simp
    · split at h
      · cases h
      · rename_i x r' hr
        have h1 := (Pm.rng_len hr).1
        have := ih _ h1 r' rfl _ h
        rw [List.length_append] at this
        simp at this ⊢
        simp at h1
        omega
theorem cls1_rs {l r : List Nat} {n : Bool} {rs : List (Nat × Nat)} (h : cls1 l = some (.cls n rs, r)) : rs.length ≤ l.length := by
  unfold cls1 at h
  split at h
  · obtain ⟨p, h1, h2⟩ := Option.map_eq_some_iff.1 h
    simp only [Prod.mk.injEq, It.cls.injEq] at h2
    have := clsGo_rs _ _ (q := p.1) (r := p.2) h1
    rw [← h2.1.2]
    simp at this ⊢
    omega
  · obtain ⟨p, h1, h2⟩ := Option.map_eq_some_iff.1 h
    simp only [Prod.mk.injEq, It.cls.injEq] at h2
    have := clsGo_rs _ _ (q := p.1) (r := p.2) h1
    rw [← h2.1.2]
    simpa using this
theorem pat_cls_in (st : Bool) : ∀ (l : List Nat) {items : List It}, pat st l = some items → items.length ≤ l.length ∧ ∀ n rs, .cls n rs ∈ items → 91 ∈ l ∧ rs.length ≤ l.length := by
  intro l
  induction hn : l.length using Nat.strongRecOn generalizing l with
  | _ n ih =>
  intro items h
  subst hn
  have step : ∀ {x : It} {r : List Nat}, r.length < l.length → (∀ c ∈ r, c ∈ l) → (∀ n rs, x = .cls n rs → 91 ∈ l ∧ rs.length ≤ l.length) → (pat st r).map (x :: ·) = some items → items.length ≤ l.length ∧ ∀ n rs, .cls n rs ∈ items → 91 ∈ l ∧ rs.length ≤ l.length := by
    intro x r hr hm hx h
    obtain ⟨a', h1, rfl⟩ := Option.map_eq_some_iff.1 h
    obtain ⟨h2, h3⟩ := ih _ hr r rfl h1
    refine ⟨by simp; omega, fun n rs hy => ?_⟩
    rcases List.mem_cons.1 hy with e | hy
    · exact hx n rs e.symm
    · obtain ⟨g1, g2⟩ := h3 n rs hy
      exact ⟨hm _ g1, by omega⟩
  cases l with
  | nil =>
    rw [Pm.pat_nil] at h
    simp only [Option.some.injEq] at h
    subst h
    exact ⟨Nat.le_refl _, fun n rs hx => by cases hx⟩
  | cons c r =>
    rw [Pm.pat_cons] at h
    split at h
    · exact step (by simp) (fun c hc => by simp [hc]) (fun n rs e => by cases e) h
    · split at h
      · exact step (by simp) (fun c hc => by simp [hc]) (fun n rs e => by cases e) h
      · split at h
        · rename_i h91
          split at h
          · cases h
          · rename_i x r' hc
            have hl := Pm.cls1_len hc
            obtain ⟨p, hp, -⟩ := Pm.cls1_scan hc
            refine step (x := x) (by simp only [List.length_cons]; omega) (fun c hc => by rw [hp]; simp [hc]) (fun n rs e => ?_) h
            subst e
            refine ⟨by rw [h91]; simp, ?_⟩
            have := cls1_rs hc
            simp only [List.length_cons]; omega
        · split at h
          · cases r with
            | nil => cases h
            | cons d r' => exact step (by simp only [List.length_cons]; omega) (fun c hc => by simp [hc]) (fun n rs e => by cases e) h
          · exact step (by simp) (fun c hc => by simp [hc]) (fun n rs e => by cases e) h
theorem slok_of {p s : List Nat} {items : List It} (hp : pat true p = some items) (h : 47 ∉ s ∨ 91 ∉ p) : SlOK items s := by
  rcases h with h | h
  · exact .inl h
  · refine .inr fun x hx ht => ?_
    cases x with
    | star => cases ht
    | any => cases ht
    | chr c =>
      simp only [takes, beq_iff_eq] at ht
      rw [ht]
    | cls n rs => exact absurd ((pat_cls_in true p hp).2 n rs hx).1 h
set_option maxRecDepth 20000 in
set_option maxHeartbeats 8000000 in
theorem paths3 (A : View) (p s : ByteArray) : VCalls Tryd.prog 3 #[.string p, .string s] A fun r A' => r = .bool true ∧ A ≤ A' := by
  refine xcalls Tryd.func3 rfl (by simp [Tryd.ntmps3]) ?_
  simp only [Tryd.f3]
  have hP : Priv A (addrs []) := Priv.nil A
  show xc _ _ _ _ _ _ (ov A [])
  by_cases h1 : 2147483647 < p.size
  · have h1i : (2147483647 : Int) < p.size := by omega
    refine xc_two fun N1 hN1 => ?_
    refine xc_reg1 1 rfl fun K hK => ?_
    simp only [show (List.range 1).map (·, true) = [(0, true)] from rfl, rslv_cons, rslv_nil, List.getElem?_toArray, List.getElem?_cons_zero, List.getElem?_cons_succ, gres]
    (refine seqX_hide2 fun R hR => ?_; simp [go_sem, h1, h1i]; refine hR _ _ _ ?_; clear hR R)
    rw [seqX_nil]
    refine hK _ _ _ ?_; clear hK K
    refine hN1 _ _ _ ?_
    refine xc_two fun N2 hN2 => ?_
    refine xc_two fun N3 hN3 => ?_
    refine xc_reg1 8 rfl fun K hK => ?_
    simp only [show (List.range 8).map (·, true) = [(0, true), (1, true), (2, true), (3, true), (4, true), (5, true), (6, true), (7, true)] from rfl, rslv_cons, rslv_nil, List.getElem?_toArray, List.getElem?_cons_zero, List.getElem?_cons_succ, gres]
    iterate 8 (refine seqX_hide2 fun R hR => ?_; simp [go_sem, h1, h1i]; refine hR _ _ _ ?_; clear hR R)
    rw [seqX_nil]
    refine hK _ _ _ ?_; clear hK K
    refine hN3 _ _ _ ?_
    refine xc_iftrue (by simp [go_sem, h1, h1i]) ?_
    refine xc_two fun N4 hN4 => ?_
    refine xc_reg1 1 rfl fun K hK => ?_
    simp only [show (List.range 1).map (·, true) = [(0, true)] from rfl, rslv_cons, rslv_nil, List.getElem?_toArray, List.getElem?_cons_zero, List.getElem?_cons_succ, gres]
    (refine seqX_hide2 fun R hR => ?_; simp [go_sem, h1, h1i]; refine hR _ _ _ ?_; clear hR R)
    rw [seqX_nil]
    refine hK _ _ _ ?_; clear hK K
    refine hN4 _ _ _ ?_
    simp [go_sem, h1, h1i]
    exact View.le_refl _
  have h1i : ¬ (2147483647 : Int) < p.size := by omega
  by_cases h2 : 2147483647 < s.size
  · have h2i : (2147483647 : Int) < s.size := by omega
    refine xc_two fun N1 hN1 => ?_
    refine xc_reg1 1 rfl fun K hK => ?_
    simp only [show (List.range 1).map (·, true) = [(0, true)] from rfl, rslv_cons, rslv_nil, List.getElem?_toArray, List.getElem?_cons_zero, List.getElem?_cons_succ, gres]
    (refine seqX_hide2 fun R hR => ?_; simp [go_sem, h1, h1i, h2, h2i]; refine hR _ _ _ ?_; clear hR R)
    rw [seqX_nil]
    refine hK _ _ _ ?_; clear hK K
    refine hN1 _ _ _ ?_
    refine xc_two fun N2 hN2 => ?_
    refine xc_two fun N3 hN3 => ?_
    refine xc_reg1 8 rfl fun K hK => ?_
    simp only [show (List.range 8).map (·, true) = [(0, true), (1, true), (2, true), (3, true), (4, true), (5, true), (6, true), (7, true)] from rfl, rslv_cons, rslv_nil, List.getElem?_toArray, List.getElem?_cons_zero, List.getElem?_cons_succ, gres]
    iterate 8 (refine seqX_hide2 fun R hR => ?_; simp [go_sem, h1, h1i, h2, h2i]; refine hR _ _ _ ?_; clear hR R)
    rw [seqX_nil]
    refine hK _ _ _ ?_; clear hK K
    refine hN3 _ _ _ ?_
    refine xc_iftrue (by simp [go_sem, h1, h1i, h2, h2i]) ?_
    refine xc_two fun N4 hN4 => ?_
    refine xc_reg1 1 rfl fun K hK => ?_
    simp only [show (List.range 1).map (·, true) = [(0, true)] from rfl, rslv_cons, rslv_nil, List.getElem?_toArray, List.getElem?_cons_zero, List.getElem?_cons_succ, gres]
    (refine seqX_hide2 fun R hR => ?_; simp [go_sem, h1, h1i, h2, h2i]; refine hR _ _ _ ?_; clear hR R)
    rw [seqX_nil]
    refine hK _ _ _ ?_; clear hK K
    refine hN4 _ _ _ ?_
    simp [go_sem, h1, h1i, h2, h2i]
    exact View.le_refl _
  have h2i : ¬ (2147483647 : Int) < s.size := by omega
  by_cases h3 : 200 < p.size
  · have h3i : (200 : Int) < p.size := by omega
    refine xc_two fun N1 hN1 => ?_
    refine xc_reg1 1 rfl fun K hK => ?_
    simp only [show (List.range 1).map (·, true) = [(0, true)] from rfl, rslv_cons, rslv_nil, List.getElem?_toArray, List.getElem?_cons_zero, List.getElem?_cons_succ, gres]
    (refine seqX_hide2 fun R hR => ?_; simp [go_sem, h1, h1i, h2, h2i, h3, h3i]; refine hR _ _ _ ?_; clear hR R)
    rw [seqX_nil]
    refine hK _ _ _ ?_; clear hK K
    refine hN1 _ _ _ ?_
    refine xc_two fun N2 hN2 => ?_
    refine xc_two fun N3 hN3 => ?_
    refine xc_reg1 8 rfl fun K hK => ?_
    simp only [show (List.range 8).map (·, true) = [(0, true), (1, true), (2, true), (3, true), (4, true), (5, true), (6, true), (7, true)] from rfl, rslv_cons, rslv_nil, List.getElem?_toArray, List.getElem?_cons_zero, List.getElem?_cons_succ, gres]
    iterate 8 (refine seqX_hide2 fun R hR => ?_; simp [go_sem, h1, h1i, h2, h2i, h3, h3i]; refine hR _ _ _ ?_; clear hR R)
    rw [seqX_nil]
    refine hK _ _ _ ?_; clear hK K
    refine hN3 _ _ _ ?_
    refine xc_iffalse (by simp [go_sem, h1, h1i, h2, h2i, h3, h3i]) ?_
    refine hN2 _ _ _ ?_
    refine xc_two fun N4 hN4 => ?_
    refine xc_two fun N5 hN5 => ?_
    refine xc_reg1 18 rfl fun K hK => ?_
    simp only [show (List.range 18).map (·, true) = [(0, true), (1, true), (2, true), (3, true), (4, true), (5, true), (6, true), (7, true), (8, true), (9, true), (10, true), (11, true), (12, true), (13, true), (14, true), (15, true), (16, true), (17, true)] from rfl, rslv_cons, rslv_nil, List.getElem?_toArray, List.getElem?_cons_zero, List.getElem?_cons_succ, gres]
    iterate 10 (refine seqX_hide2 fun R hR => ?_; simp [go_sem, h1, h1i, h2, h2i, h3, h3i]; refine hR _ _ _ ?_; clear hR R)
    refine seqX_hide2 fun R hR => ?_
    simp [go_sem, h1, h1i, h2, h2i, h3, h3i]
    refine hR _ _ _ ?_; clear hR R
    iterate 4 (refine seqX_hide2 fun R hR => ?_; simp [go_sem, h1, h1i, h2, h2i, h3, h3i]; refine hR _ _ _ ?_; clear hR R)
    refine seqX_hide2 fun R hR => ?_
    simp [go_sem, h1, h1i, h2, h2i, h3, h3i]
    refine hR _ _ _ ?_; clear hR R
    iterate 2 (refine seqX_hide2 fun R hR => ?_; simp [go_sem, h1, h1i, h2, h2i, h3, h3i]; refine hR _ _ _ ?_; clear hR R)
    rw [seqX_nil]
    refine hK _ _ _ ?_; clear hK K
    refine hN5 _ _ _ ?_
    refine xc_iftrue (by simp [go_sem, h1, h1i, h2, h2i, h3, h3i]) ?_
    refine xc_two fun N6 hN6 => ?_
    refine xc_reg1 1 rfl fun K hK => ?_
    simp only [show (List.range 1).map (·, true) = [(0, true)] from rfl, rslv_cons, rslv_nil, List.getElem?_toArray, List.getElem?_cons_zero, List.getElem?_cons_succ, gres]
    (refine seqX_hide2 fun R hR => ?_; simp [go_sem, h1, h1i, h2, h2i, h3, h3i]; refine hR _ _ _ ?_; clear hR R)
    rw [seqX_nil]
    refine hK _ _ _ ?_; clear hK K
    refine hN6 _ _ _ ?_
    simp [go_sem, h1, h1i, h2, h2i, h3, h3i]
    exact View.le_refl _
  have h3i : ¬ (200 : Int) < p.size := by omega
  by_cases h4 : 200 < s.size
  · have h4i : (200 : Int) < s.size := by omega
    refine xc_two fun N1 hN1 => ?_
    refine xc_reg1 1 rfl fun K hK => ?_
    simp only [show (List.range 1).map (·, true) = [(0, true)] from rfl, rslv_cons, rslv_nil, List.getElem?_toArray, List.getElem?_cons_zero, List.getElem?_cons_succ, gres]
    (refine seqX_hide2 fun R hR => ?_; simp [go_sem, h1, h1i, h2, h2i, h3, h3i, h4, h4i]; refine hR _ _ _ ?_; clear hR R)
    rw [seqX_nil]
    refine hK _ _ _ ?_; clear hK K
    refine hN1 _ _ _ ?_
    refine xc_two fun N2 hN2 => ?_
    refine xc_two fun N3 hN3 => ?_
    refine xc_reg1 8 rfl fun K hK => ?_
    simp only [show (List.range 8).map (·, true) = [(0, true), (1, true), (2, true), (3, true), (4, true), (5, true), (6, true), (7, true)] from rfl, rslv_cons, rslv_nil, List.getElem?_toArray, List.getElem?_cons_zero, List.getElem?_cons_succ, gres]
    iterate 8 (refine seqX_hide2 fun R hR => ?_; simp [go_sem, h1, h1i, h2, h2i, h3, h3i, h4, h4i]; refine hR _ _ _ ?_; clear hR R)
    rw [seqX_nil]
    refine hK _ _ _ ?_; clear hK K
    refine hN3 _ _ _ ?_
    refine xc_iffalse (by simp [go_sem, h1, h1i, h2, h2i, h3, h3i, h4, h4i]) ?_
    refine hN2 _ _ _ ?_
    refine xc_two fun N4 hN4 => ?_
    refine xc_two fun N5 hN5 => ?_
    refine xc_reg1 18 rfl fun K hK => ?_
    simp only [show (List.range 18).map (·, true) = [(0, true), (1, true), (2, true), (3, true), (4, true), (5, true), (6, true), (7, true), (8, true), (9, true), (10, true), (11, true), (12, true), (13, true), (14, true), (15, true), (16, true), (17, true)] from rfl, rslv_cons, rslv_nil, List.getElem?_toArray, List.getElem?_cons_zero, List.getElem?_cons_succ, gres]
    iterate 10 (refine seqX_hide2 fun R hR => ?_; simp [go_sem, h1, h1i, h2, h2i, h3, h3i, h4, h4i]; refine hR _ _ _ ?_; clear hR R)
    refine seqX_hide2 fun R hR => ?_
    simp [go_sem, h1, h1i, h2, h2i, h3, h3i, h4, h4i]
    refine hR _ _ _ ?_; clear hR R
    iterate 4 (refine seqX_hide2 fun R hR => ?_; simp [go_sem, h1, h1i, h2, h2i, h3, h3i, h4, h4i]; refine hR _ _ _ ?_; clear hR R)
    refine seqX_hide2 fun R hR => ?_
    simp [go_sem, h1, h1i, h2, h2i, h3, h3i, h4, h4i]
    refine hR _ _ _ ?_; clear hR R
    iterate 2 (refine seqX_hide2 fun R hR => ?_; simp [go_sem, h1, h1i, h2, h2i, h3, h3i, h4, h4i]; refine hR _ _ _ ?_; clear hR R)
    rw [seqX_nil]
    refine hK _ _ _ ?_; clear hK K
    refine hN5 _ _ _ ?_
    refine xc_iftrue (by simp [go_sem, h1, h1i, h2, h2i, h3, h3i, h4, h4i]) ?_
    refine xc_two fun N6 hN6 => ?_
    refine xc_reg1 1 rfl fun K hK => ?_
    simp only [show (List.range 1).map (·, true) = [(0, true)] from rfl, rslv_cons, rslv_nil, List.getElem?_toArray, List.getElem?_cons_zero, List.getElem?_cons_succ, gres]
    (refine seqX_hide2 fun R hR => ?_; simp [go_sem, h1, h1i, h2, h2i, h3, h3i, h4, h4i]; refine hR _ _ _ ?_; clear hR R)
    rw [seqX_nil]
    refine hK _ _ _ ?_; clear hK K
    refine hN6 _ _ _ ?_
    simp [go_sem, h1, h1i, h2, h2i, h3, h3i, h4, h4i]
    exact View.le_refl _
  have h4i : ¬ (200 : Int) < s.size := by omega
  refine xc_two fun N1 hN1 => ?_
  refine xc_reg1 1 rfl fun K hK => ?_
  simp only [show (List.range 1).map (·, true) = [(0, true)] from rfl, rslv_cons, rslv_nil, List.getElem?_toArray, List.getElem?_cons_zero, List.getElem?_cons_succ, gres]
  (refine seqX_hide2 fun R hR => ?_; simp [go_sem, h1, h1i, h2, h2i, h3, h3i, h4, h4i]; refine hR _ _ _ ?_; clear hR R)
  rw [seqX_nil]
  refine hK _ _ _ ?_; clear hK K
  refine hN1 _ _ _ ?_
  refine xc_two fun N2 hN2 => ?_
  refine xc_two fun N3 hN3 => ?_
  refine xc_reg1 8 rfl fun K hK => ?_
  simp only [show (List.range 8).map (·, true) = [(0, true), (1, true), (2, true), (3, true), (4, true), (5, true), (6, true), (7, true)] from rfl, rslv_cons, rslv_nil, List.getElem?_toArray, List.getElem?_cons_zero, List.getElem?_cons_succ, gres]
  iterate 8 (refine seqX_hide2 fun R hR => ?_; simp [go_sem, h1, h1i, h2, h2i, h3, h3i, h4, h4i]; refine hR _ _ _ ?_; clear hR R)
  rw [seqX_nil]
  refine hK _ _ _ ?_; clear hK K
  refine hN3 _ _ _ ?_
  refine xc_iffalse (by simp [go_sem, h1, h1i, h2, h2i, h3, h3i, h4, h4i]) ?_
  refine hN2 _ _ _ ?_
  refine xc_two fun N4 hN4 => ?_
  refine xc_two fun N5 hN5 => ?_
  refine xc_reg1 18 rfl fun K hK => ?_
  simp only [show (List.range 18).map (·, true) = [(0, true), (1, true), (2, true), (3, true), (4, true), (5, true), (6, true), (7, true), (8, true), (9, true), (10, true), (11, true), (12, true), (13, true), (14, true), (15, true), (16, true), (17, true)] from rfl, rslv_cons, rslv_nil, List.getElem?_toArray, List.getElem?_cons_zero, List.getElem?_cons_succ, gres]
  iterate 10 (refine seqX_hide2 fun R hR => ?_; simp [go_sem, h1, h1i, h2, h2i, h3, h3i, h4, h4i]; refine hR _ _ _ ?_; clear hR R)
  refine seqX_hide2 fun R hR => ?_
  simp [go_sem, h1, h1i, h2, h2i, h3, h3i, h4, h4i]
  refine call_same hP (ascii5 A p (by omega)) ?_
  rintro _ ⟨b, rfl, hap⟩
  cases b with
  | false =>
    refine hR _ _ _ ?_; clear hR R
    iterate 4 (refine seqX_hide2 fun R hR => ?_; simp [go_sem, h1, h1i, h2, h2i, h3, h3i, h4, h4i]; refine hR _ _ _ ?_; clear hR R)
    refine seqX_hide2 fun R hR => ?_
    simp [go_sem, h1, h1i, h2, h2i, h3, h3i, h4, h4i]
    refine hR _ _ _ ?_; clear hR R
    iterate 2 (refine seqX_hide2 fun R hR => ?_; simp [go_sem, h1, h1i, h2, h2i, h3, h3i, h4, h4i]; refine hR _ _ _ ?_; clear hR R)
    rw [seqX_nil]
    refine hK _ _ _ ?_; clear hK K
    refine hN5 _ _ _ ?_
    refine xc_iftrue (by simp [go_sem, h1, h1i, h2, h2i, h3, h3i, h4, h4i]) ?_
    refine xc_two fun N6 hN6 => ?_
    refine xc_reg1 1 rfl fun K hK => ?_
    simp only [show (List.range 1).map (·, true) = [(0, true)] from rfl, rslv_cons, rslv_nil, List.getElem?_toArray, List.getElem?_cons_zero, List.getElem?_cons_succ, gres]
    (refine seqX_hide2 fun R hR => ?_; simp [go_sem, h1, h1i, h2, h2i, h3, h3i, h4, h4i]; refine hR _ _ _ ?_; clear hR R)
    rw [seqX_nil]
    refine hK _ _ _ ?_; clear hK K
    refine hN6 _ _ _ ?_
    simp [go_sem, h1, h1i, h2, h2i, h3, h3i, h4, h4i]
    exact View.le_refl _
  | true =>
  have hap := hap rfl
  refine hR _ _ _ ?_; clear hR R
  iterate 4 (refine seqX_hide2 fun R hR => ?_; simp [go_sem, h1, h1i, h2, h2i, h3, h3i, h4, h4i]; refine hR _ _ _ ?_; clear hR R)
  refine seqX_hide2 fun R hR => ?_
  simp [go_sem, h1, h1i, h2, h2i, h3, h3i, h4, h4i]
  refine call_same hP (ascii5 A s (by omega)) ?_
  rintro _ ⟨b, rfl, has⟩
  cases b with
  | false =>
    refine hR _ _ _ ?_; clear hR R
    iterate 2 (refine seqX_hide2 fun R hR => ?_; simp [go_sem, h1, h1i, h2, h2i, h3, h3i, h4, h4i]; refine hR _ _ _ ?_; clear hR R)
    rw [seqX_nil]
    refine hK _ _ _ ?_; clear hK K
    refine hN5 _ _ _ ?_
    refine xc_iftrue (by simp [go_sem, h1, h1i, h2, h2i, h3, h3i, h4, h4i]) ?_
    refine xc_two fun N6 hN6 => ?_
    refine xc_reg1 1 rfl fun K hK => ?_
    simp only [show (List.range 1).map (·, true) = [(0, true)] from rfl, rslv_cons, rslv_nil, List.getElem?_toArray, List.getElem?_cons_zero, List.getElem?_cons_succ, gres]
    (refine seqX_hide2 fun R hR => ?_; simp [go_sem, h1, h1i, h2, h2i, h3, h3i, h4, h4i]; refine hR _ _ _ ?_; clear hR R)
    rw [seqX_nil]
    refine hK _ _ _ ?_; clear hK K
    refine hN6 _ _ _ ?_
    simp [go_sem, h1, h1i, h2, h2i, h3, h3i, h4, h4i]
    exact View.le_refl _
  | true =>
  have has := has rfl
  refine hR _ _ _ ?_; clear hR R
  iterate 2 (refine seqX_hide2 fun R hR => ?_; simp [go_sem, h1, h1i, h2, h2i, h3, h3i, h4, h4i]; refine hR _ _ _ ?_; clear hR R)
  rw [seqX_nil]
  refine hK _ _ _ ?_; clear hK K
  refine hN5 _ _ _ ?_
  refine xc_iffalse (by simp [go_sem, h1, h1i, h2, h2i, h3, h3i, h4, h4i]) ?_
  refine hN4 _ _ _ ?_
  refine xc_two fun N6 hN6 => ?_
  refine xc_two fun N7 hN7 => ?_
  have rest : ∀  (e : Env), Priv A [] → e 0 = .string p → e 1 = .string s → (47 ∉ nb s ∨ 91 ∉ nb p) → N6 e [] (ov A []) := by
    clear hP
    intro e hP g0 g1 hsl
    refine hN6 _ _ _ ?_
    refine xc_two fun N8 hN8 => ?_
    refine xc_reg1 8 rfl fun K hK => ?_
    simp only [show (List.range 8).map (·, true) = [(0, true), (1, true), (2, true), (3, true), (4, true), (5, true), (6, true), (7, true)] from rfl, rslv_cons, rslv_nil, List.getElem?_toArray, List.getElem?_cons_zero, List.getElem?_cons_succ, gres]
    iterate 2 (refine seqX_hide2 fun R hR => ?_; simp [go_sem, h1, h1i, h2, h2i, h3, h3i, h4, h4i, g0, g1]; refine hR _ _ _ ?_; clear hR R)
    refine seqX_hide2 fun R hR => ?_
    simp [go_sem, h1, h1i, h2, h2i, h3, h3i, h4, h4i, g0, g1]
    refine call_ov hP (path7 A p s (by omega) (by omega) hap has) ?_
    clear hP
    rintro r1 D ⟨⟨res, hg, hr⟩, hAD⟩ hP
    have hrr : ∃ b f, r1 = .tuple #[.bool b, .int .i64 f] ∧ ((res = none ∧ b = false ∧ f = 1) ∨ (res = some b ∧ f = 0)) := by
      cases res with
      | none => exact ⟨false, 1, hr, .inl ⟨rfl, rfl, rfl⟩⟩
      | some b => exact ⟨b, 0, hr, .inr ⟨rfl, rfl⟩⟩
    obtain ⟨b, f, rfl, hbf⟩ := hrr
    refine hR _ _ _ ?_; clear hR R
    iterate 5 (refine seqX_hide2 fun R hR => ?_; simp [go_sem, h1, h1i, h2, h2i, h3, h3i, h4, h4i, g0, g1]; refine hR _ _ _ ?_; clear hR R)
    rw [seqX_nil]
    refine hK _ _ _ ?_; clear hK K
    refine hN8 _ _ _ ?_
    refine xc_two fun N9 hN9 => ?_
    refine xc_reg1 7 rfl fun K hK => ?_
    simp only [show (List.range 7).map (·, true) = [(0, true), (1, true), (2, true), (3, true), (4, true), (5, true), (6, true)] from rfl, rslv_cons, rslv_nil, List.getElem?_toArray, List.getElem?_cons_zero, List.getElem?_cons_succ, gres]
    (refine seqX_hide2 fun R hR => ?_; simp [go_sem, h1, h1i, h2, h2i, h3, h3i, h4, h4i, g0, g1]; refine hR _ _ _ ?_; clear hR R)
    refine seqX_hide2 fun R hR => ?_
    simp [go_sem, h1, h1i, h2, h2i, h3, h3i, h4, h4i, g0, g1]
    refine call_ov hP (pattern8 D p (by omega) hap) ?_
    clear hP
    rintro r2 D2 ⟨hpt, hD2⟩ hP
    have hAD2 := View.le_trans hAD hD2
    cases hpat : pat true (nb p) with
    | none =>
      rw [hpat] at hpt
      obtain ⟨v, rfl⟩ := hpt
      have hbad := hg.bad hpat
      rcases hbf with ⟨rfl, rfl, rfl⟩ | ⟨rfl, rfl⟩
      · skip
        refine hR _ _ _ ?_; clear hR R
        iterate 5 (refine seqX_hide2 fun R hR => ?_; simp [go_sem, h1, h1i, h2, h2i, h3, h3i, h4, h4i, g0, g1]; refine hR _ _ _ ?_; clear hR R)
        rw [seqX_nil]
        refine hK _ _ _ ?_; clear hK K
        refine hN9 _ _ _ ?_
        refine xc_two fun N10 hN10 => ?_
        refine xc_two fun N11 hN11 => ?_
        refine xc_reg1 2 rfl fun K hK => ?_
        simp only [show (List.range 2).map (·, true) = [(0, true), (1, true)] from rfl, rslv_cons, rslv_nil, List.getElem?_toArray, List.getElem?_cons_zero, List.getElem?_cons_succ, gres]
        iterate 2 (refine seqX_hide2 fun R hR => ?_; simp [go_sem, h1, h1i, h2, h2i, h3, h3i, h4, h4i, g0, g1]; refine hR _ _ _ ?_; clear hR R)
        rw [seqX_nil]
        refine hK _ _ _ ?_; clear hK K
        refine hN11 _ _ _ ?_
        refine xc_iftrue (by simp [go_sem, h1, h1i, h2, h2i, h3, h3i, h4, h4i, g0, g1]) ?_
        refine xc_two fun N12 hN12 => ?_
        refine xc_reg1 7 rfl fun K hK => ?_
        simp only [show (List.range 7).map (·, true) = [(0, true), (1, true), (2, true), (3, true), (4, true), (5, true), (6, true)] from rfl, rslv_cons, rslv_nil, List.getElem?_toArray, List.getElem?_cons_zero, List.getElem?_cons_succ, gres]
        iterate 7 (refine seqX_hide2 fun R hR => ?_; simp [go_sem, h1, h1i, h2, h2i, h3, h3i, h4, h4i, g0, g1]; refine hR _ _ _ ?_; clear hR R)
        rw [seqX_nil]
        refine hK _ _ _ ?_; clear hK K
        refine hN12 _ _ _ ?_
        simp [go_sem, h1, h1i, h2, h2i, h3, h3i, h4, h4i, g0, g1]
        exact hAD2
      · obtain rfl : b = false := by
          cases b with
          | false => rfl
          | true => exact absurd rfl hbad
        refine hR _ _ _ ?_; clear hR R
        iterate 5 (refine seqX_hide2 fun R hR => ?_; simp [go_sem, h1, h1i, h2, h2i, h3, h3i, h4, h4i, g0, g1]; refine hR _ _ _ ?_; clear hR R)
        rw [seqX_nil]
        refine hK _ _ _ ?_; clear hK K
        refine hN9 _ _ _ ?_
        refine xc_two fun N10 hN10 => ?_
        refine xc_two fun N11 hN11 => ?_
        refine xc_reg1 2 rfl fun K hK => ?_
        simp only [show (List.range 2).map (·, true) = [(0, true), (1, true)] from rfl, rslv_cons, rslv_nil, List.getElem?_toArray, List.getElem?_cons_zero, List.getElem?_cons_succ, gres]
        iterate 2 (refine seqX_hide2 fun R hR => ?_; simp [go_sem, h1, h1i, h2, h2i, h3, h3i, h4, h4i, g0, g1]; refine hR _ _ _ ?_; clear hR R)
        rw [seqX_nil]
        refine hK _ _ _ ?_; clear hK K
        refine hN11 _ _ _ ?_
        refine xc_iftrue (by simp [go_sem, h1, h1i, h2, h2i, h3, h3i, h4, h4i, g0, g1]) ?_
        refine xc_two fun N12 hN12 => ?_
        refine xc_reg1 7 rfl fun K hK => ?_
        simp only [show (List.range 7).map (·, true) = [(0, true), (1, true), (2, true), (3, true), (4, true), (5, true), (6, true)] from rfl, rslv_cons, rslv_nil, List.getElem?_toArray, List.getElem?_cons_zero, List.getElem?_cons_succ, gres]
        iterate 7 (refine seqX_hide2 fun R hR => ?_; simp [go_sem, h1, h1i, h2, h2i, h3, h3i, h4, h4i, g0, g1]; refine hR _ _ _ ?_; clear hR R)
        rw [seqX_nil]
        refine hK _ _ _ ?_; clear hK K
        refine hN12 _ _ _ ?_
        simp [go_sem, h1, h1i, h2, h2i, h3, h3i, h4, h4i, g0, g1]
        exact hAD2
    | some items =>
      rw [hpat] at hpt
      obtain ⟨v, rfl, hits⟩ := hpt
      obtain ⟨hnn, hiff⟩ := hg.good items hpat (slok_of hpat hsl)
      obtain ⟨hil, hcls⟩ := pat_cls_in true _ hpat
      rw [nb_len] at hil hcls
      rcases hbf with ⟨rfl, -, -⟩ | ⟨rfl, rfl⟩
      · exact absurd rfl hnn
      rw [Option.some.injEq] at hiff
      refine hR _ _ _ ?_; clear hR R
      iterate 5 (refine seqX_hide2 fun R hR => ?_; simp [go_sem, h1, h1i, h2, h2i, h3, h3i, h4, h4i, g0, g1]; refine hR _ _ _ ?_; clear hR R)
      rw [seqX_nil]
      refine hK _ _ _ ?_; clear hK K
      refine hN9 _ _ _ ?_
      refine xc_two fun N10 hN10 => ?_
      refine xc_two fun N11 hN11 => ?_
      refine xc_reg1 2 rfl fun K hK => ?_
      simp only [show (List.range 2).map (·, true) = [(0, true), (1, true)] from rfl, rslv_cons, rslv_nil, List.getElem?_toArray, List.getElem?_cons_zero, List.getElem?_cons_succ, gres]
      iterate 2 (refine seqX_hide2 fun R hR => ?_; simp [go_sem, h1, h1i, h2, h2i, h3, h3i, h4, h4i, g0, g1]; refine hR _ _ _ ?_; clear hR R)
      rw [seqX_nil]
      refine hK _ _ _ ?_; clear hK K
      refine hN11 _ _ _ ?_
      refine xc_iffalse (by simp [go_sem, h1, h1i, h2, h2i, h3, h3i, h4, h4i, g0, g1]) ?_
      refine hN10 _ _ _ ?_
      refine xc_two fun N12 hN12 => ?_
      refine xc_reg1 10 rfl fun K hK => ?_
      simp only [show (List.range 10).map (·, true) = [(0, true), (1, true), (2, true), (3, true), (4, true), (5, true), (6, true), (7, true), (8, true), (9, true)] from rfl, rslv_cons, rslv_nil, List.getElem?_toArray, List.getElem?_cons_zero, List.getElem?_cons_succ, gres]
      iterate 6 (refine seqX_hide2 fun R hR => ?_; simp [go_sem, h1, h1i, h2, h2i, h3, h3i, h4, h4i, g0, g1]; refine hR _ _ _ ?_; clear hR R)
      refine seqX_hide2 fun R hR => ?_
      simp [go_sem, h1, h1i, h2, h2i, h3, h3i, h4, h4i, g0, g1]
      refine call_ov hP (matches9 D2 v items s hits (by omega) (by omega) has (fun x hx n rs e => by subst e; have := (hcls n rs hx).2; omega)) ?_
      clear hP
      rintro _ D3 ⟨⟨b', rfl, hb'⟩, hD3⟩ hP
      obtain rfl : b = b' := by
        have := hiff.trans hb'.symm
        cases b <;> cases b' <;> simp at this ⊢
      refine hR _ _ _ ?_; clear hR R
      iterate 3 (refine seqX_hide2 fun R hR => ?_; simp [go_sem, h1, h1i, h2, h2i, h3, h3i, h4, h4i, g0, g1]; refine hR _ _ _ ?_; clear hR R)
      rw [seqX_nil]
      refine hK _ _ _ ?_; clear hK K
      refine hN12 _ _ _ ?_
      simp [go_sem, h1, h1i, h2, h2i, h3, h3i, h4, h4i, g0, g1]
      exact View.le_trans hAD2 hD3
  refine xc_reg1 6 rfl fun K hK => ?_
  simp only [show (List.range 6).map (·, true) = [(0, true), (1, true), (2, true), (3, true), (4, true), (5, true)] from rfl, rslv_cons, rslv_nil, List.getElem?_toArray, List.getElem?_cons_zero, List.getElem?_cons_succ, gres]
  (refine seqX_hide2 fun R hR => ?_; simp [go_sem, h1, h1i, h2, h2i, h3, h3i, h4, h4i]; refine hR _ _ _ ?_; clear hR R)
  refine seqX_hide2 fun R hR => ?_
  simp [go_sem, h1, h1i, h2, h2i, h3, h3i, h4, h4i]
  refine call_same hP (has6 A s 47 (by omega)) ?_
  rintro _ ⟨b, rfl, hb⟩
  cases b with
  | false =>
    refine hR _ _ _ ?_; clear hR R
    iterate 2 (refine seqX_hide2 fun R hR => ?_; simp [go_sem, h1, h1i, h2, h2i, h3, h3i, h4, h4i]; refine hR _ _ _ ?_; clear hR R)
    refine seqX_hide2 fun R hR => ?_
    simp [go_sem, h1, h1i, h2, h2i, h3, h3i, h4, h4i]
    refine hR _ _ _ ?_; clear hR R
    (refine seqX_hide2 fun R hR => ?_; simp [go_sem, h1, h1i, h2, h2i, h3, h3i, h4, h4i]; refine hR _ _ _ ?_; clear hR R)
    rw [seqX_nil]
    refine hK _ _ _ ?_; clear hK K
    refine hN7 _ _ _ ?_
    refine xc_iffalse (by simp [go_sem, h1, h1i, h2, h2i, h3, h3i, h4, h4i]) ?_
    exact rest  _ hP (by simp [go_sem, h1, h1i, h2, h2i, h3, h3i, h4, h4i]) (by simp [go_sem, h1, h1i, h2, h2i, h3, h3i, h4, h4i]) (.inl (hb rfl))
  | true =>
  refine hR _ _ _ ?_; clear hR R
  iterate 2 (refine seqX_hide2 fun R hR => ?_; simp [go_sem, h1, h1i, h2, h2i, h3, h3i, h4, h4i]; refine hR _ _ _ ?_; clear hR R)
  refine seqX_hide2 fun R hR => ?_
  simp [go_sem, h1, h1i, h2, h2i, h3, h3i, h4, h4i]
  refine call_same hP (has6 A p 91 (by omega)) ?_
  rintro _ ⟨b, rfl, hb⟩
  cases b with
  | true =>
    refine hR _ _ _ ?_; clear hR R
    (refine seqX_hide2 fun R hR => ?_; simp [go_sem, h1, h1i, h2, h2i, h3, h3i, h4, h4i]; refine hR _ _ _ ?_; clear hR R)
    rw [seqX_nil]
    refine hK _ _ _ ?_; clear hK K
    refine hN7 _ _ _ ?_
    refine xc_iftrue (by simp [go_sem, h1, h1i, h2, h2i, h3, h3i, h4, h4i]) ?_
    refine xc_two fun N8 hN8 => ?_
    refine xc_reg1 1 rfl fun K hK => ?_
    simp only [show (List.range 1).map (·, true) = [(0, true)] from rfl, rslv_cons, rslv_nil, List.getElem?_toArray, List.getElem?_cons_zero, List.getElem?_cons_succ, gres]
    (refine seqX_hide2 fun R hR => ?_; simp [go_sem, h1, h1i, h2, h2i, h3, h3i, h4, h4i]; refine hR _ _ _ ?_; clear hR R)
    rw [seqX_nil]
    refine hK _ _ _ ?_; clear hK K
    refine hN8 _ _ _ ?_
    simp [go_sem, h1, h1i, h2, h2i, h3, h3i, h4, h4i]
    exact View.le_refl _
  | false =>
  refine hR _ _ _ ?_; clear hR R
  (refine seqX_hide2 fun R hR => ?_; simp [go_sem, h1, h1i, h2, h2i, h3, h3i, h4, h4i]; refine hR _ _ _ ?_; clear hR R)
  rw [seqX_nil]
  refine hK _ _ _ ?_; clear hK K
  refine hN7 _ _ _ ?_
  refine xc_iffalse (by simp [go_sem, h1, h1i, h2, h2i, h3, h3i, h4, h4i]) ?_
  exact rest  _ hP (by simp [go_sem, h1, h1i, h2, h2i, h3, h3i, h4, h4i]) (by simp [go_sem, h1, h1i, h2, h2i, h3, h3i, h4, h4i]) (.inr (hb rfl))
theorem law3 (W : World) (a : ByteArray) (wa : a.size ≤ 140737488351232) (b : ByteArray) (wb : b.size ≤ 140737488351232) : VCalls Tryd.prog 3 #[.string a, .string b] (full W) fun r A' => r = .bool true ∧ full W ≤ A' :=
  paths3 (full W) a b
end Go.Proofs.YthjbgpmcfcijgaaDoorV

/- Shell patterns: matchChunk. -/
import Derived.Test.YthjbgpmcfcijgaaDoorPG
namespace Go.Proofs.YthjbgpmcfcijgaaDoorV
open Go.RowKit
open Pm (nb nb_len nb_get nb_drop nb_nil nb_cons nb_extract extract_size' pat out takes cls1 clsGo rng chr1)
set_option linter.unusedSimpArgs false
set_option linter.unusedVariables false
/-- What matchChunk gives. -/
def McR (q : Option (Option (List Nat))) (r : Value) : Prop := match q with
  | none => ∃ i y, r = .tuple #[.string ⟨#[]⟩, .bool false, .iface i y]
  | some none => r = .tuple #[.string ⟨#[]⟩, .bool false, .nilIface]
  | some (some l) => ∃ t, r = .tuple #[.string t, .bool true, .nilIface] ∧ nb t = l
theorem cls1_neg {c2 : List Nat} : cls1 (94 :: c2) = (clsGo c2 []).map fun p => (.cls true p.1, p.2) := rfl
theorem cls1_pos {l : List Nat} (h : ∀ r, l ≠ 94 :: r) : cls1 l = (clsGo l []).map fun p => (.cls false p.1, p.2) := by
  unfold cls1
  split
  · rename_i r; exact absurd rfl (h r)
  · rfl
theorem clsGo_none {l : List Nat} {rs : List (Nat × Nat)} (h : rng l = none) (h2 : ∀ r, l = 93 :: r → rs = []) : clsGo l rs = none := by
  cases l with
  | nil => rw [clsGo]
  | cons c t =>
    rw [clsGo, if_neg (fun hx => hx.2 (h2 t (by rw [hx.1])))]
    split
    · rfl
    · rename_i h'; rw [h] at h'; cases h'
theorem clsGo_end {r : List Nat} {rs : List (Nat × Nat)} (h : rs ≠ []) : clsGo (93 :: r) rs = some (rs, r) := by
  rw [clsGo, if_pos ⟨rfl, h⟩]
theorem rng_of {l r : List Nat} {lo : Nat} (h : chr1 l = some (lo, r)) : (∀ t, r ≠ 45 :: t) → rng l = some ((lo, lo), r) := by
  intro hn
  unfold rng
  rw [h]
  simp only
theorem rng_of2 {l t : List Nat} {lo : Nat} (h : chr1 l = some (lo, 45 :: t)) : rng l = (match chr1 t with | none => none | some (hi, q) => some ((lo, hi), q)) := by
  unfold rng
  rw [h]
  rfl
theorem rng_of0 {l : List Nat} (h : chr1 l = none) : rng l = none := by
  unfold rng
  rw [h]
def inR (r : Nat) (rs : List (Nat × Nat)) : Bool := rs.any fun x => decide (x.1 ≤ r) && decide (r ≤ x.2)
theorem inR_push (r : Nat) (rs : List (Nat × Nat)) (lo hi : Nat) : inR r (rs ++ [(lo, hi)]) = (inR r rs || (decide (lo ≤ r) && decide (r ≤ hi))) := by
  unfold inR
  rw [List.any_append]
  simp
theorem takes_cls (n : Bool) (rs : List (Nat × Nat)) (r : Nat) : (!takes (.cls n rs) r) = (inR r rs == n) := by
  show (!(inR r rs != n)) = _
  cases inR r rs <;> cases n <;> rfl
theorem asc_of {s : ByteArray} {l : List Nat} (h : nb s = l) (h2 : ∀ c ∈ l, c < 128) : Asc s := fun c hc => h2 c (h ▸ hc)
theorem chr1_mem {l q : List Nat} {c : Nat} (h : chr1 l = some (c, q)) : (∀ x ∈ q, x ∈ l) ∧ c ∈ l := by
  obtain ⟨p, rfl, hp, -, h4⟩ := Pm.chr1_scan h
  refine ⟨fun x hx => by simp [hx], ?_⟩
  unfold chr1 at h
  split at h
  · cases h
  · rename_i a b he
    split at h
    · cases h
    · split at h
      · split at h
        · simp only [Option.some.injEq, Prod.mk.injEq] at h
          rw [he, ← h.1]; simp
        · cases h
      · split at h
        · simp only [Option.some.injEq, Prod.mk.injEq] at h
          rw [he, ← h.1]; simp
        · cases h
set_option maxRecDepth 20000 in
set_option maxHeartbeats 8000000 in
theorem chunk43 (A : View) (ch s0 : ByteArray) (hs1 : ch.size ≤ 1000000) (hs2 : s0.size ≤ 1000000) (ha1 : Asc ch) (ha2 : Asc s0) : VCalls Tryd.prog 43 #[.string ch, .string s0] A fun r A' => McR (out false (nb ch) (nb s0)) r ∧ A ≤ A' := by
  generalize hK0 : out false (nb ch) (nb s0) = K0
  refine xcalls Tryd.func43 rfl (by simp [Tryd.ntmps43]) ?_
  simp only [Tryd.f43]
  have hP : Priv A (addrs []) := Priv.nil A
  show xc _ _ _ _ _ _ (ov A [])
  refine xc_two fun N1 hN1 => ?_
  refine xc_reg1 3 rfl fun K hK => ?_
  simp only [show (List.range 3).map (·, true) = [(0, true), (1, true), (2, true)] from rfl, rslv_cons, rslv_nil, List.getElem?_toArray, List.getElem?_cons_zero, List.getElem?_cons_succ, gres]
  iterate 3 (refine seqX_hide2 fun R hR => ?_; simp [go_sem]; refine hR _ _ _ ?_; clear hR R)
  rw [seqX_nil]
  refine hK _ _ _ ?_; clear hK K
  refine hN1 _ _ _ ?_
  refine xc_two fun N2 hN2 => ?_
  refine xc_reg1 1 rfl fun K hK => ?_
  simp only [show (List.range 1).map (·, true) = [(0, true)] from rfl, rslv_cons, rslv_nil, List.getElem?_toArray, List.getElem?_cons_zero, List.getElem?_cons_succ, gres]
  (refine seqX_hide2 fun R hR => ?_; simp [go_sem]; refine hR _ _ _ ?_; clear hR R)
  rw [seqX_nil]
  refine hK _ _ _ ?_; clear hK K
  refine hN2 _ _ _ ?_
  refine xc_two fun N3 hN3 => ?_
  rw [xc_block]
  rw [xc_loop]
  refine vloopK (fun k' e ds A' => ∃ (c : ByteArray) (s : ByteArray) (f : Bool) (D : View), k' = c.size ∧ ds = [] ∧ A' = ov D [] ∧ Priv D [] ∧ e 0 = .string c ∧ e 1 = .string s ∧ e 7 = .bool f ∧ (A ≤ D) ∧ (c.size ≤ 1000000) ∧ (s.size ≤ 1000000) ∧ (Asc c) ∧ (Asc s) ∧ (out f (nb c) (nb s) = K0)) _ ⟨ch, s0, false, A, rfl, rfl, rfl, hP, by simp [go_sem], by simp [go_sem], by simp [go_sem], View.le_refl _, hs1, hs2, ha1, ha2, hK0⟩ ?_
  clear hP
  rintro k' e ds A' ⟨c, s, f, D, rfl, rfl, hV, hP, g0, g1, g7, hAD, hcs, hss, hac, has, hout⟩ J1 X1 hJ1 hX1
  refine xc_sound _ ?_
  replace hV := Eq.symm hV; subst hV; replace hP : Priv D (addrs []) := hP
  by_cases h0 : 0 < c.size
  rotate_left
  · have hz : c.size = 0 := by omega
    have hz0 : ¬ (0 : Int) < c.size := by omega
    have hn : nb c = [] := nb_nil.2 hz
    rw [hn, Pm.out_nil] at hout
    refine xc_two fun N4 hN4 => ?_
    refine xc_two fun N5 hN5 => ?_
    refine xc_reg1 3 rfl fun K hK => ?_
    simp only [show (List.range 3).map (·, true) = [(0, true), (1, true), (2, true)] from rfl, rslv_cons, rslv_nil, List.getElem?_toArray, List.getElem?_cons_zero, List.getElem?_cons_succ, gres]
    iterate 3 (refine seqX_hide2 fun R hR => ?_; simp [go_sem, g0, g1, g7, hz, h0, hz0]; refine hR _ _ _ ?_; clear hR R)
    rw [seqX_nil]
    refine hK _ _ _ ?_; clear hK K
    refine hN5 _ _ _ ?_
    refine xc_iffalse (by simp [go_sem, g0, g1, g7, hz, h0, hz0]) ?_
    refine hX1 _ _ _ _ ?_
    refine hN3 _ _ _ ?_
    refine xc_two fun N6 hN6 => ?_
    refine xc_two fun N7 hN7 => ?_
    refine xc_reg1 1 rfl fun K hK => ?_
    simp only [show (List.range 1).map (·, true) = [(0, true)] from rfl, rslv_cons, rslv_nil, List.getElem?_toArray, List.getElem?_cons_zero, List.getElem?_cons_succ, gres]
    (refine seqX_hide2 fun R hR => ?_; simp [go_sem, g0, g1, g7, hz, h0, hz0]; refine hR _ _ _ ?_; clear hR R)
    rw [seqX_nil]
    refine hK _ _ _ ?_; clear hK K
    refine hN7 _ _ _ ?_
    cases f with
    | true =>
      refine xc_iftrue (by simp [go_sem, g0, g1, g7, hz, h0, hz0]) ?_
      refine xc_two fun N8 hN8 => ?_
      refine xc_reg1 3 rfl fun K hK => ?_
      simp only [show (List.range 3).map (·, true) = [(0, true), (1, true), (2, true)] from rfl, rslv_cons, rslv_nil, List.getElem?_toArray, List.getElem?_cons_zero, List.getElem?_cons_succ, gres]
      iterate 3 (refine seqX_hide2 fun R hR => ?_; simp [go_sem, g0, g1, g7, hz, h0, hz0]; refine hR _ _ _ ?_; clear hR R)
      rw [seqX_nil]
      refine hK _ _ _ ?_; clear hK K
      refine hN8 _ _ _ ?_
      simp [go_sem, g0, g1, g7, hz, h0, hz0]
      rw [← hout]
      exact ⟨rfl, hAD⟩
    | false =>
      refine xc_iffalse (by simp [go_sem, g0, g1, g7, hz, h0, hz0]) ?_
      refine hN6 _ _ _ ?_
      refine xc_two fun N8 hN8 => ?_
      refine xc_reg1 4 rfl fun K hK => ?_
      simp only [show (List.range 4).map (·, true) = [(0, true), (1, true), (2, true), (3, true)] from rfl, rslv_cons, rslv_nil, List.getElem?_toArray, List.getElem?_cons_zero, List.getElem?_cons_succ, gres]
      iterate 4 (refine seqX_hide2 fun R hR => ?_; simp [go_sem, g0, g1, g7, hz, h0, hz0]; refine hR _ _ _ ?_; clear hR R)
      rw [seqX_nil]
      refine hK _ _ _ ?_; clear hK K
      refine hN8 _ _ _ ?_
      simp [go_sem, g0, g1, g7, hz, h0, hz0]
      rw [← hout]
      exact ⟨⟨s, rfl, rfl⟩, hAD⟩
  · have hz0 : (0 : Int) < c.size := by omega
    have hg : c[0]? = some c[0] := getElem?_pos c 0 h0
    have h1s : 1 ≤ c.size := by omega
    have h1i : (1 : Int) ≤ c.size := by omega
    have hcons := nb_cons h0
    have hex := extract_size' c 1 (by omega)
    have hac1 := hac.drop 1
    refine xc_two fun N4 hN4 => ?_
    refine xc_two fun N5 hN5 => ?_
    refine xc_reg1 3 rfl fun K hK => ?_
    simp only [show (List.range 3).map (·, true) = [(0, true), (1, true), (2, true)] from rfl, rslv_cons, rslv_nil, List.getElem?_toArray, List.getElem?_cons_zero, List.getElem?_cons_succ, gres]
    iterate 3 (refine seqX_hide2 fun R hR => ?_; simp [go_sem, g0, g1, g7, hz0, h0, hg, h1s, h1i, xindex, xslice]; refine hR _ _ _ ?_; clear hR R)
    rw [seqX_nil]
    refine hK _ _ _ ?_; clear hK K
    refine hN5 _ _ _ ?_
    refine xc_iftrue (by simp [go_sem, g0, g1, g7, hz0, h0, hg, h1s, h1i, xindex, xslice]) ?_
    refine hN4 _ _ _ ?_
    rw [xc_block]
    refine xc_two fun N6 hN6 => ?_
    have mid : ∀ (f : Bool) (e : Env), Priv D [] → e 0 = .string c → e 1 = .string s → e 7 = .bool f → (f = false → 0 < s.size) → (out f (nb c) (nb s) = K0) → N6 e [] (ov D []) := by
      clear g0 g1 g7
      clear hP
      intro f e hP g0 g1 g7 hfs hout
      refine hN6 _ _ _ ?_
      refine xc_two fun N7 hN7 => ?_
      refine xc_reg1 2 rfl fun K hK => ?_
      simp only [show (List.range 2).map (·, true) = [(0, true), (1, true)] from rfl, rslv_cons, rslv_nil, List.getElem?_toArray, List.getElem?_cons_zero, List.getElem?_cons_succ, gres]
      iterate 2 (refine seqX_hide2 fun R hR => ?_; simp [go_sem, hz0, h0, hg, h1s, h1i, xindex, xslice, g0, g1, g7]; refine hR _ _ _ ?_; clear hR R)
      rw [seqX_nil]
      refine hK _ _ _ ?_; clear hK K
      refine hN7 _ _ _ ?_
      rw [xc_block]
      refine xc_two fun N8 hN8 => ?_
      rw [xc_block]
      refine xc_two fun N9 hN9 => ?_
      rw [xc_block]
      refine xc_two fun N10 hN10 => ?_
      rw [xc_block]
      refine xc_two fun N11 hN11 => ?_
      rw [xc_block]
      refine xc_two fun N12 hN12 => ?_
      refine xc_two fun N13 hN13 => ?_
      refine xc_two fun N14 hN14 => ?_
      have dfl : ∀ (c2 : ByteArray) (e : Env), Priv D [] → e 0 = .string c2 → e 1 = .string s → e 7 = .bool f → (c2.size ≤ c.size) → (Asc c2) → (∃ h02 : 0 < c2.size, pat false (nb c) = (pat false (nb (c2.extract 1 c2.size))).map (.chr c2[0].toNat :: ·)) → N8 e [] (ov D []) := by
        clear g0 g1 g7
        clear hP
        intro c2 e hP g0 g1 g7 hc2s hac2 hp2'
        refine hN8 _ _ _ ?_
        obtain ⟨h02, hp2⟩ := hp2'
        have hz02 : (0 : Int) < c2.size := by omega
        have hg2 : c2[0]? = some c2[0] := getElem?_pos c2 0 h02
        have h1s2 : 1 ≤ c2.size := by omega
        have h1i2 : (1 : Int) ≤ c2.size := by omega
        have hex2 := extract_size' c2 1 (by omega)
        obtain ⟨o1, o2⟩ := Pm.out_item hp2 f (nb s)
        cases f with
        | true =>
          refine xc_two fun N15 hN15 => ?_
          refine xc_two fun N16 hN16 => ?_
          refine xc_two fun N17 hN17 => ?_
          refine xc_reg1 2 rfl fun K hK => ?_
          simp only [show (List.range 2).map (·, true) = [(0, true), (1, true)] from rfl, rslv_cons, rslv_nil, List.getElem?_toArray, List.getElem?_cons_zero, List.getElem?_cons_succ, gres]
          iterate 2 (refine seqX_hide2 fun R hR => ?_; simp [go_sem, hz0, h0, hg, h1s, h1i, xindex, xslice, g0, g1, g7, hz02, h02, hg2, h1s2, h1i2]; refine hR _ _ _ ?_; clear hR R)
          rw [seqX_nil]
          refine hK _ _ _ ?_; clear hK K
          refine hN17 _ _ _ ?_
          refine xc_iffalse (by simp [go_sem, hz0, h0, hg, h1s, h1i, xindex, xslice, g0, g1, g7, hz02, h02, hg2, h1s2, h1i2]) ?_
          refine hN16 _ _ _ ?_
          refine xc_reg1 3 rfl fun K hK => ?_
          simp only [show (List.range 3).map (·, true) = [(0, true), (1, true), (2, true)] from rfl, rslv_cons, rslv_nil, List.getElem?_toArray, List.getElem?_cons_zero, List.getElem?_cons_succ, gres]
          iterate 3 (refine seqX_hide2 fun R hR => ?_; simp [go_sem, hz0, h0, hg, h1s, h1i, xindex, xslice, g0, g1, g7, hz02, h02, hg2, h1s2, h1i2]; refine hR _ _ _ ?_; clear hR R)
          rw [seqX_nil]
          refine hK _ _ _ ?_; clear hK K
          refine hN15 _ _ _ ?_
          refine hJ1 ((c2.extract 1 c2.size).size) _ _ _ (by rw [hex2]; omega) ⟨c2.extract 1 c2.size, s, true, D, rfl, rfl, rfl, hP, by simp [go_sem, hz0, h0, hg, h1s, h1i, xindex, xslice, g0, g1, g7, hz02, h02, hg2, h1s2, h1i2], by simp [go_sem, hz0, h0, hg, h1s, h1i, xindex, xslice, g0, g1, g7, hz02, h02, hg2, h1s2, h1i2], by simp [go_sem, hz0, h0, hg, h1s, h1i, xindex, xslice, g0, g1, g7, hz02, h02, hg2, h1s2, h1i2], hAD, by omega, hss, hac2.drop 1, has, by rw [← hout, o1 rfl]⟩
        | false =>
          have hs0 := hfs rfl
          have hgs : s[0]? = some s[0] := getElem?_pos s 0 hs0
          have h1ss : 1 ≤ s.size := by omega
          have h1is : (1 : Int) ≤ s.size := by omega
          have hconss := nb_cons hs0
          have hexs := extract_size' s 1 (by omega)
          by_cases hcs0 : c2[0].toNat = s[0].toNat
          · have hb : ((c2[0].toNat : Int) == (s[0].toNat : Int)) = true := by simp [hcs0]
            refine xc_two fun N15 hN15 => ?_
            refine xc_two fun N16 hN16 => ?_
            refine xc_two fun N17 hN17 => ?_
            refine xc_reg1 2 rfl fun K hK => ?_
            simp only [show (List.range 2).map (·, true) = [(0, true), (1, true)] from rfl, rslv_cons, rslv_nil, List.getElem?_toArray, List.getElem?_cons_zero, List.getElem?_cons_succ, gres]
            iterate 2 (refine seqX_hide2 fun R hR => ?_; simp [go_sem, hz0, h0, hg, h1s, h1i, xindex, xslice, g0, g1, g7, hz02, h02, hg2, h1s2, h1i2, hgs, h1ss, h1is, hs0, hcs0, hb]; refine hR _ _ _ ?_; clear hR R)
            rw [seqX_nil]
            refine hK _ _ _ ?_; clear hK K
            refine hN17 _ _ _ ?_
            refine xc_iftrue (by simp [go_sem, hz0, h0, hg, h1s, h1i, xindex, xslice, g0, g1, g7, hz02, h02, hg2, h1s2, h1i2, hgs, h1ss, h1is, hs0, hcs0, hb]) ?_
            refine xc_two fun N18 hN18 => ?_
            rw [xc_draws]
            refine vdrawK [(0, true), (1, true), (2, true), (3, true), (4, true), (5, true)] (ov D []) mixed (by kernel_rfl) (View.le_refl _) fun K hK => ?_
            simp only [rslv_cons, rslv_nil, List.getElem?_toArray, List.getElem?_cons_zero, List.getElem?_cons_succ, gres]
            iterate 6 (refine seqR_hide fun R hR => ?_; simp [go_sem, hz0, h0, hg, h1s, h1i, xindex, xslice, g0, g1, g7, hz02, h02, hg2, h1s2, h1i2, hgs, h1ss, h1is, hs0, hcs0, hb]; refine hR _ _ _ ?_; clear hR R)
            rw [seqR_nil]
            refine hK _ _ _ ?_; clear hK K
            refine hN18 _ _ _ ?_
            refine xc_reg1 3 rfl fun K hK => ?_
            simp only [show (List.range 3).map (·, true) = [(0, true), (1, true), (2, true)] from rfl, rslv_cons, rslv_nil, List.getElem?_toArray, List.getElem?_cons_zero, List.getElem?_cons_succ, gres]
            iterate 3 (refine seqX_hide2 fun R hR => ?_; simp [go_sem, hz0, h0, hg, h1s, h1i, xindex, xslice, g0, g1, g7, hz02, h02, hg2, h1s2, h1i2, hgs, h1ss, h1is, hs0, hcs0, hb]; refine hR _ _ _ ?_; clear hR R)
            rw [seqX_nil]
            refine hK _ _ _ ?_; clear hK K
            refine hN16 _ _ _ ?_
            refine xc_reg1 3 rfl fun K hK => ?_
            simp only [show (List.range 3).map (·, true) = [(0, true), (1, true), (2, true)] from rfl, rslv_cons, rslv_nil, List.getElem?_toArray, List.getElem?_cons_zero, List.getElem?_cons_succ, gres]
            iterate 3 (refine seqX_hide2 fun R hR => ?_; simp [go_sem, hz0, h0, hg, h1s, h1i, xindex, xslice, g0, g1, g7, hz02, h02, hg2, h1s2, h1i2, hgs, h1ss, h1is, hs0, hcs0, hb]; refine hR _ _ _ ?_; clear hR R)
            rw [seqX_nil]
            refine hK _ _ _ ?_; clear hK K
            refine hN15 _ _ _ ?_
            refine hJ1 ((c2.extract 1 c2.size).size) _ _ _ (by rw [hex2]; omega) ⟨c2.extract 1 c2.size, s.extract 1 s.size, false, D, rfl, rfl, rfl, hP, by simp [go_sem, hz0, h0, hg, h1s, h1i, xindex, xslice, g0, g1, g7, hz02, h02, hg2, h1s2, h1i2, hgs, h1ss, h1is, hs0, hcs0, hb], by simp [go_sem, hz0, h0, hg, h1s, h1i, xindex, xslice, g0, g1, g7, hz02, h02, hg2, h1s2, h1i2, hgs, h1ss, h1is, hs0, hcs0, hb], by simp [go_sem, hz0, h0, hg, h1s, h1i, xindex, xslice, g0, g1, g7, hz02, h02, hg2, h1s2, h1i2, hgs, h1ss, h1is, hs0, hcs0, hb], hAD, by omega, by omega, hac2.drop 1, has.drop 1, by rw [← hout, o2 _ _ rfl hconss]; simp [takes, hcs0]⟩
          · have hb : ((c2[0].toNat : Int) == (s[0].toNat : Int)) = false := beq_eq_false_iff_ne.2 (by omega)
            have hbn : ¬ (c2[0].toNat : Int) = (s[0].toNat : Int) := by omega
            have htk : (!takes (.chr c2[0].toNat) s[0].toNat) = true := by
              simp only [takes, Bool.not_eq_true', beq_eq_false_iff_ne]
              exact fun h => hcs0 h.symm
            refine xc_two fun N15 hN15 => ?_
            refine xc_two fun N16 hN16 => ?_
            refine xc_two fun N17 hN17 => ?_
            refine xc_reg1 2 rfl fun K hK => ?_
            simp only [show (List.range 2).map (·, true) = [(0, true), (1, true)] from rfl, rslv_cons, rslv_nil, List.getElem?_toArray, List.getElem?_cons_zero, List.getElem?_cons_succ, gres]
            iterate 2 (refine seqX_hide2 fun R hR => ?_; simp [go_sem, hz0, h0, hg, h1s, h1i, xindex, xslice, g0, g1, g7, hz02, h02, hg2, h1s2, h1i2, hgs, h1ss, h1is, hs0, hcs0, hb, hbn]; refine hR _ _ _ ?_; clear hR R)
            rw [seqX_nil]
            refine hK _ _ _ ?_; clear hK K
            refine hN17 _ _ _ ?_
            refine xc_iftrue (by simp [go_sem, hz0, h0, hg, h1s, h1i, xindex, xslice, g0, g1, g7, hz02, h02, hg2, h1s2, h1i2, hgs, h1ss, h1is, hs0, hcs0, hb, hbn]) ?_
            refine xc_two fun N18 hN18 => ?_
            rw [xc_draws]
            refine vdrawK [(0, true), (1, true), (2, true), (3, true), (4, true), (5, true)] (ov D []) mixed (by kernel_rfl) (View.le_refl _) fun K hK => ?_
            simp only [rslv_cons, rslv_nil, List.getElem?_toArray, List.getElem?_cons_zero, List.getElem?_cons_succ, gres]
            iterate 6 (refine seqR_hide fun R hR => ?_; simp [go_sem, hz0, h0, hg, h1s, h1i, xindex, xslice, g0, g1, g7, hz02, h02, hg2, h1s2, h1i2, hgs, h1ss, h1is, hs0, hcs0, hb, hbn]; refine hR _ _ _ ?_; clear hR R)
            rw [seqR_nil]
            refine hK _ _ _ ?_; clear hK K
            refine hN18 _ _ _ ?_
            refine xc_reg1 3 rfl fun K hK => ?_
            simp only [show (List.range 3).map (·, true) = [(0, true), (1, true), (2, true)] from rfl, rslv_cons, rslv_nil, List.getElem?_toArray, List.getElem?_cons_zero, List.getElem?_cons_succ, gres]
            iterate 3 (refine seqX_hide2 fun R hR => ?_; simp [go_sem, hz0, h0, hg, h1s, h1i, xindex, xslice, g0, g1, g7, hz02, h02, hg2, h1s2, h1i2, hgs, h1ss, h1is, hs0, hcs0, hb, hbn]; refine hR _ _ _ ?_; clear hR R)
            rw [seqX_nil]
            refine hK _ _ _ ?_; clear hK K
            refine hN16 _ _ _ ?_
            refine xc_reg1 3 rfl fun K hK => ?_
            simp only [show (List.range 3).map (·, true) = [(0, true), (1, true), (2, true)] from rfl, rslv_cons, rslv_nil, List.getElem?_toArray, List.getElem?_cons_zero, List.getElem?_cons_succ, gres]
            iterate 3 (refine seqX_hide2 fun R hR => ?_; simp [go_sem, hz0, h0, hg, h1s, h1i, xindex, xslice, g0, g1, g7, hz02, h02, hg2, h1s2, h1i2, hgs, h1ss, h1is, hs0, hcs0, hb, hbn]; refine hR _ _ _ ?_; clear hR R)
            rw [seqX_nil]
            refine hK _ _ _ ?_; clear hK K
            refine hN15 _ _ _ ?_
            refine hJ1 ((c2.extract 1 c2.size).size) _ _ _ (by rw [hex2]; omega) ⟨c2.extract 1 c2.size, s.extract 1 s.size, true, D, rfl, rfl, rfl, hP, by simp [go_sem, hz0, h0, hg, h1s, h1i, xindex, xslice, g0, g1, g7, hz02, h02, hg2, h1s2, h1i2, hgs, h1ss, h1is, hs0, hcs0, hb, hbn], by simp [go_sem, hz0, h0, hg, h1s, h1i, xindex, xslice, g0, g1, g7, hz02, h02, hg2, h1s2, h1i2, hgs, h1ss, h1is, hs0, hcs0, hb, hbn], by simp [go_sem, hz0, h0, hg, h1s, h1i, xindex, xslice, g0, g1, g7, hz02, h02, hg2, h1s2, h1i2, hgs, h1ss, h1is, hs0, hcs0, hb, hbn], hAD, by omega, by omega, hac2.drop 1, has.drop 1, by rw [← hout, o2 _ _ rfl hconss, htk]⟩
      by_cases k1 : c[0].toNat = 91
      · have hc91 : nb c = 91 :: nb (c.extract 1 c.size) := by rw [hcons, k1]
        refine xc_reg1 2 rfl fun K hK => ?_
        simp only [show (List.range 2).map (·, true) = [(0, true), (1, true)] from rfl, rslv_cons, rslv_nil, List.getElem?_toArray, List.getElem?_cons_zero, List.getElem?_cons_succ, gres]
        iterate 2 (refine seqX_hide2 fun R hR => ?_; simp [go_sem, hz0, h0, hg, h1s, h1i, xindex, xslice, g0, g1, g7, k1]; refine hR _ _ _ ?_; clear hR R)
        rw [seqX_nil]
        refine hK _ _ _ ?_; clear hK K
        refine hN14 _ _ _ ?_
        refine xc_iftrue (by simp [go_sem, hz0, h0, hg, h1s, h1i, xindex, xslice, g0, g1, g7, k1]) ?_
        refine hN11 _ _ _ ?_
        refine xc_two fun N15 hN15 => ?_
        refine xc_two fun N16 hN16 => ?_
        refine xc_reg1 1 rfl fun K hK => ?_
        simp only [show (List.range 1).map (·, true) = [(0, true)] from rfl, rslv_cons, rslv_nil, List.getElem?_toArray, List.getElem?_cons_zero, List.getElem?_cons_succ, gres]
        (refine seqX_hide2 fun R hR => ?_; simp [go_sem, hz0, h0, hg, h1s, h1i, xindex, xslice, g0, g1, g7, k1]; refine hR _ _ _ ?_; clear hR R)
        rw [seqX_nil]
        refine hK _ _ _ ?_; clear hK K
        refine hN16 _ _ _ ?_
        refine xc_two fun N17 hN17 => ?_
        refine xc_two fun N18 hN18 => ?_
        refine xc_reg1 2 rfl fun K hK => ?_
        simp only [show (List.range 2).map (·, true) = [(0, true), (1, true)] from rfl, rslv_cons, rslv_nil, List.getElem?_toArray, List.getElem?_cons_zero, List.getElem?_cons_succ, gres]
        iterate 2 (refine seqX_hide2 fun R hR => ?_; simp [go_sem, hz0, h0, hg, h1s, h1i, xindex, xslice, g0, g1, g7, k1]; refine hR _ _ _ ?_; clear hR R)
        rw [seqX_nil]
        refine hK _ _ _ ?_; clear hK K
        refine hN18 _ _ _ ?_
        have rd : ∀ (r : Nat) (s2 : ByteArray) (e : Env), Priv D [] → e 0 = .string c → e 1 = .string s2 → e 7 = .bool f → e 8 = .int .i32 r → (s2.size ≤ 1000000) → (Asc s2) → (∀ x q, cls1 (nb (c.extract 1 c.size)) = some (x, q) → K0 = out (f || !takes x r) q (nb s2)) → (cls1 (nb (c.extract 1 c.size)) = none → K0 = none) → N17 e [] (ov D []) := by
          clear g0 g1 g7
          clear hP
          intro r s2 e hP g0 g1 g7 g8 hs2 has2 hcl hcn
          refine hN17 _ _ _ ?_
          generalize hc1 : c.extract 1 c.size = c1 at hcl hcn hex hac1 hc91
          have hcle : c1.size < c.size := by omega
          refine xc_two fun N19 hN19 => ?_
          refine xc_reg1 3 rfl fun K hK => ?_
          simp only [show (List.range 3).map (·, true) = [(0, true), (1, true), (2, true)] from rfl, rslv_cons, rslv_nil, List.getElem?_toArray, List.getElem?_cons_zero, List.getElem?_cons_succ, gres]
          iterate 3 (refine seqX_hide2 fun R hR => ?_; simp [go_sem, hz0, h0, hg, h1s, h1i, xindex, xslice, k1, g0, g1, g7, g8, hc1]; refine hR _ _ _ ?_; clear hR R)
          rw [seqX_nil]
          refine hK _ _ _ ?_; clear hK K
          refine hN19 _ _ _ ?_
          refine xc_two fun N20 hN20 => ?_
          refine xc_reg1 1 rfl fun K hK => ?_
          simp only [show (List.range 1).map (·, true) = [(0, true)] from rfl, rslv_cons, rslv_nil, List.getElem?_toArray, List.getElem?_cons_zero, List.getElem?_cons_succ, gres]
          (refine seqX_hide2 fun R hR => ?_; simp [go_sem, hz0, h0, hg, h1s, h1i, xindex, xslice, k1, g0, g1, g7, g8, hc1]; refine hR _ _ _ ?_; clear hR R)
          rw [seqX_nil]
          refine hK _ _ _ ?_; clear hK K
          refine hN20 _ _ _ ?_
          refine xc_two fun N21 hN21 => ?_
          refine xc_two fun N22 hN22 => ?_
          have ng : ∀ (neg : Bool) (c2 : ByteArray) (e : Env), Priv D [] → e 0 = .string c2 → e 1 = .string s2 → e 7 = .bool f → e 8 = .int .i32 r → e 10 = .bool neg → (c2.size < c.size) → (Asc c2) → (∀ rs q, clsGo (nb c2) [] = some (rs, q) → K0 = out (f || (inR r rs == neg)) q (nb s2)) → (clsGo (nb c2) [] = none → K0 = none) → N21 e [] (ov D []) := by
            clear g0 g1 g7 g8
            clear hP
            intro neg c2 e hP g0 g1 g7 g8 g10 hc2 hac2 hgo hgn
            refine hN21 _ _ _ ?_
            refine xc_two fun N23 hN23 => ?_
            refine xc_reg1 1 rfl fun K hK => ?_
            simp only [show (List.range 1).map (·, true) = [(0, true)] from rfl, rslv_cons, rslv_nil, List.getElem?_toArray, List.getElem?_cons_zero, List.getElem?_cons_succ, gres]
            (refine seqX_hide2 fun R hR => ?_; simp [go_sem, hz0, h0, hg, h1s, h1i, xindex, xslice, k1, g0, g1, g7, g8, g10]; refine hR _ _ _ ?_; clear hR R)
            rw [seqX_nil]
            refine hK _ _ _ ?_; clear hK K
            refine hN23 _ _ _ ?_
            refine xc_two fun N24 hN24 => ?_
            refine xc_reg1 1 rfl fun K hK => ?_
            simp only [show (List.range 1).map (·, true) = [(0, true)] from rfl, rslv_cons, rslv_nil, List.getElem?_toArray, List.getElem?_cons_zero, List.getElem?_cons_succ, gres]
            (refine seqX_hide2 fun R hR => ?_; simp [go_sem, hz0, h0, hg, h1s, h1i, xindex, xslice, k1, g0, g1, g7, g8, g10]; refine hR _ _ _ ?_; clear hR R)
            rw [seqX_nil]
            refine hK _ _ _ ?_; clear hK K
            refine hN24 _ _ _ ?_
            refine xc_two fun N25 hN25 => ?_
            rw [xc_block]
            rw [xc_loop]
            refine vloopK (fun k' e ds A' => ∃ (c3 : ByteArray) (rs : List (Nat × Nat)) (m : Bool) (D2 : View), k' = c3.size ∧ ds = [] ∧ A' = ov D2 [] ∧ Priv D2 [] ∧ e 0 = .string c3 ∧ e 1 = .string s2 ∧ e 7 = .bool f ∧ e 8 = .int .i32 r ∧ e 10 = .bool neg ∧ e 11 = .bool m ∧ e 12 = .int .i64 rs.length ∧ (D ≤ D2) ∧ (c3.size < c.size) ∧ (rs.length + c3.size ≤ 1000000) ∧ (Asc c3) ∧ (m = inR r rs) ∧ (clsGo (nb c3) rs = clsGo (nb c2) [])) _ ⟨c2, [], false, D, rfl, rfl, rfl, hP, by simp [go_sem, hz0, h0, hg, h1s, h1i, xindex, xslice, k1, g0, g1, g7, g8, g10], by simp [go_sem, hz0, h0, hg, h1s, h1i, xindex, xslice, k1, g0, g1, g7, g8, g10], by simp [go_sem, hz0, h0, hg, h1s, h1i, xindex, xslice, k1, g0, g1, g7, g8, g10], by simp [go_sem, hz0, h0, hg, h1s, h1i, xindex, xslice, k1, g0, g1, g7, g8, g10], by simp [go_sem, hz0, h0, hg, h1s, h1i, xindex, xslice, k1, g0, g1, g7, g8, g10], by simp [go_sem, hz0, h0, hg, h1s, h1i, xindex, xslice, k1, g0, g1, g7, g8, g10], by simp [go_sem, hz0, h0, hg, h1s, h1i, xindex, xslice, k1, g0, g1, g7, g8, g10], View.le_refl _, hc2, by simp; omega, hac2, rfl, rfl⟩ ?_
            clear g0 g1 g7 g8 g10
            clear hP
            rintro k' e ds A' ⟨c3, rs, m, D2, rfl, rfl, hV, hP, g0, g1, g7, g8, g10, g11, g12, hDD, hc3, hrl, hac3, hm, hg3⟩ J2 X2 hJ2 hX2
            refine xc_sound _ ?_
            replace hV := Eq.symm hV; subst hV; replace hP : Priv D2 (addrs []) := hP
            have hwr := wrap_nat (i := rs.length) (by omega)
            rw [xc_block]
            refine xc_two fun N26 hN26 => ?_
            refine xc_two fun N27 hN27 => ?_
            have go : ∀  (e : Env), Priv D2 [] → e 0 = .string c3 → e 1 = .string s2 → e 7 = .bool f → e 8 = .int .i32 r → e 10 = .bool neg → e 11 = .bool m → e 12 = .int .i64 rs.length → (∀ r', nb c3 = 93 :: r' → rs = []) → N26 e [] (ov D2 []) := by
              clear g0 g1 g7 g8 g10 g11 g12
              clear hP
              intro e hP g0 g1 g7 g8 g10 g11 g12 hno
              refine hN26 _ _ _ ?_
              refine xc_two fun N28 hN28 => ?_
              refine xc_reg1 2 rfl fun K hK => ?_
              simp only [show (List.range 2).map (·, true) = [(0, true), (1, true)] from rfl, rslv_cons, rslv_nil, List.getElem?_toArray, List.getElem?_cons_zero, List.getElem?_cons_succ, gres]
              iterate 2 (refine seqX_hide2 fun R hR => ?_; simp [go_sem, hz0, h0, hg, h1s, h1i, xindex, xslice, k1, g0, g1, g7, g8, g10, g11, g12]; refine hR _ _ _ ?_; clear hR R)
              rw [seqX_nil]
              refine hK _ _ _ ?_; clear hK K
              refine hN28 _ _ _ ?_
              refine xc_two fun N29 hN29 => ?_
              refine xc_two fun N30 hN30 => ?_
              refine xc_reg1 9 rfl fun K hK => ?_
              simp only [show (List.range 9).map (·, true) = [(0, true), (1, true), (2, true), (3, true), (4, true), (5, true), (6, true), (7, true), (8, true)] from rfl, rslv_cons, rslv_nil, List.getElem?_toArray, List.getElem?_cons_zero, List.getElem?_cons_succ, gres]
              (refine seqX_hide2 fun R hR => ?_; simp [go_sem, hz0, h0, hg, h1s, h1i, xindex, xslice, k1, g0, g1, g7, g8, g10, g11, g12]; refine hR _ _ _ ?_; clear hR R)
              refine seqX_hide2 fun R hR => ?_
              simp [go_sem, hz0, h0, hg, h1s, h1i, xindex, xslice, k1, g0, g1, g7, g8, g10, g11, g12]
              refine call_ov hP (getEsc54 D2 c3 (by omega) hac3) ?_
              clear hP
              rintro _ D3 ⟨hE, hD3⟩ hP
              rcases hE with ⟨h1, x, t, i, y, rfl⟩ | ⟨lo, q, t, h1, rfl, hq⟩
              · skip
                refine hR _ _ _ ?_; clear hR R
                iterate 7 (refine seqX_hide2 fun R hR => ?_; simp [go_sem, hz0, h0, hg, h1s, h1i, xindex, xslice, k1, g0, g1, g7, g8, g10, g11, g12]; refine hR _ _ _ ?_; clear hR R)
                rw [seqX_nil]
                refine hK _ _ _ ?_; clear hK K
                refine hN30 _ _ _ ?_
                refine xc_two fun N31 hN31 => ?_
                refine xc_reg1 2 rfl fun K hK => ?_
                simp only [show (List.range 2).map (·, true) = [(0, true), (1, true)] from rfl, rslv_cons, rslv_nil, List.getElem?_toArray, List.getElem?_cons_zero, List.getElem?_cons_succ, gres]
                iterate 2 (refine seqX_hide2 fun R hR => ?_; simp [go_sem, hz0, h0, hg, h1s, h1i, xindex, xslice, k1, g0, g1, g7, g8, g10, g11, g12]; refine hR _ _ _ ?_; clear hR R)
                rw [seqX_nil]
                refine hK _ _ _ ?_; clear hK K
                refine hN31 _ _ _ ?_
                refine xc_iftrue (by simp [go_sem, hz0, h0, hg, h1s, h1i, xindex, xslice, k1, g0, g1, g7, g8, g10, g11, g12]) ?_
                refine xc_two fun N32 hN32 => ?_
                refine xc_reg1 4 rfl fun K hK => ?_
                simp only [show (List.range 4).map (·, true) = [(0, true), (1, true), (2, true), (3, true)] from rfl, rslv_cons, rslv_nil, List.getElem?_toArray, List.getElem?_cons_zero, List.getElem?_cons_succ, gres]
                iterate 4 (refine seqX_hide2 fun R hR => ?_; simp [go_sem, hz0, h0, hg, h1s, h1i, xindex, xslice, k1, g0, g1, g7, g8, g10, g11, g12]; refine hR _ _ _ ?_; clear hR R)
                rw [seqX_nil]
                refine hK _ _ _ ?_; clear hK K
                refine hN32 _ _ _ ?_
                refine hX2 _ _ _ _ ?_
                refine hX1 _ _ _ _ ?_
                simp [go_sem, hz0, h0, hg, h1s, h1i, xindex, xslice, k1, g0, g1, g7, g8, g10, g11, g12]
                rw [hgn (by rw [← hg3]; exact clsGo_none (rng_of0 h1) hno)]
                exact ⟨⟨_, _, rfl⟩, View.le_trans hAD (View.le_trans hDD hD3)⟩
              · have hql := Pm.chr1_len h1
                have htl := nb_len t
                rw [hq] at htl
                have h3l := nb_len c3
                have ht0 : 0 < t.size := by
                  have := List.length_pos_iff.2 hql.2
                  omega
                have hact : Asc t := asc_of hq fun x hx => hac3 x ((chr1_mem h1).1 x hx)
                have hgt : t[0]? = some t[0] := getElem?_pos t 0 ht0
                have h1t : 1 ≤ t.size := by omega
                have h1ti : (1 : Int) ≤ t.size := by omega
                have htc := nb_cons ht0
                have htx := extract_size' t 1 (by omega)
                refine hR _ _ _ ?_; clear hR R
                iterate 7 (refine seqX_hide2 fun R hR => ?_; simp [go_sem, hz0, h0, hg, h1s, h1i, xindex, xslice, k1, g0, g1, g7, g8, g10, g11, g12, hgt, ht0, h1t, h1ti]; refine hR _ _ _ ?_; clear hR R)
                rw [seqX_nil]
                refine hK _ _ _ ?_; clear hK K
                refine hN30 _ _ _ ?_
                refine xc_two fun N31 hN31 => ?_
                refine xc_reg1 2 rfl fun K hK => ?_
                simp only [show (List.range 2).map (·, true) = [(0, true), (1, true)] from rfl, rslv_cons, rslv_nil, List.getElem?_toArray, List.getElem?_cons_zero, List.getElem?_cons_succ, gres]
                iterate 2 (refine seqX_hide2 fun R hR => ?_; simp [go_sem, hz0, h0, hg, h1s, h1i, xindex, xslice, k1, g0, g1, g7, g8, g10, g11, g12, hgt, ht0, h1t, h1ti]; refine hR _ _ _ ?_; clear hR R)
                rw [seqX_nil]
                refine hK _ _ _ ?_; clear hK K
                refine hN31 _ _ _ ?_
                refine xc_iffalse (by simp [go_sem, hz0, h0, hg, h1s, h1i, xindex, xslice, k1, g0, g1, g7, g8, g10, g11, g12, hgt, ht0, h1t, h1ti]) ?_
                refine hN29 _ _ _ ?_
                refine xc_two fun N32 hN32 => ?_
                refine xc_reg1 2 rfl fun K hK => ?_
                simp only [show (List.range 2).map (·, true) = [(0, true), (1, true)] from rfl, rslv_cons, rslv_nil, List.getElem?_toArray, List.getElem?_cons_zero, List.getElem?_cons_succ, gres]
                iterate 2 (refine seqX_hide2 fun R hR => ?_; simp [go_sem, hz0, h0, hg, h1s, h1i, xindex, xslice, k1, g0, g1, g7, g8, g10, g11, g12, hgt, ht0, h1t, h1ti]; refine hR _ _ _ ?_; clear hR R)
                rw [seqX_nil]
                refine hK _ _ _ ?_; clear hK K
                refine hN32 _ _ _ ?_
                refine xc_two fun N33 hN33 => ?_
                refine xc_two fun N34 hN34 => ?_
                refine xc_reg1 3 rfl fun K hK => ?_
                simp only [show (List.range 3).map (·, true) = [(0, true), (1, true), (2, true)] from rfl, rslv_cons, rslv_nil, List.getElem?_toArray, List.getElem?_cons_zero, List.getElem?_cons_succ, gres]
                iterate 3 (refine seqX_hide2 fun R hR => ?_; simp [go_sem, hz0, h0, hg, h1s, h1i, xindex, xslice, k1, g0, g1, g7, g8, g10, g11, g12, hgt, ht0, h1t, h1ti]; refine hR _ _ _ ?_; clear hR R)
                rw [seqX_nil]
                refine hK _ _ _ ?_; clear hK K
                refine hN34 _ _ _ ?_
                have ht : ∀ (hi : Nat) (c5 : ByteArray) (D4 : View) (e : Env), Priv D4 [] → e 0 = .string c5 → e 1 = .string s2 → e 7 = .bool f → e 8 = .int .i32 r → e 10 = .bool neg → e 11 = .bool m → e 12 = .int .i64 rs.length → e 13 = .int .i32 lo → e 14 = .int .i32 hi → (D2 ≤ D4) → (Asc c5) → (rng (nb c3) = some ((lo, hi), nb c5)) → N33 e [] (ov D4 []) := by
                  clear g0 g1 g7 g8 g10 g11 g12
                  clear hP
                  intro hi c5 D4 e hP g0 g1 g7 g8 g10 g11 g12 g13 g14 hD4 hac5 hr
                  refine hN33 _ _ _ ?_
                  have hrl2 := Pm.rng_len hr
                  rw [nb_len, nb_len] at hrl2
                  have hst := Pm.clsGo_step (rs := rs) hr
                  cases m with
                  | true =>
                    refine xc_two fun N35 hN35 => ?_
                    refine xc_reg1 12 rfl fun K hK => ?_
                    simp only [show (List.range 12).map (·, true) = [(0, true), (1, true), (2, true), (3, true), (4, true), (5, true), (6, true), (7, true), (8, true), (9, true), (10, true), (11, true)] from rfl, rslv_cons, rslv_nil, List.getElem?_toArray, List.getElem?_cons_zero, List.getElem?_cons_succ, gres]
                    iterate 12 (refine seqX_hide2 fun R hR => ?_; simp [go_sem, hz0, h0, hg, h1s, h1i, xindex, xslice, k1, hgt, ht0, h1t, h1ti, g0, g1, g7, g8, g10, g11, g12, g13, g14, hwr]; refine hR _ _ _ ?_; clear hR R)
                    rw [seqX_nil]
                    refine hK _ _ _ ?_; clear hK K
                    refine hN35 _ _ _ ?_
                    refine xc_reg1 3 rfl fun K hK => ?_
                    simp only [show (List.range 3).map (·, true) = [(0, true), (1, true), (2, true)] from rfl, rslv_cons, rslv_nil, List.getElem?_toArray, List.getElem?_cons_zero, List.getElem?_cons_succ, gres]
                    iterate 3 (refine seqX_hide2 fun R hR => ?_; simp [go_sem, hz0, h0, hg, h1s, h1i, xindex, xslice, k1, hgt, ht0, h1t, h1ti, g0, g1, g7, g8, g10, g11, g12, g13, g14, hwr]; refine hR _ _ _ ?_; clear hR R)
                    rw [seqX_nil]
                    refine hK _ _ _ ?_; clear hK K
                    refine hJ2 ((c5).size) _ _ _ (by exact hrl2.1) ⟨c5, rs ++ [(lo, hi)], true, D4, rfl, rfl, rfl, hP, by simp [go_sem, hz0, h0, hg, h1s, h1i, xindex, xslice, k1, hgt, ht0, h1t, h1ti, g0, g1, g7, g8, g10, g11, g12, g13, g14, hwr], by simp [go_sem, hz0, h0, hg, h1s, h1i, xindex, xslice, k1, hgt, ht0, h1t, h1ti, g0, g1, g7, g8, g10, g11, g12, g13, g14, hwr], by simp [go_sem, hz0, h0, hg, h1s, h1i, xindex, xslice, k1, hgt, ht0, h1t, h1ti, g0, g1, g7, g8, g10, g11, g12, g13, g14, hwr], by simp [go_sem, hz0, h0, hg, h1s, h1i, xindex, xslice, k1, hgt, ht0, h1t, h1ti, g0, g1, g7, g8, g10, g11, g12, g13, g14, hwr], by simp [go_sem, hz0, h0, hg, h1s, h1i, xindex, xslice, k1, hgt, ht0, h1t, h1ti, g0, g1, g7, g8, g10, g11, g12, g13, g14, hwr], by simp [go_sem, hz0, h0, hg, h1s, h1i, xindex, xslice, k1, hgt, ht0, h1t, h1ti, g0, g1, g7, g8, g10, g11, g12, g13, g14, hwr], by simp [go_sem, hz0, h0, hg, h1s, h1i, xindex, xslice, k1, hgt, ht0, h1t, h1ti, g0, g1, g7, g8, g10, g11, g12, g13, g14, hwr], View.le_trans hDD hD4, by omega, by rw [List.length_append]; simp; omega, hac5, by rw [inR_push, ← hm]; rfl, by rw [← hst]; exact hg3⟩
                  | false =>
                    by_cases hlo : lo ≤ r
                    · have hloi : (lo : Int) ≤ r := by omega
                      by_cases hhi : r ≤ hi
                      · have hhii : (r : Int) ≤ hi := by omega
                        refine xc_two fun N35 hN35 => ?_
                        refine xc_reg1 12 rfl fun K hK => ?_
                        simp only [show (List.range 12).map (·, true) = [(0, true), (1, true), (2, true), (3, true), (4, true), (5, true), (6, true), (7, true), (8, true), (9, true), (10, true), (11, true)] from rfl, rslv_cons, rslv_nil, List.getElem?_toArray, List.getElem?_cons_zero, List.getElem?_cons_succ, gres]
                        iterate 12 (refine seqX_hide2 fun R hR => ?_; simp [go_sem, hz0, h0, hg, h1s, h1i, xindex, xslice, k1, hgt, ht0, h1t, h1ti, g0, g1, g7, g8, g10, g11, g12, g13, g14, hwr, hlo, hloi, hhi, hhii]; refine hR _ _ _ ?_; clear hR R)
                        rw [seqX_nil]
                        refine hK _ _ _ ?_; clear hK K
                        refine hN35 _ _ _ ?_
                        refine xc_reg1 3 rfl fun K hK => ?_
                        simp only [show (List.range 3).map (·, true) = [(0, true), (1, true), (2, true)] from rfl, rslv_cons, rslv_nil, List.getElem?_toArray, List.getElem?_cons_zero, List.getElem?_cons_succ, gres]
                        iterate 3 (refine seqX_hide2 fun R hR => ?_; simp [go_sem, hz0, h0, hg, h1s, h1i, xindex, xslice, k1, hgt, ht0, h1t, h1ti, g0, g1, g7, g8, g10, g11, g12, g13, g14, hwr, hlo, hloi, hhi, hhii]; refine hR _ _ _ ?_; clear hR R)
                        rw [seqX_nil]
                        refine hK _ _ _ ?_; clear hK K
                        refine hJ2 ((c5).size) _ _ _ (by exact hrl2.1) ⟨c5, rs ++ [(lo, hi)], true, D4, rfl, rfl, rfl, hP, by simp [go_sem, hz0, h0, hg, h1s, h1i, xindex, xslice, k1, hgt, ht0, h1t, h1ti, g0, g1, g7, g8, g10, g11, g12, g13, g14, hwr, hlo, hloi, hhi, hhii], by simp [go_sem, hz0, h0, hg, h1s, h1i, xindex, xslice, k1, hgt, ht0, h1t, h1ti, g0, g1, g7, g8, g10, g11, g12, g13, g14, hwr, hlo, hloi, hhi, hhii], by simp [go_sem, hz0, h0, hg, h1s, h1i, xindex, xslice, k1, hgt, ht0, h1t, h1ti, g0, g1, g7, g8, g10, g11, g12, g13, g14, hwr, hlo, hloi, hhi, hhii], by simp [go_sem, hz0, h0, hg, h1s, h1i, xindex, xslice, k1, hgt, ht0, h1t, h1ti, g0, g1, g7, g8, g10, g11, g12, g13, g14, hwr, hlo, hloi, hhi, hhii], by simp [go_sem, hz0, h0, hg, h1s, h1i, xindex, xslice, k1, hgt, ht0, h1t, h1ti, g0, g1, g7, g8, g10, g11, g12, g13, g14, hwr, hlo, hloi, hhi, hhii], by simp [go_sem, hz0, h0, hg, h1s, h1i, xindex, xslice, k1, hgt, ht0, h1t, h1ti, g0, g1, g7, g8, g10, g11, g12, g13, g14, hwr, hlo, hloi, hhi, hhii], by simp [go_sem, hz0, h0, hg, h1s, h1i, xindex, xslice, k1, hgt, ht0, h1t, h1ti, g0, g1, g7, g8, g10, g11, g12, g13, g14, hwr, hlo, hloi, hhi, hhii], View.le_trans hDD hD4, by omega, by rw [List.length_append]; simp; omega, hac5, by rw [inR_push, ← hm]; simp [hlo, hhi], by rw [← hst]; exact hg3⟩
                      · have hhii : ¬ (r : Int) ≤ hi := by omega
                        refine xc_two fun N35 hN35 => ?_
                        refine xc_reg1 12 rfl fun K hK => ?_
                        simp only [show (List.range 12).map (·, true) = [(0, true), (1, true), (2, true), (3, true), (4, true), (5, true), (6, true), (7, true), (8, true), (9, true), (10, true), (11, true)] from rfl, rslv_cons, rslv_nil, List.getElem?_toArray, List.getElem?_cons_zero, List.getElem?_cons_succ, gres]
                        iterate 12 (refine seqX_hide2 fun R hR => ?_; simp [go_sem, hz0, h0, hg, h1s, h1i, xindex, xslice, k1, hgt, ht0, h1t, h1ti, g0, g1, g7, g8, g10, g11, g12, g13, g14, hwr, hlo, hloi, hhi, hhii]; refine hR _ _ _ ?_; clear hR R)
                        rw [seqX_nil]
                        refine hK _ _ _ ?_; clear hK K
                        refine hN35 _ _ _ ?_
                        refine xc_reg1 3 rfl fun K hK => ?_
                        simp only [show (List.range 3).map (·, true) = [(0, true), (1, true), (2, true)] from rfl, rslv_cons, rslv_nil, List.getElem?_toArray, List.getElem?_cons_zero, List.getElem?_cons_succ, gres]
                        iterate 3 (refine seqX_hide2 fun R hR => ?_; simp [go_sem, hz0, h0, hg, h1s, h1i, xindex, xslice, k1, hgt, ht0, h1t, h1ti, g0, g1, g7, g8, g10, g11, g12, g13, g14, hwr, hlo, hloi, hhi, hhii]; refine hR _ _ _ ?_; clear hR R)
                        rw [seqX_nil]
                        refine hK _ _ _ ?_; clear hK K
                        refine hJ2 ((c5).size) _ _ _ (by exact hrl2.1) ⟨c5, rs ++ [(lo, hi)], false, D4, rfl, rfl, rfl, hP, by simp [go_sem, hz0, h0, hg, h1s, h1i, xindex, xslice, k1, hgt, ht0, h1t, h1ti, g0, g1, g7, g8, g10, g11, g12, g13, g14, hwr, hlo, hloi, hhi, hhii], by simp [go_sem, hz0, h0, hg, h1s, h1i, xindex, xslice, k1, hgt, ht0, h1t, h1ti, g0, g1, g7, g8, g10, g11, g12, g13, g14, hwr, hlo, hloi, hhi, hhii], by simp [go_sem, hz0, h0, hg, h1s, h1i, xindex, xslice, k1, hgt, ht0, h1t, h1ti, g0, g1, g7, g8, g10, g11, g12, g13, g14, hwr, hlo, hloi, hhi, hhii], by simp [go_sem, hz0, h0, hg, h1s, h1i, xindex, xslice, k1, hgt, ht0, h1t, h1ti, g0, g1, g7, g8, g10, g11, g12, g13, g14, hwr, hlo, hloi, hhi, hhii], by simp [go_sem, hz0, h0, hg, h1s, h1i, xindex, xslice, k1, hgt, ht0, h1t, h1ti, g0, g1, g7, g8, g10, g11, g12, g13, g14, hwr, hlo, hloi, hhi, hhii], by simp [go_sem, hz0, h0, hg, h1s, h1i, xindex, xslice, k1, hgt, ht0, h1t, h1ti, g0, g1, g7, g8, g10, g11, g12, g13, g14, hwr, hlo, hloi, hhi, hhii], by simp [go_sem, hz0, h0, hg, h1s, h1i, xindex, xslice, k1, hgt, ht0, h1t, h1ti, g0, g1, g7, g8, g10, g11, g12, g13, g14, hwr, hlo, hloi, hhi, hhii], View.le_trans hDD hD4, by omega, by rw [List.length_append]; simp; omega, hac5, by rw [inR_push, ← hm]; simp [hlo, hhi], by rw [← hst]; exact hg3⟩
                    · have hloi : ¬ (lo : Int) ≤ r := by omega
                      refine xc_two fun N35 hN35 => ?_
                      refine xc_reg1 12 rfl fun K hK => ?_
                      simp only [show (List.range 12).map (·, true) = [(0, true), (1, true), (2, true), (3, true), (4, true), (5, true), (6, true), (7, true), (8, true), (9, true), (10, true), (11, true)] from rfl, rslv_cons, rslv_nil, List.getElem?_toArray, List.getElem?_cons_zero, List.getElem?_cons_succ, gres]
                      iterate 12 (refine seqX_hide2 fun R hR => ?_; simp [go_sem, hz0, h0, hg, h1s, h1i, xindex, xslice, k1, hgt, ht0, h1t, h1ti, g0, g1, g7, g8, g10, g11, g12, g13, g14, hwr, hlo, hloi]; refine hR _ _ _ ?_; clear hR R)
                      rw [seqX_nil]
                      refine hK _ _ _ ?_; clear hK K
                      refine hN35 _ _ _ ?_
                      refine xc_reg1 3 rfl fun K hK => ?_
                      simp only [show (List.range 3).map (·, true) = [(0, true), (1, true), (2, true)] from rfl, rslv_cons, rslv_nil, List.getElem?_toArray, List.getElem?_cons_zero, List.getElem?_cons_succ, gres]
                      iterate 3 (refine seqX_hide2 fun R hR => ?_; simp [go_sem, hz0, h0, hg, h1s, h1i, xindex, xslice, k1, hgt, ht0, h1t, h1ti, g0, g1, g7, g8, g10, g11, g12, g13, g14, hwr, hlo, hloi]; refine hR _ _ _ ?_; clear hR R)
                      rw [seqX_nil]
                      refine hK _ _ _ ?_; clear hK K
                      refine hJ2 ((c5).size) _ _ _ (by exact hrl2.1) ⟨c5, rs ++ [(lo, hi)], false, D4, rfl, rfl, rfl, hP, by simp [go_sem, hz0, h0, hg, h1s, h1i, xindex, xslice, k1, hgt, ht0, h1t, h1ti, g0, g1, g7, g8, g10, g11, g12, g13, g14, hwr, hlo, hloi], by simp [go_sem, hz0, h0, hg, h1s, h1i, xindex, xslice, k1, hgt, ht0, h1t, h1ti, g0, g1, g7, g8, g10, g11, g12, g13, g14, hwr, hlo, hloi], by simp [go_sem, hz0, h0, hg, h1s, h1i, xindex, xslice, k1, hgt, ht0, h1t, h1ti, g0, g1, g7, g8, g10, g11, g12, g13, g14, hwr, hlo, hloi], by simp [go_sem, hz0, h0, hg, h1s, h1i, xindex, xslice, k1, hgt, ht0, h1t, h1ti, g0, g1, g7, g8, g10, g11, g12, g13, g14, hwr, hlo, hloi], by simp [go_sem, hz0, h0, hg, h1s, h1i, xindex, xslice, k1, hgt, ht0, h1t, h1ti, g0, g1, g7, g8, g10, g11, g12, g13, g14, hwr, hlo, hloi], by simp [go_sem, hz0, h0, hg, h1s, h1i, xindex, xslice, k1, hgt, ht0, h1t, h1ti, g0, g1, g7, g8, g10, g11, g12, g13, g14, hwr, hlo, hloi], by simp [go_sem, hz0, h0, hg, h1s, h1i, xindex, xslice, k1, hgt, ht0, h1t, h1ti, g0, g1, g7, g8, g10, g11, g12, g13, g14, hwr, hlo, hloi], View.le_trans hDD hD4, by omega, by rw [List.length_append]; simp; omega, hac5, by rw [inR_push, ← hm]; simp [hlo], by rw [← hst]; exact hg3⟩
                by_cases h45 : t[0].toNat = 45
                · have hb : ((t[0].toNat : Int) == 45) = true := by simp [h45]
                  have hq2 : q = 45 :: nb (t.extract 1 t.size) := by rw [← hq, htc, h45]
                  have hrr := rng_of2 (hq2 ▸ h1)
                  refine xc_iftrue (by simp [go_sem, hz0, h0, hg, h1s, h1i, xindex, xslice, k1, g0, g1, g7, g8, g10, g11, g12, hgt, ht0, h1t, h1ti, h45, hb]) ?_
                  refine xc_two fun N35 hN35 => ?_
                  refine xc_reg1 10 rfl fun K hK => ?_
                  simp only [show (List.range 10).map (·, true) = [(0, true), (1, true), (2, true), (3, true), (4, true), (5, true), (6, true), (7, true), (8, true), (9, true)] from rfl, rslv_cons, rslv_nil, List.getElem?_toArray, List.getElem?_cons_zero, List.getElem?_cons_succ, gres]
                  iterate 2 (refine seqX_hide2 fun R hR => ?_; simp [go_sem, hz0, h0, hg, h1s, h1i, xindex, xslice, k1, g0, g1, g7, g8, g10, g11, g12, hgt, ht0, h1t, h1ti, h45, hb]; refine hR _ _ _ ?_; clear hR R)
                  refine seqX_hide2 fun R hR => ?_
                  simp [go_sem, hz0, h0, hg, h1s, h1i, xindex, xslice, k1, g0, g1, g7, g8, g10, g11, g12, hgt, ht0, h1t, h1ti, h45, hb]
                  refine call_ov hP (getEsc54 D3 (t.extract 1 t.size) (by omega) (hact.drop 1)) ?_
                  clear hP
                  rintro _ D5 ⟨hE5, hD5⟩ hP
                  rcases hE5 with ⟨w1, x, t', i, y, rfl⟩ | ⟨hi, q', t', w1, rfl, hq'⟩
                  · rw [w1] at hrr
                    refine hR _ _ _ ?_; clear hR R
                    iterate 7 (refine seqX_hide2 fun R hR => ?_; simp [go_sem, hz0, h0, hg, h1s, h1i, xindex, xslice, k1, g0, g1, g7, g8, g10, g11, g12, hgt, ht0, h1t, h1ti, h45, hb]; refine hR _ _ _ ?_; clear hR R)
                    rw [seqX_nil]
                    refine hK _ _ _ ?_; clear hK K
                    refine hN35 _ _ _ ?_
                    refine xc_two fun N36 hN36 => ?_
                    refine xc_reg1 2 rfl fun K hK => ?_
                    simp only [show (List.range 2).map (·, true) = [(0, true), (1, true)] from rfl, rslv_cons, rslv_nil, List.getElem?_toArray, List.getElem?_cons_zero, List.getElem?_cons_succ, gres]
                    iterate 2 (refine seqX_hide2 fun R hR => ?_; simp [go_sem, hz0, h0, hg, h1s, h1i, xindex, xslice, k1, g0, g1, g7, g8, g10, g11, g12, hgt, ht0, h1t, h1ti, h45, hb]; refine hR _ _ _ ?_; clear hR R)
                    rw [seqX_nil]
                    refine hK _ _ _ ?_; clear hK K
                    refine hN36 _ _ _ ?_
                    refine xc_iftrue (by simp [go_sem, hz0, h0, hg, h1s, h1i, xindex, xslice, k1, g0, g1, g7, g8, g10, g11, g12, hgt, ht0, h1t, h1ti, h45, hb]) ?_
                    refine xc_two fun N37 hN37 => ?_
                    refine xc_reg1 4 rfl fun K hK => ?_
                    simp only [show (List.range 4).map (·, true) = [(0, true), (1, true), (2, true), (3, true)] from rfl, rslv_cons, rslv_nil, List.getElem?_toArray, List.getElem?_cons_zero, List.getElem?_cons_succ, gres]
                    iterate 4 (refine seqX_hide2 fun R hR => ?_; simp [go_sem, hz0, h0, hg, h1s, h1i, xindex, xslice, k1, g0, g1, g7, g8, g10, g11, g12, hgt, ht0, h1t, h1ti, h45, hb]; refine hR _ _ _ ?_; clear hR R)
                    rw [seqX_nil]
                    refine hK _ _ _ ?_; clear hK K
                    refine hN37 _ _ _ ?_
                    refine hX2 _ _ _ _ ?_
                    refine hX1 _ _ _ _ ?_
                    simp [go_sem, hz0, h0, hg, h1s, h1i, xindex, xslice, k1, g0, g1, g7, g8, g10, g11, g12, hgt, ht0, h1t, h1ti, h45, hb]
                    rw [hgn (by rw [← hg3]; exact clsGo_none hrr hno)]
                    exact ⟨⟨_, _, rfl⟩, View.le_trans hAD (View.le_trans hDD (View.le_trans hD3 hD5))⟩
                  · rw [w1] at hrr
                    refine hR _ _ _ ?_; clear hR R
                    iterate 7 (refine seqX_hide2 fun R hR => ?_; simp [go_sem, hz0, h0, hg, h1s, h1i, xindex, xslice, k1, g0, g1, g7, g8, g10, g11, g12, hgt, ht0, h1t, h1ti, h45, hb]; refine hR _ _ _ ?_; clear hR R)
                    rw [seqX_nil]
                    refine hK _ _ _ ?_; clear hK K
                    refine hN35 _ _ _ ?_
                    refine xc_two fun N36 hN36 => ?_
                    refine xc_reg1 2 rfl fun K hK => ?_
                    simp only [show (List.range 2).map (·, true) = [(0, true), (1, true)] from rfl, rslv_cons, rslv_nil, List.getElem?_toArray, List.getElem?_cons_zero, List.getElem?_cons_succ, gres]
                    iterate 2 (refine seqX_hide2 fun R hR => ?_; simp [go_sem, hz0, h0, hg, h1s, h1i, xindex, xslice, k1, g0, g1, g7, g8, g10, g11, g12, hgt, ht0, h1t, h1ti, h45, hb]; refine hR _ _ _ ?_; clear hR R)
                    rw [seqX_nil]
                    refine hK _ _ _ ?_; clear hK K
                    refine hN36 _ _ _ ?_
                    refine xc_iffalse (by simp [go_sem, hz0, h0, hg, h1s, h1i, xindex, xslice, k1, g0, g1, g7, g8, g10, g11, g12, hgt, ht0, h1t, h1ti, h45, hb]) ?_
                    exact ht (hi) (t') (D5) _ hP (by simp [go_sem, hz0, h0, hg, h1s, h1i, xindex, xslice, k1, g0, g1, g7, g8, g10, g11, g12, hgt, ht0, h1t, h1ti, h45, hb]) (by simp [go_sem, hz0, h0, hg, h1s, h1i, xindex, xslice, k1, g0, g1, g7, g8, g10, g11, g12, hgt, ht0, h1t, h1ti, h45, hb]) (by simp [go_sem, hz0, h0, hg, h1s, h1i, xindex, xslice, k1, g0, g1, g7, g8, g10, g11, g12, hgt, ht0, h1t, h1ti, h45, hb]) (by simp [go_sem, hz0, h0, hg, h1s, h1i, xindex, xslice, k1, g0, g1, g7, g8, g10, g11, g12, hgt, ht0, h1t, h1ti, h45, hb]) (by simp [go_sem, hz0, h0, hg, h1s, h1i, xindex, xslice, k1, g0, g1, g7, g8, g10, g11, g12, hgt, ht0, h1t, h1ti, h45, hb]) (by simp [go_sem, hz0, h0, hg, h1s, h1i, xindex, xslice, k1, g0, g1, g7, g8, g10, g11, g12, hgt, ht0, h1t, h1ti, h45, hb]) (by simp [go_sem, hz0, h0, hg, h1s, h1i, xindex, xslice, k1, g0, g1, g7, g8, g10, g11, g12, hgt, ht0, h1t, h1ti, h45, hb]) (by simp [go_sem, hz0, h0, hg, h1s, h1i, xindex, xslice, k1, g0, g1, g7, g8, g10, g11, g12, hgt, ht0, h1t, h1ti, h45, hb]) (by simp [go_sem, hz0, h0, hg, h1s, h1i, xindex, xslice, k1, g0, g1, g7, g8, g10, g11, g12, hgt, ht0, h1t, h1ti, h45, hb]) (View.le_trans hD3 hD5) (asc_of hq' fun x hx => (hact.drop 1) x ((chr1_mem w1).1 x hx)) (by rw [hrr, hq'])
                · have hb : ((t[0].toNat : Int) == 45) = false := beq_eq_false_iff_ne.2 (by omega)
                  have hbn : ¬ (t[0].toNat : Int) = 45 := by omega
                  refine xc_iffalse (by simp [go_sem, hz0, h0, hg, h1s, h1i, xindex, xslice, k1, g0, g1, g7, g8, g10, g11, g12, hgt, ht0, h1t, h1ti, h45, hb, hbn]) ?_
                  exact ht (lo) (t) (D3) _ hP (by simp [go_sem, hz0, h0, hg, h1s, h1i, xindex, xslice, k1, g0, g1, g7, g8, g10, g11, g12, hgt, ht0, h1t, h1ti, h45, hb, hbn]) (by simp [go_sem, hz0, h0, hg, h1s, h1i, xindex, xslice, k1, g0, g1, g7, g8, g10, g11, g12, hgt, ht0, h1t, h1ti, h45, hb, hbn]) (by simp [go_sem, hz0, h0, hg, h1s, h1i, xindex, xslice, k1, g0, g1, g7, g8, g10, g11, g12, hgt, ht0, h1t, h1ti, h45, hb, hbn]) (by simp [go_sem, hz0, h0, hg, h1s, h1i, xindex, xslice, k1, g0, g1, g7, g8, g10, g11, g12, hgt, ht0, h1t, h1ti, h45, hb, hbn]) (by simp [go_sem, hz0, h0, hg, h1s, h1i, xindex, xslice, k1, g0, g1, g7, g8, g10, g11, g12, hgt, ht0, h1t, h1ti, h45, hb, hbn]) (by simp [go_sem, hz0, h0, hg, h1s, h1i, xindex, xslice, k1, g0, g1, g7, g8, g10, g11, g12, hgt, ht0, h1t, h1ti, h45, hb, hbn]) (by simp [go_sem, hz0, h0, hg, h1s, h1i, xindex, xslice, k1, g0, g1, g7, g8, g10, g11, g12, hgt, ht0, h1t, h1ti, h45, hb, hbn]) (by simp [go_sem, hz0, h0, hg, h1s, h1i, xindex, xslice, k1, g0, g1, g7, g8, g10, g11, g12, hgt, ht0, h1t, h1ti, h45, hb, hbn]) (by simp [go_sem, hz0, h0, hg, h1s, h1i, xindex, xslice, k1, g0, g1, g7, g8, g10, g11, g12, hgt, ht0, h1t, h1ti, h45, hb, hbn]) (hD3) (hact) (by rw [hq]; exact rng_of h1 fun r' hx => h45 (by rw [← hq, htc] at hx; exact (List.cons.inj hx).1))
            by_cases h03 : 0 < c3.size
            rotate_left
            · have hz3 : ¬ (0 : Int) < c3.size := by omega
              have hn3 : nb c3 = [] := nb_nil.2 (by omega)
              refine xc_reg1 12 rfl fun K hK => ?_
              simp only [show (List.range 12).map (·, true) = [(0, true), (1, true), (2, true), (3, true), (4, true), (5, true), (6, true), (7, true), (8, true), (9, true), (10, true), (11, true)] from rfl, rslv_cons, rslv_nil, List.getElem?_toArray, List.getElem?_cons_zero, List.getElem?_cons_succ, gres]
              iterate 12 (refine seqX_hide2 fun R hR => ?_; simp [go_sem, hz0, h0, hg, h1s, h1i, xindex, xslice, k1, g0, g1, g7, g8, g10, g11, g12, h03, hz3]; refine hR _ _ _ ?_; clear hR R)
              rw [seqX_nil]
              refine hK _ _ _ ?_; clear hK K
              refine hN27 _ _ _ ?_
              refine xc_iffalse (by simp [go_sem, hz0, h0, hg, h1s, h1i, xindex, xslice, k1, g0, g1, g7, g8, g10, g11, g12, h03, hz3]) ?_
              exact go  _ hP (by simp [go_sem, hz0, h0, hg, h1s, h1i, xindex, xslice, k1, g0, g1, g7, g8, g10, g11, g12, h03, hz3]) (by simp [go_sem, hz0, h0, hg, h1s, h1i, xindex, xslice, k1, g0, g1, g7, g8, g10, g11, g12, h03, hz3]) (by simp [go_sem, hz0, h0, hg, h1s, h1i, xindex, xslice, k1, g0, g1, g7, g8, g10, g11, g12, h03, hz3]) (by simp [go_sem, hz0, h0, hg, h1s, h1i, xindex, xslice, k1, g0, g1, g7, g8, g10, g11, g12, h03, hz3]) (by simp [go_sem, hz0, h0, hg, h1s, h1i, xindex, xslice, k1, g0, g1, g7, g8, g10, g11, g12, h03, hz3]) (by simp [go_sem, hz0, h0, hg, h1s, h1i, xindex, xslice, k1, g0, g1, g7, g8, g10, g11, g12, h03, hz3]) (by simp [go_sem, hz0, h0, hg, h1s, h1i, xindex, xslice, k1, g0, g1, g7, g8, g10, g11, g12, h03, hz3]) (fun r' h => by rw [hn3] at h; cases h)
            have hz3 : (0 : Int) < c3.size := by omega
            have hg3' : c3[0]? = some c3[0] := getElem?_pos c3 0 h03
            have h13 : 1 ≤ c3.size := by omega
            have h13i : (1 : Int) ≤ c3.size := by omega
            have h3c := nb_cons h03
            have h3x := extract_size' c3 1 (by omega)
            by_cases k93 : c3[0].toNat = 93
            rotate_left
            · have hb : ((c3[0].toNat : Int) == 93) = false := beq_eq_false_iff_ne.2 (by omega)
              have hbn : ¬ (c3[0].toNat : Int) = 93 := by omega
              refine xc_reg1 12 rfl fun K hK => ?_
              simp only [show (List.range 12).map (·, true) = [(0, true), (1, true), (2, true), (3, true), (4, true), (5, true), (6, true), (7, true), (8, true), (9, true), (10, true), (11, true)] from rfl, rslv_cons, rslv_nil, List.getElem?_toArray, List.getElem?_cons_zero, List.getElem?_cons_succ, gres]
              iterate 12 (refine seqX_hide2 fun R hR => ?_; simp [go_sem, hz0, h0, hg, h1s, h1i, xindex, xslice, k1, g0, g1, g7, g8, g10, g11, g12, h03, hz3, hg3', h13, h13i, k93, hb, hbn]; refine hR _ _ _ ?_; clear hR R)
              rw [seqX_nil]
              refine hK _ _ _ ?_; clear hK K
              refine hN27 _ _ _ ?_
              refine xc_iffalse (by simp [go_sem, hz0, h0, hg, h1s, h1i, xindex, xslice, k1, g0, g1, g7, g8, g10, g11, g12, h03, hz3, hg3', h13, h13i, k93, hb, hbn]) ?_
              exact go  _ hP (by simp [go_sem, hz0, h0, hg, h1s, h1i, xindex, xslice, k1, g0, g1, g7, g8, g10, g11, g12, h03, hz3, hg3', h13, h13i, k93, hb, hbn]) (by simp [go_sem, hz0, h0, hg, h1s, h1i, xindex, xslice, k1, g0, g1, g7, g8, g10, g11, g12, h03, hz3, hg3', h13, h13i, k93, hb, hbn]) (by simp [go_sem, hz0, h0, hg, h1s, h1i, xindex, xslice, k1, g0, g1, g7, g8, g10, g11, g12, h03, hz3, hg3', h13, h13i, k93, hb, hbn]) (by simp [go_sem, hz0, h0, hg, h1s, h1i, xindex, xslice, k1, g0, g1, g7, g8, g10, g11, g12, h03, hz3, hg3', h13, h13i, k93, hb, hbn]) (by simp [go_sem, hz0, h0, hg, h1s, h1i, xindex, xslice, k1, g0, g1, g7, g8, g10, g11, g12, h03, hz3, hg3', h13, h13i, k93, hb, hbn]) (by simp [go_sem, hz0, h0, hg, h1s, h1i, xindex, xslice, k1, g0, g1, g7, g8, g10, g11, g12, h03, hz3, hg3', h13, h13i, k93, hb, hbn]) (by simp [go_sem, hz0, h0, hg, h1s, h1i, xindex, xslice, k1, g0, g1, g7, g8, g10, g11, g12, h03, hz3, hg3', h13, h13i, k93, hb, hbn]) (fun r' h => by rw [h3c] at h; exact absurd (List.cons.inj h).1 k93)
            have hb : ((c3[0].toNat : Int) == 93) = true := by simp [k93]
            by_cases hrs : rs = []
            · have hrl0 : ¬ (0 : Int) < rs.length := by rw [hrs]; simp
              have hrl1 : ¬ 0 < rs.length := by rw [hrs]; simp
              refine xc_reg1 12 rfl fun K hK => ?_
              simp only [show (List.range 12).map (·, true) = [(0, true), (1, true), (2, true), (3, true), (4, true), (5, true), (6, true), (7, true), (8, true), (9, true), (10, true), (11, true)] from rfl, rslv_cons, rslv_nil, List.getElem?_toArray, List.getElem?_cons_zero, List.getElem?_cons_succ, gres]
              iterate 12 (refine seqX_hide2 fun R hR => ?_; simp [go_sem, hz0, h0, hg, h1s, h1i, xindex, xslice, k1, g0, g1, g7, g8, g10, g11, g12, h03, hz3, hg3', h13, h13i, k93, hb, hrl0, hrl1]; refine hR _ _ _ ?_; clear hR R)
              rw [seqX_nil]
              refine hK _ _ _ ?_; clear hK K
              refine hN27 _ _ _ ?_
              refine xc_iffalse (by simp [go_sem, hz0, h0, hg, h1s, h1i, xindex, xslice, k1, g0, g1, g7, g8, g10, g11, g12, h03, hz3, hg3', h13, h13i, k93, hb, hrl0, hrl1]) ?_
              exact go  _ hP (by simp [go_sem, hz0, h0, hg, h1s, h1i, xindex, xslice, k1, g0, g1, g7, g8, g10, g11, g12, h03, hz3, hg3', h13, h13i, k93, hb, hrl0, hrl1]) (by simp [go_sem, hz0, h0, hg, h1s, h1i, xindex, xslice, k1, g0, g1, g7, g8, g10, g11, g12, h03, hz3, hg3', h13, h13i, k93, hb, hrl0, hrl1]) (by simp [go_sem, hz0, h0, hg, h1s, h1i, xindex, xslice, k1, g0, g1, g7, g8, g10, g11, g12, h03, hz3, hg3', h13, h13i, k93, hb, hrl0, hrl1]) (by simp [go_sem, hz0, h0, hg, h1s, h1i, xindex, xslice, k1, g0, g1, g7, g8, g10, g11, g12, h03, hz3, hg3', h13, h13i, k93, hb, hrl0, hrl1]) (by simp [go_sem, hz0, h0, hg, h1s, h1i, xindex, xslice, k1, g0, g1, g7, g8, g10, g11, g12, h03, hz3, hg3', h13, h13i, k93, hb, hrl0, hrl1]) (by simp [go_sem, hz0, h0, hg, h1s, h1i, xindex, xslice, k1, g0, g1, g7, g8, g10, g11, g12, h03, hz3, hg3', h13, h13i, k93, hb, hrl0, hrl1]) (by simp [go_sem, hz0, h0, hg, h1s, h1i, xindex, xslice, k1, g0, g1, g7, g8, g10, g11, g12, h03, hz3, hg3', h13, h13i, k93, hb, hrl0, hrl1]) (fun r' h => hrs)
            have hrl1 : 0 < rs.length := List.length_pos_iff.2 hrs
            have hrl0 : (0 : Int) < rs.length := by omega
            have hK := hgo rs (nb (c3.extract 1 c3.size)) (by rw [← hg3, h3c, k93]; exact clsGo_end hrs)
            rw [← hm] at hK
            cases f with
            | true =>
              refine xc_reg1 12 rfl fun K hK => ?_
              simp only [show (List.range 12).map (·, true) = [(0, true), (1, true), (2, true), (3, true), (4, true), (5, true), (6, true), (7, true), (8, true), (9, true), (10, true), (11, true)] from rfl, rslv_cons, rslv_nil, List.getElem?_toArray, List.getElem?_cons_zero, List.getElem?_cons_succ, gres]
              iterate 12 (refine seqX_hide2 fun R hR => ?_; simp [go_sem, hz0, h0, hg, h1s, h1i, xindex, xslice, k1, g0, g1, g7, g8, g10, g11, g12, h03, hz3, hg3', h13, h13i, k93, hb, hrl0, hrl1]; refine hR _ _ _ ?_; clear hR R)
              rw [seqX_nil]
              refine hK _ _ _ ?_; clear hK K
              refine hN27 _ _ _ ?_
              refine xc_iftrue (by simp [go_sem, hz0, h0, hg, h1s, h1i, xindex, xslice, k1, g0, g1, g7, g8, g10, g11, g12, h03, hz3, hg3', h13, h13i, k93, hb, hrl0, hrl1]) ?_
              refine xc_two fun N28 hN28 => ?_
              refine xc_reg1 3 rfl fun K hK => ?_
              simp only [show (List.range 3).map (·, true) = [(0, true), (1, true), (2, true)] from rfl, rslv_cons, rslv_nil, List.getElem?_toArray, List.getElem?_cons_zero, List.getElem?_cons_succ, gres]
              iterate 3 (refine seqX_hide2 fun R hR => ?_; simp [go_sem, hz0, h0, hg, h1s, h1i, xindex, xslice, k1, g0, g1, g7, g8, g10, g11, g12, h03, hz3, hg3', h13, h13i, k93, hb, hrl0, hrl1]; refine hR _ _ _ ?_; clear hR R)
              rw [seqX_nil]
              refine hK _ _ _ ?_; clear hK K
              refine hN28 _ _ _ ?_
              refine hX2 _ _ _ _ ?_
              refine hN25 _ _ _ ?_
              refine xc_reg1 7 rfl fun K hK => ?_
              simp only [show (List.range 7).map (·, true) = [(0, true), (1, true), (2, true), (3, true), (4, true), (5, true), (6, true)] from rfl, rslv_cons, rslv_nil, List.getElem?_toArray, List.getElem?_cons_zero, List.getElem?_cons_succ, gres]
              iterate 7 (refine seqX_hide2 fun R hR => ?_; simp [go_sem, hz0, h0, hg, h1s, h1i, xindex, xslice, k1, g0, g1, g7, g8, g10, g11, g12, h03, hz3, hg3', h13, h13i, k93, hb, hrl0, hrl1]; refine hR _ _ _ ?_; clear hR R)
              rw [seqX_nil]
              refine hK _ _ _ ?_; clear hK K
              refine hN15 _ _ _ ?_
              refine hJ1 ((c3.extract 1 c3.size).size) _ _ _ (by rw [h3x]; omega) ⟨c3.extract 1 c3.size, s2, true, D2, rfl, rfl, rfl, hP, by simp [go_sem, hz0, h0, hg, h1s, h1i, xindex, xslice, k1, g0, g1, g7, g8, g10, g11, g12, h03, hz3, hg3', h13, h13i, k93, hb, hrl0, hrl1], by simp [go_sem, hz0, h0, hg, h1s, h1i, xindex, xslice, k1, g0, g1, g7, g8, g10, g11, g12, h03, hz3, hg3', h13, h13i, k93, hb, hrl0, hrl1], by simp [go_sem, hz0, h0, hg, h1s, h1i, xindex, xslice, k1, g0, g1, g7, g8, g10, g11, g12, h03, hz3, hg3', h13, h13i, k93, hb, hrl0, hrl1], View.le_trans hAD hDD, by omega, hs2, hac3.drop 1, has2, by rw [hK]; rfl⟩
            | false =>
              cases m with
              | true =>
                cases neg with
                | true =>
                  refine xc_reg1 12 rfl fun K hK => ?_
                  simp only [show (List.range 12).map (·, true) = [(0, true), (1, true), (2, true), (3, true), (4, true), (5, true), (6, true), (7, true), (8, true), (9, true), (10, true), (11, true)] from rfl, rslv_cons, rslv_nil, List.getElem?_toArray, List.getElem?_cons_zero, List.getElem?_cons_succ, gres]
                  iterate 12 (refine seqX_hide2 fun R hR => ?_; simp [go_sem, hz0, h0, hg, h1s, h1i, xindex, xslice, k1, g0, g1, g7, g8, g10, g11, g12, h03, hz3, hg3', h13, h13i, k93, hb, hrl0, hrl1]; refine hR _ _ _ ?_; clear hR R)
                  rw [seqX_nil]
                  refine hK _ _ _ ?_; clear hK K
                  refine hN27 _ _ _ ?_
                  refine xc_iftrue (by simp [go_sem, hz0, h0, hg, h1s, h1i, xindex, xslice, k1, g0, g1, g7, g8, g10, g11, g12, h03, hz3, hg3', h13, h13i, k93, hb, hrl0, hrl1]) ?_
                  refine xc_two fun N28 hN28 => ?_
                  refine xc_reg1 3 rfl fun K hK => ?_
                  simp only [show (List.range 3).map (·, true) = [(0, true), (1, true), (2, true)] from rfl, rslv_cons, rslv_nil, List.getElem?_toArray, List.getElem?_cons_zero, List.getElem?_cons_succ, gres]
                  iterate 3 (refine seqX_hide2 fun R hR => ?_; simp [go_sem, hz0, h0, hg, h1s, h1i, xindex, xslice, k1, g0, g1, g7, g8, g10, g11, g12, h03, hz3, hg3', h13, h13i, k93, hb, hrl0, hrl1]; refine hR _ _ _ ?_; clear hR R)
                  rw [seqX_nil]
                  refine hK _ _ _ ?_; clear hK K
                  refine hN28 _ _ _ ?_
                  refine hX2 _ _ _ _ ?_
                  refine hN25 _ _ _ ?_
                  refine xc_reg1 7 rfl fun K hK => ?_
                  simp only [show (List.range 7).map (·, true) = [(0, true), (1, true), (2, true), (3, true), (4, true), (5, true), (6, true)] from rfl, rslv_cons, rslv_nil, List.getElem?_toArray, List.getElem?_cons_zero, List.getElem?_cons_succ, gres]
                  iterate 7 (refine seqX_hide2 fun R hR => ?_; simp [go_sem, hz0, h0, hg, h1s, h1i, xindex, xslice, k1, g0, g1, g7, g8, g10, g11, g12, h03, hz3, hg3', h13, h13i, k93, hb, hrl0, hrl1]; refine hR _ _ _ ?_; clear hR R)
                  rw [seqX_nil]
                  refine hK _ _ _ ?_; clear hK K
                  refine hN15 _ _ _ ?_
                  refine hJ1 ((c3.extract 1 c3.size).size) _ _ _ (by rw [h3x]; omega) ⟨c3.extract 1 c3.size, s2, true, D2, rfl, rfl, rfl, hP, by simp [go_sem, hz0, h0, hg, h1s, h1i, xindex, xslice, k1, g0, g1, g7, g8, g10, g11, g12, h03, hz3, hg3', h13, h13i, k93, hb, hrl0, hrl1], by simp [go_sem, hz0, h0, hg, h1s, h1i, xindex, xslice, k1, g0, g1, g7, g8, g10, g11, g12, h03, hz3, hg3', h13, h13i, k93, hb, hrl0, hrl1], by simp [go_sem, hz0, h0, hg, h1s, h1i, xindex, xslice, k1, g0, g1, g7, g8, g10, g11, g12, h03, hz3, hg3', h13, h13i, k93, hb, hrl0, hrl1], View.le_trans hAD hDD, by omega, hs2, hac3.drop 1, has2, by rw [hK]; rfl⟩
                | false =>
                  refine xc_reg1 12 rfl fun K hK => ?_
                  simp only [show (List.range 12).map (·, true) = [(0, true), (1, true), (2, true), (3, true), (4, true), (5, true), (6, true), (7, true), (8, true), (9, true), (10, true), (11, true)] from rfl, rslv_cons, rslv_nil, List.getElem?_toArray, List.getElem?_cons_zero, List.getElem?_cons_succ, gres]
                  iterate 12 (refine seqX_hide2 fun R hR => ?_; simp [go_sem, hz0, h0, hg, h1s, h1i, xindex, xslice, k1, g0, g1, g7, g8, g10, g11, g12, h03, hz3, hg3', h13, h13i, k93, hb, hrl0, hrl1]; refine hR _ _ _ ?_; clear hR R)
                  rw [seqX_nil]
                  refine hK _ _ _ ?_; clear hK K
                  refine hN27 _ _ _ ?_
                  refine xc_iftrue (by simp [go_sem, hz0, h0, hg, h1s, h1i, xindex, xslice, k1, g0, g1, g7, g8, g10, g11, g12, h03, hz3, hg3', h13, h13i, k93, hb, hrl0, hrl1]) ?_
                  refine xc_two fun N28 hN28 => ?_
                  refine xc_reg1 3 rfl fun K hK => ?_
                  simp only [show (List.range 3).map (·, true) = [(0, true), (1, true), (2, true)] from rfl, rslv_cons, rslv_nil, List.getElem?_toArray, List.getElem?_cons_zero, List.getElem?_cons_succ, gres]
                  iterate 3 (refine seqX_hide2 fun R hR => ?_; simp [go_sem, hz0, h0, hg, h1s, h1i, xindex, xslice, k1, g0, g1, g7, g8, g10, g11, g12, h03, hz3, hg3', h13, h13i, k93, hb, hrl0, hrl1]; refine hR _ _ _ ?_; clear hR R)
                  rw [seqX_nil]
                  refine hK _ _ _ ?_; clear hK K
                  refine hN28 _ _ _ ?_
                  refine hX2 _ _ _ _ ?_
                  refine hN25 _ _ _ ?_
                  refine xc_reg1 7 rfl fun K hK => ?_
                  simp only [show (List.range 7).map (·, true) = [(0, true), (1, true), (2, true), (3, true), (4, true), (5, true), (6, true)] from rfl, rslv_cons, rslv_nil, List.getElem?_toArray, List.getElem?_cons_zero, List.getElem?_cons_succ, gres]
                  iterate 7 (refine seqX_hide2 fun R hR => ?_; simp [go_sem, hz0, h0, hg, h1s, h1i, xindex, xslice, k1, g0, g1, g7, g8, g10, g11, g12, h03, hz3, hg3', h13, h13i, k93, hb, hrl0, hrl1]; refine hR _ _ _ ?_; clear hR R)
                  rw [seqX_nil]
                  refine hK _ _ _ ?_; clear hK K
                  refine hN15 _ _ _ ?_
                  refine hJ1 ((c3.extract 1 c3.size).size) _ _ _ (by rw [h3x]; omega) ⟨c3.extract 1 c3.size, s2, false, D2, rfl, rfl, rfl, hP, by simp [go_sem, hz0, h0, hg, h1s, h1i, xindex, xslice, k1, g0, g1, g7, g8, g10, g11, g12, h03, hz3, hg3', h13, h13i, k93, hb, hrl0, hrl1], by simp [go_sem, hz0, h0, hg, h1s, h1i, xindex, xslice, k1, g0, g1, g7, g8, g10, g11, g12, h03, hz3, hg3', h13, h13i, k93, hb, hrl0, hrl1], by simp [go_sem, hz0, h0, hg, h1s, h1i, xindex, xslice, k1, g0, g1, g7, g8, g10, g11, g12, h03, hz3, hg3', h13, h13i, k93, hb, hrl0, hrl1], View.le_trans hAD hDD, by omega, hs2, hac3.drop 1, has2, by rw [hK]; rfl⟩
              | false =>
                cases neg with
                | true =>
                  refine xc_reg1 12 rfl fun K hK => ?_
                  simp only [show (List.range 12).map (·, true) = [(0, true), (1, true), (2, true), (3, true), (4, true), (5, true), (6, true), (7, true), (8, true), (9, true), (10, true), (11, true)] from rfl, rslv_cons, rslv_nil, List.getElem?_toArray, List.getElem?_cons_zero, List.getElem?_cons_succ, gres]
                  iterate 12 (refine seqX_hide2 fun R hR => ?_; simp [go_sem, hz0, h0, hg, h1s, h1i, xindex, xslice, k1, g0, g1, g7, g8, g10, g11, g12, h03, hz3, hg3', h13, h13i, k93, hb, hrl0, hrl1]; refine hR _ _ _ ?_; clear hR R)
                  rw [seqX_nil]
                  refine hK _ _ _ ?_; clear hK K
                  refine hN27 _ _ _ ?_
                  refine xc_iftrue (by simp [go_sem, hz0, h0, hg, h1s, h1i, xindex, xslice, k1, g0, g1, g7, g8, g10, g11, g12, h03, hz3, hg3', h13, h13i, k93, hb, hrl0, hrl1]) ?_
                  refine xc_two fun N28 hN28 => ?_
                  refine xc_reg1 3 rfl fun K hK => ?_
                  simp only [show (List.range 3).map (·, true) = [(0, true), (1, true), (2, true)] from rfl, rslv_cons, rslv_nil, List.getElem?_toArray, List.getElem?_cons_zero, List.getElem?_cons_succ, gres]
                  iterate 3 (refine seqX_hide2 fun R hR => ?_; simp [go_sem, hz0, h0, hg, h1s, h1i, xindex, xslice, k1, g0, g1, g7, g8, g10, g11, g12, h03, hz3, hg3', h13, h13i, k93, hb, hrl0, hrl1]; refine hR _ _ _ ?_; clear hR R)
                  rw [seqX_nil]
                  refine hK _ _ _ ?_; clear hK K
                  refine hN28 _ _ _ ?_
                  refine hX2 _ _ _ _ ?_
                  refine hN25 _ _ _ ?_
                  refine xc_reg1 7 rfl fun K hK => ?_
                  simp only [show (List.range 7).map (·, true) = [(0, true), (1, true), (2, true), (3, true), (4, true), (5, true), (6, true)] from rfl, rslv_cons, rslv_nil, List.getElem?_toArray, List.getElem?_cons_zero, List.getElem?_cons_succ, gres]
                  iterate 7 (refine seqX_hide2 fun R hR => ?_; simp [go_sem, hz0, h0, hg, h1s, h1i, xindex, xslice, k1, g0, g1, g7, g8, g10, g11, g12, h03, hz3, hg3', h13, h13i, k93, hb, hrl0, hrl1]; refine hR _ _ _ ?_; clear hR R)
                  rw [seqX_nil]
                  refine hK _ _ _ ?_; clear hK K
                  refine hN15 _ _ _ ?_
                  refine hJ1 ((c3.extract 1 c3.size).size) _ _ _ (by rw [h3x]; omega) ⟨c3.extract 1 c3.size, s2, false, D2, rfl, rfl, rfl, hP, by simp [go_sem, hz0, h0, hg, h1s, h1i, xindex, xslice, k1, g0, g1, g7, g8, g10, g11, g12, h03, hz3, hg3', h13, h13i, k93, hb, hrl0, hrl1], by simp [go_sem, hz0, h0, hg, h1s, h1i, xindex, xslice, k1, g0, g1, g7, g8, g10, g11, g12, h03, hz3, hg3', h13, h13i, k93, hb, hrl0, hrl1], by simp [go_sem, hz0, h0, hg, h1s, h1i, xindex, xslice, k1, g0, g1, g7, g8, g10, g11, g12, h03, hz3, hg3', h13, h13i, k93, hb, hrl0, hrl1], View.le_trans hAD hDD, by omega, hs2, hac3.drop 1, has2, by rw [hK]; rfl⟩
                | false =>
                  refine xc_reg1 12 rfl fun K hK => ?_
                  simp only [show (List.range 12).map (·, true) = [(0, true), (1, true), (2, true), (3, true), (4, true), (5, true), (6, true), (7, true), (8, true), (9, true), (10, true), (11, true)] from rfl, rslv_cons, rslv_nil, List.getElem?_toArray, List.getElem?_cons_zero, List.getElem?_cons_succ, gres]
                  iterate 12 (refine seqX_hide2 fun R hR => ?_; simp [go_sem, hz0, h0, hg, h1s, h1i, xindex, xslice, k1, g0, g1, g7, g8, g10, g11, g12, h03, hz3, hg3', h13, h13i, k93, hb, hrl0, hrl1]; refine hR _ _ _ ?_; clear hR R)
                  rw [seqX_nil]
                  refine hK _ _ _ ?_; clear hK K
                  refine hN27 _ _ _ ?_
                  refine xc_iftrue (by simp [go_sem, hz0, h0, hg, h1s, h1i, xindex, xslice, k1, g0, g1, g7, g8, g10, g11, g12, h03, hz3, hg3', h13, h13i, k93, hb, hrl0, hrl1]) ?_
                  refine xc_two fun N28 hN28 => ?_
                  refine xc_reg1 3 rfl fun K hK => ?_
                  simp only [show (List.range 3).map (·, true) = [(0, true), (1, true), (2, true)] from rfl, rslv_cons, rslv_nil, List.getElem?_toArray, List.getElem?_cons_zero, List.getElem?_cons_succ, gres]
                  iterate 3 (refine seqX_hide2 fun R hR => ?_; simp [go_sem, hz0, h0, hg, h1s, h1i, xindex, xslice, k1, g0, g1, g7, g8, g10, g11, g12, h03, hz3, hg3', h13, h13i, k93, hb, hrl0, hrl1]; refine hR _ _ _ ?_; clear hR R)
                  rw [seqX_nil]
                  refine hK _ _ _ ?_; clear hK K
                  refine hN28 _ _ _ ?_
                  refine hX2 _ _ _ _ ?_
                  refine hN25 _ _ _ ?_
                  refine xc_reg1 7 rfl fun K hK => ?_
                  simp only [show (List.range 7).map (·, true) = [(0, true), (1, true), (2, true), (3, true), (4, true), (5, true), (6, true)] from rfl, rslv_cons, rslv_nil, List.getElem?_toArray, List.getElem?_cons_zero, List.getElem?_cons_succ, gres]
                  iterate 7 (refine seqX_hide2 fun R hR => ?_; simp [go_sem, hz0, h0, hg, h1s, h1i, xindex, xslice, k1, g0, g1, g7, g8, g10, g11, g12, h03, hz3, hg3', h13, h13i, k93, hb, hrl0, hrl1]; refine hR _ _ _ ?_; clear hR R)
                  rw [seqX_nil]
                  refine hK _ _ _ ?_; clear hK K
                  refine hN15 _ _ _ ?_
                  refine hJ1 ((c3.extract 1 c3.size).size) _ _ _ (by rw [h3x]; omega) ⟨c3.extract 1 c3.size, s2, true, D2, rfl, rfl, rfl, hP, by simp [go_sem, hz0, h0, hg, h1s, h1i, xindex, xslice, k1, g0, g1, g7, g8, g10, g11, g12, h03, hz3, hg3', h13, h13i, k93, hb, hrl0, hrl1], by simp [go_sem, hz0, h0, hg, h1s, h1i, xindex, xslice, k1, g0, g1, g7, g8, g10, g11, g12, h03, hz3, hg3', h13, h13i, k93, hb, hrl0, hrl1], by simp [go_sem, hz0, h0, hg, h1s, h1i, xindex, xslice, k1, g0, g1, g7, g8, g10, g11, g12, h03, hz3, hg3', h13, h13i, k93, hb, hrl0, hrl1], View.le_trans hAD hDD, by omega, hs2, hac3.drop 1, has2, by rw [hK]; rfl⟩
          by_cases h01 : 0 < c1.size
          rotate_left
          · have hz1 : ¬ (0 : Int) < c1.size := by omega
            have hn1 : nb c1 = [] := nb_nil.2 (by omega)
            have hgo0 : clsGo [] [] = none := by rw [clsGo]
            refine xc_reg1 8 rfl fun K hK => ?_
            simp only [show (List.range 8).map (·, true) = [(0, true), (1, true), (2, true), (3, true), (4, true), (5, true), (6, true), (7, true)] from rfl, rslv_cons, rslv_nil, List.getElem?_toArray, List.getElem?_cons_zero, List.getElem?_cons_succ, gres]
            iterate 8 (refine seqX_hide2 fun R hR => ?_; simp [go_sem, hz0, h0, hg, h1s, h1i, xindex, xslice, k1, g0, g1, g7, g8, hc1, h01, hz1]; refine hR _ _ _ ?_; clear hR R)
            rw [seqX_nil]
            refine hK _ _ _ ?_; clear hK K
            refine hN22 _ _ _ ?_
            refine xc_iffalse (by simp [go_sem, hz0, h0, hg, h1s, h1i, xindex, xslice, k1, g0, g1, g7, g8, hc1, h01, hz1]) ?_
            exact ng (false) (c1) _ hP (by simp [go_sem, hz0, h0, hg, h1s, h1i, xindex, xslice, k1, g0, g1, g7, g8, hc1, h01, hz1]) (by simp [go_sem, hz0, h0, hg, h1s, h1i, xindex, xslice, k1, g0, g1, g7, g8, hc1, h01, hz1]) (by simp [go_sem, hz0, h0, hg, h1s, h1i, xindex, xslice, k1, g0, g1, g7, g8, hc1, h01, hz1]) (by simp [go_sem, hz0, h0, hg, h1s, h1i, xindex, xslice, k1, g0, g1, g7, g8, hc1, h01, hz1]) (by simp [go_sem, hz0, h0, hg, h1s, h1i, xindex, xslice, k1, g0, g1, g7, g8, hc1, h01, hz1]) (hcle) (hac1) (fun rs q h => by rw [hn1, hgo0] at h; cases h) (fun _ => hcn (by rw [hn1, cls1_pos (by simp), hgo0]; rfl))
          have hz1 : (0 : Int) < c1.size := by omega
          have hg1 : c1[0]? = some c1[0] := getElem?_pos c1 0 h01
          have h11 : 1 ≤ c1.size := by omega
          have h11i : (1 : Int) ≤ c1.size := by omega
          have h1c := nb_cons h01
          have h1x := extract_size' c1 1 (by omega)
          by_cases k94 : c1[0].toNat = 94
          · have hb : ((c1[0].toNat : Int) == 94) = true := by simp [k94]
            have hcg : cls1 (nb c1) = (clsGo (nb (c1.extract 1 c1.size)) []).map fun p => (.cls true p.1, p.2) := by rw [h1c, k94, cls1_neg]
            refine xc_reg1 8 rfl fun K hK => ?_
            simp only [show (List.range 8).map (·, true) = [(0, true), (1, true), (2, true), (3, true), (4, true), (5, true), (6, true), (7, true)] from rfl, rslv_cons, rslv_nil, List.getElem?_toArray, List.getElem?_cons_zero, List.getElem?_cons_succ, gres]
            iterate 8 (refine seqX_hide2 fun R hR => ?_; simp [go_sem, hz0, h0, hg, h1s, h1i, xindex, xslice, k1, g0, g1, g7, g8, hc1, h01, hz1, hg1, h11, h11i, k94, hb]; refine hR _ _ _ ?_; clear hR R)
            rw [seqX_nil]
            refine hK _ _ _ ?_; clear hK K
            refine hN22 _ _ _ ?_
            refine xc_iftrue (by simp [go_sem, hz0, h0, hg, h1s, h1i, xindex, xslice, k1, g0, g1, g7, g8, hc1, h01, hz1, hg1, h11, h11i, k94, hb]) ?_
            refine xc_two fun N23 hN23 => ?_
            refine xc_reg1 1 rfl fun K hK => ?_
            simp only [show (List.range 1).map (·, true) = [(0, true)] from rfl, rslv_cons, rslv_nil, List.getElem?_toArray, List.getElem?_cons_zero, List.getElem?_cons_succ, gres]
            (refine seqX_hide2 fun R hR => ?_; simp [go_sem, hz0, h0, hg, h1s, h1i, xindex, xslice, k1, g0, g1, g7, g8, hc1, h01, hz1, hg1, h11, h11i, k94, hb]; refine hR _ _ _ ?_; clear hR R)
            rw [seqX_nil]
            refine hK _ _ _ ?_; clear hK K
            refine hN23 _ _ _ ?_
            refine xc_reg1 3 rfl fun K hK => ?_
            simp only [show (List.range 3).map (·, true) = [(0, true), (1, true), (2, true)] from rfl, rslv_cons, rslv_nil, List.getElem?_toArray, List.getElem?_cons_zero, List.getElem?_cons_succ, gres]
            iterate 3 (refine seqX_hide2 fun R hR => ?_; simp [go_sem, hz0, h0, hg, h1s, h1i, xindex, xslice, k1, g0, g1, g7, g8, hc1, h01, hz1, hg1, h11, h11i, k94, hb]; refine hR _ _ _ ?_; clear hR R)
            rw [seqX_nil]
            refine hK _ _ _ ?_; clear hK K
            exact ng (true) (c1.extract 1 c1.size) _ hP (by simp [go_sem, hz0, h0, hg, h1s, h1i, xindex, xslice, k1, g0, g1, g7, g8, hc1, h01, hz1, hg1, h11, h11i, k94, hb]) (by simp [go_sem, hz0, h0, hg, h1s, h1i, xindex, xslice, k1, g0, g1, g7, g8, hc1, h01, hz1, hg1, h11, h11i, k94, hb]) (by simp [go_sem, hz0, h0, hg, h1s, h1i, xindex, xslice, k1, g0, g1, g7, g8, hc1, h01, hz1, hg1, h11, h11i, k94, hb]) (by simp [go_sem, hz0, h0, hg, h1s, h1i, xindex, xslice, k1, g0, g1, g7, g8, hc1, h01, hz1, hg1, h11, h11i, k94, hb]) (by simp [go_sem, hz0, h0, hg, h1s, h1i, xindex, xslice, k1, g0, g1, g7, g8, hc1, h01, hz1, hg1, h11, h11i, k94, hb]) (by omega) (hac1.drop 1) (fun rs q h => by rw [← takes_cls]; exact hcl _ _ (by rw [hcg, h]; rfl)) (fun h => hcn (by rw [hcg, h]; rfl))
          · have hb : ((c1[0].toNat : Int) == 94) = false := beq_eq_false_iff_ne.2 (by omega)
            have hbn : ¬ (c1[0].toNat : Int) = 94 := by omega
            have hcg : cls1 (nb c1) = (clsGo (nb c1) []).map fun p => (.cls false p.1, p.2) := cls1_pos fun r' h => k94 (by rw [h1c] at h; exact (List.cons.inj h).1)
            refine xc_reg1 8 rfl fun K hK => ?_
            simp only [show (List.range 8).map (·, true) = [(0, true), (1, true), (2, true), (3, true), (4, true), (5, true), (6, true), (7, true)] from rfl, rslv_cons, rslv_nil, List.getElem?_toArray, List.getElem?_cons_zero, List.getElem?_cons_succ, gres]
            iterate 8 (refine seqX_hide2 fun R hR => ?_; simp [go_sem, hz0, h0, hg, h1s, h1i, xindex, xslice, k1, g0, g1, g7, g8, hc1, h01, hz1, hg1, h11, h11i, k94, hb, hbn]; refine hR _ _ _ ?_; clear hR R)
            rw [seqX_nil]
            refine hK _ _ _ ?_; clear hK K
            refine hN22 _ _ _ ?_
            refine xc_iffalse (by simp [go_sem, hz0, h0, hg, h1s, h1i, xindex, xslice, k1, g0, g1, g7, g8, hc1, h01, hz1, hg1, h11, h11i, k94, hb, hbn]) ?_
            exact ng (false) (c1) _ hP (by simp [go_sem, hz0, h0, hg, h1s, h1i, xindex, xslice, k1, g0, g1, g7, g8, hc1, h01, hz1, hg1, h11, h11i, k94, hb, hbn]) (by simp [go_sem, hz0, h0, hg, h1s, h1i, xindex, xslice, k1, g0, g1, g7, g8, hc1, h01, hz1, hg1, h11, h11i, k94, hb, hbn]) (by simp [go_sem, hz0, h0, hg, h1s, h1i, xindex, xslice, k1, g0, g1, g7, g8, hc1, h01, hz1, hg1, h11, h11i, k94, hb, hbn]) (by simp [go_sem, hz0, h0, hg, h1s, h1i, xindex, xslice, k1, g0, g1, g7, g8, hc1, h01, hz1, hg1, h11, h11i, k94, hb, hbn]) (by simp [go_sem, hz0, h0, hg, h1s, h1i, xindex, xslice, k1, g0, g1, g7, g8, hc1, h01, hz1, hg1, h11, h11i, k94, hb, hbn]) (hcle) (hac1) (fun rs q h => by rw [← takes_cls]; exact hcl _ _ (by rw [hcg, h]; rfl)) (fun h => hcn (by rw [hcg, h]; rfl))
        have hbad : cls1 (nb (c.extract 1 c.size)) = none → K0 = none := fun h => by
          rw [← hout]
          exact Pm.out_bad (by rw [hc91, Pm.pat_cls, h])
        have hitem : ∀ x q, cls1 (nb (c.extract 1 c.size)) = some (x, q) → pat false (nb c) = (pat false q).map (x :: ·) := fun x q h => by rw [hc91, Pm.pat_cls, h]
        cases f with
        | true =>
          refine xc_iffalse (by simp [go_sem, hz0, h0, hg, h1s, h1i, xindex, xslice, g0, g1, g7, k1]) ?_
          exact rd (0) (s) _ hP (by simp [go_sem, hz0, h0, hg, h1s, h1i, xindex, xslice, g0, g1, g7, k1]) (by simp [go_sem, hz0, h0, hg, h1s, h1i, xindex, xslice, g0, g1, g7, k1]) (by simp [go_sem, hz0, h0, hg, h1s, h1i, xindex, xslice, g0, g1, g7, k1]) (by simp [go_sem, hz0, h0, hg, h1s, h1i, xindex, xslice, g0, g1, g7, k1]) (hss) (has) (fun x q h => by rw [← hout, (Pm.out_item (hitem x q h) true (nb s)).1 rfl]; rfl) (hbad)
        | false =>
          have hs0 := hfs rfl
          have h1ss : 1 ≤ s.size := by omega
          have h1is : (1 : Int) ≤ s.size := by omega
          have hconss := nb_cons hs0
          have hexs := extract_size' s 1 (by omega)
          refine xc_iftrue (by simp [go_sem, hz0, h0, hg, h1s, h1i, xindex, xslice, g0, g1, g7, k1, h1ss, h1is]) ?_
          refine xc_two fun N19 hN19 => ?_
          refine xc_reg1 1 rfl fun K hK => ?_
          simp only [show (List.range 1).map (·, true) = [(0, true)] from rfl, rslv_cons, rslv_nil, List.getElem?_toArray, List.getElem?_cons_zero, List.getElem?_cons_succ, gres]
          (refine seqX_hide2 fun R hR => ?_; simp [go_sem, hz0, h0, hg, h1s, h1i, xindex, xslice, g0, g1, g7, k1, h1ss, h1is]; refine hR _ _ _ ?_; clear hR R)
          rw [seqX_nil]
          refine hK _ _ _ ?_; clear hK K
          refine hN19 _ _ _ ?_
          refine xc_two fun N20 hN20 => ?_
          refine xc_reg1 7 rfl fun K hK => ?_
          simp only [show (List.range 7).map (·, true) = [(0, true), (1, true), (2, true), (3, true), (4, true), (5, true), (6, true)] from rfl, rslv_cons, rslv_nil, List.getElem?_toArray, List.getElem?_cons_zero, List.getElem?_cons_succ, gres]
          (refine seqX_hide2 fun R hR => ?_; simp [go_sem, hz0, h0, hg, h1s, h1i, xindex, xslice, g0, g1, g7, k1, h1ss, h1is]; refine hR _ _ _ ?_; clear hR R)
          refine seqX_hide2 fun R hR => ?_
          simp [go_sem, hz0, h0, hg, h1s, h1i, xindex, xslice, g0, g1, g7, k1, h1ss, h1is]
          refine call_same hP (rune53 D s hs0 (has.at' hs0)) ?_
          rintro _ rfl
          refine hR _ _ _ ?_; clear hR R
          iterate 5 (refine seqX_hide2 fun R hR => ?_; simp [go_sem, hz0, h0, hg, h1s, h1i, xindex, xslice, g0, g1, g7, k1, h1ss, h1is]; refine hR _ _ _ ?_; clear hR R)
          rw [seqX_nil]
          refine hK _ _ _ ?_; clear hK K
          refine hN20 _ _ _ ?_
          refine xc_reg1 4 rfl fun K hK => ?_
          simp only [show (List.range 4).map (·, true) = [(0, true), (1, true), (2, true), (3, true)] from rfl, rslv_cons, rslv_nil, List.getElem?_toArray, List.getElem?_cons_zero, List.getElem?_cons_succ, gres]
          iterate 4 (refine seqX_hide2 fun R hR => ?_; simp [go_sem, hz0, h0, hg, h1s, h1i, xindex, xslice, g0, g1, g7, k1, h1ss, h1is]; refine hR _ _ _ ?_; clear hR R)
          rw [seqX_nil]
          refine hK _ _ _ ?_; clear hK K
          exact rd (s[0].toNat) (s.extract 1 s.size) _ hP (by simp [go_sem, hz0, h0, hg, h1s, h1i, xindex, xslice, g0, g1, g7, k1, h1ss, h1is]) (by simp [go_sem, hz0, h0, hg, h1s, h1i, xindex, xslice, g0, g1, g7, k1, h1ss, h1is]) (by simp [go_sem, hz0, h0, hg, h1s, h1i, xindex, xslice, g0, g1, g7, k1, h1ss, h1is]) (by simp [go_sem, hz0, h0, hg, h1s, h1i, xindex, xslice, g0, g1, g7, k1, h1ss, h1is]) (by omega) (has.drop 1) (fun x q h => by rw [← hout, (Pm.out_item (hitem x q h) false (nb s)).2 _ _ rfl hconss]; rfl) (hbad)
      have k1b : ((c[0].toNat : Int) == 91) = false := beq_eq_false_iff_ne.2 (by omega)
      have k1n : ¬ (c[0].toNat : Int) = 91 := by omega
      by_cases k2 : c[0].toNat = 63
      · skip
        have hp3 : pat false (nb c) = (pat false (nb (c.extract 1 c.size))).map (.any :: ·) := by rw [hcons, k2, Pm.pat_any]
        obtain ⟨o1, o2⟩ := Pm.out_item hp3 f (nb s)
        cases f with
        | true =>
          refine xc_reg1 2 rfl fun K hK => ?_
          simp only [show (List.range 2).map (·, true) = [(0, true), (1, true)] from rfl, rslv_cons, rslv_nil, List.getElem?_toArray, List.getElem?_cons_zero, List.getElem?_cons_succ, gres]
          iterate 2 (refine seqX_hide2 fun R hR => ?_; simp [go_sem, hz0, h0, hg, h1s, h1i, xindex, xslice, g0, g1, g7, k1, k1b, k1n, k2]; refine hR _ _ _ ?_; clear hR R)
          rw [seqX_nil]
          refine hK _ _ _ ?_; clear hK K
          refine hN14 _ _ _ ?_
          refine xc_iffalse (by simp [go_sem, hz0, h0, hg, h1s, h1i, xindex, xslice, g0, g1, g7, k1, k1b, k1n, k2]) ?_
          refine hN13 _ _ _ ?_
          refine xc_two fun N15 hN15 => ?_
          refine xc_two fun N16 hN16 => ?_
          refine xc_reg1 2 rfl fun K hK => ?_
          simp only [show (List.range 2).map (·, true) = [(0, true), (1, true)] from rfl, rslv_cons, rslv_nil, List.getElem?_toArray, List.getElem?_cons_zero, List.getElem?_cons_succ, gres]
          iterate 2 (refine seqX_hide2 fun R hR => ?_; simp [go_sem, hz0, h0, hg, h1s, h1i, xindex, xslice, g0, g1, g7, k1, k1b, k1n, k2]; refine hR _ _ _ ?_; clear hR R)
          rw [seqX_nil]
          refine hK _ _ _ ?_; clear hK K
          refine hN16 _ _ _ ?_
          refine xc_iftrue (by simp [go_sem, hz0, h0, hg, h1s, h1i, xindex, xslice, g0, g1, g7, k1, k1b, k1n, k2]) ?_
          refine hN10 _ _ _ ?_
          refine xc_two fun N17 hN17 => ?_
          refine xc_two fun N18 hN18 => ?_
          refine xc_two fun N19 hN19 => ?_
          refine xc_reg1 2 rfl fun K hK => ?_
          simp only [show (List.range 2).map (·, true) = [(0, true), (1, true)] from rfl, rslv_cons, rslv_nil, List.getElem?_toArray, List.getElem?_cons_zero, List.getElem?_cons_succ, gres]
          iterate 2 (refine seqX_hide2 fun R hR => ?_; simp [go_sem, hz0, h0, hg, h1s, h1i, xindex, xslice, g0, g1, g7, k1, k1b, k1n, k2]; refine hR _ _ _ ?_; clear hR R)
          rw [seqX_nil]
          refine hK _ _ _ ?_; clear hK K
          refine hN19 _ _ _ ?_
          refine xc_iffalse (by simp [go_sem, hz0, h0, hg, h1s, h1i, xindex, xslice, g0, g1, g7, k1, k1b, k1n, k2]) ?_
          refine hN18 _ _ _ ?_
          refine xc_reg1 3 rfl fun K hK => ?_
          simp only [show (List.range 3).map (·, true) = [(0, true), (1, true), (2, true)] from rfl, rslv_cons, rslv_nil, List.getElem?_toArray, List.getElem?_cons_zero, List.getElem?_cons_succ, gres]
          iterate 3 (refine seqX_hide2 fun R hR => ?_; simp [go_sem, hz0, h0, hg, h1s, h1i, xindex, xslice, g0, g1, g7, k1, k1b, k1n, k2]; refine hR _ _ _ ?_; clear hR R)
          rw [seqX_nil]
          refine hK _ _ _ ?_; clear hK K
          refine hN17 _ _ _ ?_
          refine hJ1 ((c.extract 1 c.size).size) _ _ _ (by rw [hex]; omega) ⟨c.extract 1 c.size, s, true, D, rfl, rfl, rfl, hP, by simp [go_sem, hz0, h0, hg, h1s, h1i, xindex, xslice, g0, g1, g7, k1, k1b, k1n, k2], by simp [go_sem, hz0, h0, hg, h1s, h1i, xindex, xslice, g0, g1, g7, k1, k1b, k1n, k2], by simp [go_sem, hz0, h0, hg, h1s, h1i, xindex, xslice, g0, g1, g7, k1, k1b, k1n, k2], hAD, by omega, hss, hac1, has, by rw [← hout, o1 rfl]⟩
        | false =>
          have hs0 := hfs rfl
          have hgs : s[0]? = some s[0] := getElem?_pos s 0 hs0
          have h1ss : 1 ≤ s.size := by omega
          have h1is : (1 : Int) ≤ s.size := by omega
          have hconss := nb_cons hs0
          have hexs := extract_size' s 1 (by omega)
          by_cases k3 : s[0].toNat = 47
          · have hb : ((s[0].toNat : Int) == 47) = true := by simp [k3]
            have htk : (!takes .any s[0].toNat) = true := by rw [k3]; rfl
            refine xc_reg1 2 rfl fun K hK => ?_
            simp only [show (List.range 2).map (·, true) = [(0, true), (1, true)] from rfl, rslv_cons, rslv_nil, List.getElem?_toArray, List.getElem?_cons_zero, List.getElem?_cons_succ, gres]
            iterate 2 (refine seqX_hide2 fun R hR => ?_; simp [go_sem, hz0, h0, hg, h1s, h1i, xindex, xslice, g0, g1, g7, k1, k1b, k1n, k2, hgs, h1ss, h1is, hs0, k3, hb]; refine hR _ _ _ ?_; clear hR R)
            rw [seqX_nil]
            refine hK _ _ _ ?_; clear hK K
            refine hN14 _ _ _ ?_
            refine xc_iffalse (by simp [go_sem, hz0, h0, hg, h1s, h1i, xindex, xslice, g0, g1, g7, k1, k1b, k1n, k2, hgs, h1ss, h1is, hs0, k3, hb]) ?_
            refine hN13 _ _ _ ?_
            refine xc_two fun N15 hN15 => ?_
            refine xc_two fun N16 hN16 => ?_
            refine xc_reg1 2 rfl fun K hK => ?_
            simp only [show (List.range 2).map (·, true) = [(0, true), (1, true)] from rfl, rslv_cons, rslv_nil, List.getElem?_toArray, List.getElem?_cons_zero, List.getElem?_cons_succ, gres]
            iterate 2 (refine seqX_hide2 fun R hR => ?_; simp [go_sem, hz0, h0, hg, h1s, h1i, xindex, xslice, g0, g1, g7, k1, k1b, k1n, k2, hgs, h1ss, h1is, hs0, k3, hb]; refine hR _ _ _ ?_; clear hR R)
            rw [seqX_nil]
            refine hK _ _ _ ?_; clear hK K
            refine hN16 _ _ _ ?_
            refine xc_iftrue (by simp [go_sem, hz0, h0, hg, h1s, h1i, xindex, xslice, g0, g1, g7, k1, k1b, k1n, k2, hgs, h1ss, h1is, hs0, k3, hb]) ?_
            refine hN10 _ _ _ ?_
            refine xc_two fun N17 hN17 => ?_
            refine xc_two fun N18 hN18 => ?_
            refine xc_two fun N19 hN19 => ?_
            refine xc_reg1 2 rfl fun K hK => ?_
            simp only [show (List.range 2).map (·, true) = [(0, true), (1, true)] from rfl, rslv_cons, rslv_nil, List.getElem?_toArray, List.getElem?_cons_zero, List.getElem?_cons_succ, gres]
            iterate 2 (refine seqX_hide2 fun R hR => ?_; simp [go_sem, hz0, h0, hg, h1s, h1i, xindex, xslice, g0, g1, g7, k1, k1b, k1n, k2, hgs, h1ss, h1is, hs0, k3, hb]; refine hR _ _ _ ?_; clear hR R)
            rw [seqX_nil]
            refine hK _ _ _ ?_; clear hK K
            refine hN19 _ _ _ ?_
            refine xc_iftrue (by simp [go_sem, hz0, h0, hg, h1s, h1i, xindex, xslice, g0, g1, g7, k1, k1b, k1n, k2, hgs, h1ss, h1is, hs0, k3, hb]) ?_
            refine xc_two fun N20 hN20 => ?_
            refine xc_reg1 4 rfl fun K hK => ?_
            simp only [show (List.range 4).map (·, true) = [(0, true), (1, true), (2, true), (3, true)] from rfl, rslv_cons, rslv_nil, List.getElem?_toArray, List.getElem?_cons_zero, List.getElem?_cons_succ, gres]
            iterate 4 (refine seqX_hide2 fun R hR => ?_; simp [go_sem, hz0, h0, hg, h1s, h1i, xindex, xslice, g0, g1, g7, k1, k1b, k1n, k2, hgs, h1ss, h1is, hs0, k3, hb]; refine hR _ _ _ ?_; clear hR R)
            rw [seqX_nil]
            refine hK _ _ _ ?_; clear hK K
            refine hN20 _ _ _ ?_
            refine xc_two fun N21 hN21 => ?_
            refine xc_reg1 7 rfl fun K hK => ?_
            simp only [show (List.range 7).map (·, true) = [(0, true), (1, true), (2, true), (3, true), (4, true), (5, true), (6, true)] from rfl, rslv_cons, rslv_nil, List.getElem?_toArray, List.getElem?_cons_zero, List.getElem?_cons_succ, gres]
            (refine seqX_hide2 fun R hR => ?_; simp [go_sem, hz0, h0, hg, h1s, h1i, xindex, xslice, g0, g1, g7, k1, k1b, k1n, k2, hgs, h1ss, h1is, hs0, k3, hb]; refine hR _ _ _ ?_; clear hR R)
            refine seqX_hide2 fun R hR => ?_
            simp [go_sem, hz0, h0, hg, h1s, h1i, xindex, xslice, g0, g1, g7, k1, k1b, k1n, k2, hgs, h1ss, h1is, hs0, k3, hb]
            refine call_same hP (rune53 D s hs0 (has.at' hs0)) ?_
            rintro _ rfl
            refine hR _ _ _ ?_; clear hR R
            iterate 5 (refine seqX_hide2 fun R hR => ?_; simp [go_sem, hz0, h0, hg, h1s, h1i, xindex, xslice, g0, g1, g7, k1, k1b, k1n, k2, hgs, h1ss, h1is, hs0, k3, hb]; refine hR _ _ _ ?_; clear hR R)
            rw [seqX_nil]
            refine hK _ _ _ ?_; clear hK K
            refine hN21 _ _ _ ?_
            refine xc_reg1 4 rfl fun K hK => ?_
            simp only [show (List.range 4).map (·, true) = [(0, true), (1, true), (2, true), (3, true)] from rfl, rslv_cons, rslv_nil, List.getElem?_toArray, List.getElem?_cons_zero, List.getElem?_cons_succ, gres]
            iterate 4 (refine seqX_hide2 fun R hR => ?_; simp [go_sem, hz0, h0, hg, h1s, h1i, xindex, xslice, g0, g1, g7, k1, k1b, k1n, k2, hgs, h1ss, h1is, hs0, k3, hb]; refine hR _ _ _ ?_; clear hR R)
            rw [seqX_nil]
            refine hK _ _ _ ?_; clear hK K
            refine hN18 _ _ _ ?_
            refine xc_reg1 3 rfl fun K hK => ?_
            simp only [show (List.range 3).map (·, true) = [(0, true), (1, true), (2, true)] from rfl, rslv_cons, rslv_nil, List.getElem?_toArray, List.getElem?_cons_zero, List.getElem?_cons_succ, gres]
            iterate 3 (refine seqX_hide2 fun R hR => ?_; simp [go_sem, hz0, h0, hg, h1s, h1i, xindex, xslice, g0, g1, g7, k1, k1b, k1n, k2, hgs, h1ss, h1is, hs0, k3, hb]; refine hR _ _ _ ?_; clear hR R)
            rw [seqX_nil]
            refine hK _ _ _ ?_; clear hK K
            refine hN17 _ _ _ ?_
            refine hJ1 ((c.extract 1 c.size).size) _ _ _ (by rw [hex]; omega) ⟨c.extract 1 c.size, s.extract 1 s.size, true, D, rfl, rfl, rfl, hP, by simp [go_sem, hz0, h0, hg, h1s, h1i, xindex, xslice, g0, g1, g7, k1, k1b, k1n, k2, hgs, h1ss, h1is, hs0, k3, hb], by simp [go_sem, hz0, h0, hg, h1s, h1i, xindex, xslice, g0, g1, g7, k1, k1b, k1n, k2, hgs, h1ss, h1is, hs0, k3, hb], by simp [go_sem, hz0, h0, hg, h1s, h1i, xindex, xslice, g0, g1, g7, k1, k1b, k1n, k2, hgs, h1ss, h1is, hs0, k3, hb], hAD, by omega, by omega, hac1, has.drop 1, by rw [← hout, o2 _ _ rfl hconss, htk]⟩
          · have hb : ((s[0].toNat : Int) == 47) = false := beq_eq_false_iff_ne.2 (by omega)
            have hbn : ¬ (s[0].toNat : Int) = 47 := by omega
            have htk : (!takes .any s[0].toNat) = false := by simp [takes, k3]
            refine xc_reg1 2 rfl fun K hK => ?_
            simp only [show (List.range 2).map (·, true) = [(0, true), (1, true)] from rfl, rslv_cons, rslv_nil, List.getElem?_toArray, List.getElem?_cons_zero, List.getElem?_cons_succ, gres]
            iterate 2 (refine seqX_hide2 fun R hR => ?_; simp [go_sem, hz0, h0, hg, h1s, h1i, xindex, xslice, g0, g1, g7, k1, k1b, k1n, k2, hgs, h1ss, h1is, hs0, k3, hb, hbn]; refine hR _ _ _ ?_; clear hR R)
            rw [seqX_nil]
            refine hK _ _ _ ?_; clear hK K
            refine hN14 _ _ _ ?_
            refine xc_iffalse (by simp [go_sem, hz0, h0, hg, h1s, h1i, xindex, xslice, g0, g1, g7, k1, k1b, k1n, k2, hgs, h1ss, h1is, hs0, k3, hb, hbn]) ?_
            refine hN13 _ _ _ ?_
            refine xc_two fun N15 hN15 => ?_
            refine xc_two fun N16 hN16 => ?_
            refine xc_reg1 2 rfl fun K hK => ?_
            simp only [show (List.range 2).map (·, true) = [(0, true), (1, true)] from rfl, rslv_cons, rslv_nil, List.getElem?_toArray, List.getElem?_cons_zero, List.getElem?_cons_succ, gres]
            iterate 2 (refine seqX_hide2 fun R hR => ?_; simp [go_sem, hz0, h0, hg, h1s, h1i, xindex, xslice, g0, g1, g7, k1, k1b, k1n, k2, hgs, h1ss, h1is, hs0, k3, hb, hbn]; refine hR _ _ _ ?_; clear hR R)
            rw [seqX_nil]
            refine hK _ _ _ ?_; clear hK K
            refine hN16 _ _ _ ?_
            refine xc_iftrue (by simp [go_sem, hz0, h0, hg, h1s, h1i, xindex, xslice, g0, g1, g7, k1, k1b, k1n, k2, hgs, h1ss, h1is, hs0, k3, hb, hbn]) ?_
            refine hN10 _ _ _ ?_
            refine xc_two fun N17 hN17 => ?_
            refine xc_two fun N18 hN18 => ?_
            refine xc_two fun N19 hN19 => ?_
            refine xc_reg1 2 rfl fun K hK => ?_
            simp only [show (List.range 2).map (·, true) = [(0, true), (1, true)] from rfl, rslv_cons, rslv_nil, List.getElem?_toArray, List.getElem?_cons_zero, List.getElem?_cons_succ, gres]
            iterate 2 (refine seqX_hide2 fun R hR => ?_; simp [go_sem, hz0, h0, hg, h1s, h1i, xindex, xslice, g0, g1, g7, k1, k1b, k1n, k2, hgs, h1ss, h1is, hs0, k3, hb, hbn]; refine hR _ _ _ ?_; clear hR R)
            rw [seqX_nil]
            refine hK _ _ _ ?_; clear hK K
            refine hN19 _ _ _ ?_
            refine xc_iftrue (by simp [go_sem, hz0, h0, hg, h1s, h1i, xindex, xslice, g0, g1, g7, k1, k1b, k1n, k2, hgs, h1ss, h1is, hs0, k3, hb, hbn]) ?_
            refine xc_two fun N20 hN20 => ?_
            refine xc_reg1 4 rfl fun K hK => ?_
            simp only [show (List.range 4).map (·, true) = [(0, true), (1, true), (2, true), (3, true)] from rfl, rslv_cons, rslv_nil, List.getElem?_toArray, List.getElem?_cons_zero, List.getElem?_cons_succ, gres]
            iterate 4 (refine seqX_hide2 fun R hR => ?_; simp [go_sem, hz0, h0, hg, h1s, h1i, xindex, xslice, g0, g1, g7, k1, k1b, k1n, k2, hgs, h1ss, h1is, hs0, k3, hb, hbn]; refine hR _ _ _ ?_; clear hR R)
            rw [seqX_nil]
            refine hK _ _ _ ?_; clear hK K
            refine hN20 _ _ _ ?_
            refine xc_two fun N21 hN21 => ?_
            refine xc_reg1 7 rfl fun K hK => ?_
            simp only [show (List.range 7).map (·, true) = [(0, true), (1, true), (2, true), (3, true), (4, true), (5, true), (6, true)] from rfl, rslv_cons, rslv_nil, List.getElem?_toArray, List.getElem?_cons_zero, List.getElem?_cons_succ, gres]
            (refine seqX_hide2 fun R hR => ?_; simp [go_sem, hz0, h0, hg, h1s, h1i, xindex, xslice, g0, g1, g7, k1, k1b, k1n, k2, hgs, h1ss, h1is, hs0, k3, hb, hbn]; refine hR _ _ _ ?_; clear hR R)
            refine seqX_hide2 fun R hR => ?_
            simp [go_sem, hz0, h0, hg, h1s, h1i, xindex, xslice, g0, g1, g7, k1, k1b, k1n, k2, hgs, h1ss, h1is, hs0, k3, hb, hbn]
            refine call_same hP (rune53 D s hs0 (has.at' hs0)) ?_
            rintro _ rfl
            refine hR _ _ _ ?_; clear hR R
            iterate 5 (refine seqX_hide2 fun R hR => ?_; simp [go_sem, hz0, h0, hg, h1s, h1i, xindex, xslice, g0, g1, g7, k1, k1b, k1n, k2, hgs, h1ss, h1is, hs0, k3, hb, hbn]; refine hR _ _ _ ?_; clear hR R)
            rw [seqX_nil]
            refine hK _ _ _ ?_; clear hK K
            refine hN21 _ _ _ ?_
            refine xc_reg1 4 rfl fun K hK => ?_
            simp only [show (List.range 4).map (·, true) = [(0, true), (1, true), (2, true), (3, true)] from rfl, rslv_cons, rslv_nil, List.getElem?_toArray, List.getElem?_cons_zero, List.getElem?_cons_succ, gres]
            iterate 4 (refine seqX_hide2 fun R hR => ?_; simp [go_sem, hz0, h0, hg, h1s, h1i, xindex, xslice, g0, g1, g7, k1, k1b, k1n, k2, hgs, h1ss, h1is, hs0, k3, hb, hbn]; refine hR _ _ _ ?_; clear hR R)
            rw [seqX_nil]
            refine hK _ _ _ ?_; clear hK K
            refine hN18 _ _ _ ?_
            refine xc_reg1 3 rfl fun K hK => ?_
            simp only [show (List.range 3).map (·, true) = [(0, true), (1, true), (2, true)] from rfl, rslv_cons, rslv_nil, List.getElem?_toArray, List.getElem?_cons_zero, List.getElem?_cons_succ, gres]
            iterate 3 (refine seqX_hide2 fun R hR => ?_; simp [go_sem, hz0, h0, hg, h1s, h1i, xindex, xslice, g0, g1, g7, k1, k1b, k1n, k2, hgs, h1ss, h1is, hs0, k3, hb, hbn]; refine hR _ _ _ ?_; clear hR R)
            rw [seqX_nil]
            refine hK _ _ _ ?_; clear hK K
            refine hN17 _ _ _ ?_
            refine hJ1 ((c.extract 1 c.size).size) _ _ _ (by rw [hex]; omega) ⟨c.extract 1 c.size, s.extract 1 s.size, false, D, rfl, rfl, rfl, hP, by simp [go_sem, hz0, h0, hg, h1s, h1i, xindex, xslice, g0, g1, g7, k1, k1b, k1n, k2, hgs, h1ss, h1is, hs0, k3, hb, hbn], by simp [go_sem, hz0, h0, hg, h1s, h1i, xindex, xslice, g0, g1, g7, k1, k1b, k1n, k2, hgs, h1ss, h1is, hs0, k3, hb, hbn], by simp [go_sem, hz0, h0, hg, h1s, h1i, xindex, xslice, g0, g1, g7, k1, k1b, k1n, k2, hgs, h1ss, h1is, hs0, k3, hb, hbn], hAD, by omega, by omega, hac1, has.drop 1, by rw [← hout, o2 _ _ rfl hconss, htk]⟩
      have k2b : ((c[0].toNat : Int) == 63) = false := beq_eq_false_iff_ne.2 (by omega)
      have k2n : ¬ (c[0].toNat : Int) = 63 := by omega
      by_cases k3 : c[0].toNat = 92
      · skip
        by_cases hl : c.size = 1
        · have e1 : c.size - 1 = 0 := by omega
          have hn : nb (c.extract 1 c.size) = [] := nb_nil.2 (by omega)
          refine xc_reg1 2 rfl fun K hK => ?_
          simp only [show (List.range 2).map (·, true) = [(0, true), (1, true)] from rfl, rslv_cons, rslv_nil, List.getElem?_toArray, List.getElem?_cons_zero, List.getElem?_cons_succ, gres]
          iterate 2 (refine seqX_hide2 fun R hR => ?_; simp [go_sem, hz0, h0, hg, h1s, h1i, xindex, xslice, g0, g1, g7, k1, k1b, k1n, k2, k2b, k2n, k3, hex, hl, e1]; refine hR _ _ _ ?_; clear hR R)
          rw [seqX_nil]
          refine hK _ _ _ ?_; clear hK K
          refine hN14 _ _ _ ?_
          refine xc_iffalse (by simp [go_sem, hz0, h0, hg, h1s, h1i, xindex, xslice, g0, g1, g7, k1, k1b, k1n, k2, k2b, k2n, k3, hex, hl, e1]) ?_
          refine hN13 _ _ _ ?_
          refine xc_two fun N15 hN15 => ?_
          refine xc_two fun N16 hN16 => ?_
          refine xc_reg1 2 rfl fun K hK => ?_
          simp only [show (List.range 2).map (·, true) = [(0, true), (1, true)] from rfl, rslv_cons, rslv_nil, List.getElem?_toArray, List.getElem?_cons_zero, List.getElem?_cons_succ, gres]
          iterate 2 (refine seqX_hide2 fun R hR => ?_; simp [go_sem, hz0, h0, hg, h1s, h1i, xindex, xslice, g0, g1, g7, k1, k1b, k1n, k2, k2b, k2n, k3, hex, hl, e1]; refine hR _ _ _ ?_; clear hR R)
          rw [seqX_nil]
          refine hK _ _ _ ?_; clear hK K
          refine hN16 _ _ _ ?_
          refine xc_iffalse (by simp [go_sem, hz0, h0, hg, h1s, h1i, xindex, xslice, g0, g1, g7, k1, k1b, k1n, k2, k2b, k2n, k3, hex, hl, e1]) ?_
          refine hN15 _ _ _ ?_
          refine xc_two fun N17 hN17 => ?_
          refine xc_reg1 2 rfl fun K hK => ?_
          simp only [show (List.range 2).map (·, true) = [(0, true), (1, true)] from rfl, rslv_cons, rslv_nil, List.getElem?_toArray, List.getElem?_cons_zero, List.getElem?_cons_succ, gres]
          iterate 2 (refine seqX_hide2 fun R hR => ?_; simp [go_sem, hz0, h0, hg, h1s, h1i, xindex, xslice, g0, g1, g7, k1, k1b, k1n, k2, k2b, k2n, k3, hex, hl, e1]; refine hR _ _ _ ?_; clear hR R)
          rw [seqX_nil]
          refine hK _ _ _ ?_; clear hK K
          refine hN17 _ _ _ ?_
          refine xc_iftrue (by simp [go_sem, hz0, h0, hg, h1s, h1i, xindex, xslice, g0, g1, g7, k1, k1b, k1n, k2, k2b, k2n, k3, hex, hl, e1]) ?_
          refine hN9 _ _ _ ?_
          refine xc_two fun N18 hN18 => ?_
          refine xc_reg1 3 rfl fun K hK => ?_
          simp only [show (List.range 3).map (·, true) = [(0, true), (1, true), (2, true)] from rfl, rslv_cons, rslv_nil, List.getElem?_toArray, List.getElem?_cons_zero, List.getElem?_cons_succ, gres]
          iterate 3 (refine seqX_hide2 fun R hR => ?_; simp [go_sem, hz0, h0, hg, h1s, h1i, xindex, xslice, g0, g1, g7, k1, k1b, k1n, k2, k2b, k2n, k3, hex, hl, e1]; refine hR _ _ _ ?_; clear hR R)
          rw [seqX_nil]
          refine hK _ _ _ ?_; clear hK K
          refine hN18 _ _ _ ?_
          refine xc_two fun N19 hN19 => ?_
          refine xc_reg1 3 rfl fun K hK => ?_
          simp only [show (List.range 3).map (·, true) = [(0, true), (1, true), (2, true)] from rfl, rslv_cons, rslv_nil, List.getElem?_toArray, List.getElem?_cons_zero, List.getElem?_cons_succ, gres]
          iterate 3 (refine seqX_hide2 fun R hR => ?_; simp [go_sem, hz0, h0, hg, h1s, h1i, xindex, xslice, g0, g1, g7, k1, k1b, k1n, k2, k2b, k2n, k3, hex, hl, e1]; refine hR _ _ _ ?_; clear hR R)
          rw [seqX_nil]
          refine hK _ _ _ ?_; clear hK K
          refine hN19 _ _ _ ?_
          refine xc_iftrue (by simp [go_sem, hz0, h0, hg, h1s, h1i, xindex, xslice, g0, g1, g7, k1, k1b, k1n, k2, k2b, k2n, k3, hex, hl, e1]) ?_
          refine xc_two fun N20 hN20 => ?_
          refine xc_reg1 4 rfl fun K hK => ?_
          simp only [show (List.range 4).map (·, true) = [(0, true), (1, true), (2, true), (3, true)] from rfl, rslv_cons, rslv_nil, List.getElem?_toArray, List.getElem?_cons_zero, List.getElem?_cons_succ, gres]
          refine seqX_hide2 fun R hR => ?_
          simp [go_sem, hz0, h0, hg, h1s, h1i, xindex, xslice, g0, g1, g7, k1, k1b, k1n, k2, k2b, k2n, k3, hex, hl, e1]
          refine call_ov hP (bad55 D) ?_
          clear hP
          rintro _ D1 ⟨⟨t, y, rfl⟩, hD1⟩ hP
          refine hR _ _ _ ?_; clear hR R
          iterate 3 (refine seqX_hide2 fun R hR => ?_; simp [go_sem, hz0, h0, hg, h1s, h1i, xindex, xslice, g0, g1, g7, k1, k1b, k1n, k2, k2b, k2n, k3, hex, hl, e1]; refine hR _ _ _ ?_; clear hR R)
          rw [seqX_nil]
          refine hK _ _ _ ?_; clear hK K
          refine hN20 _ _ _ ?_
          refine hX1 _ _ _ _ ?_
          simp [go_sem, hz0, h0, hg, h1s, h1i, xindex, xslice, g0, g1, g7, k1, k1b, k1n, k2, k2b, k2n, k3, hex, hl, e1]
          rw [hcons, k3, hn, Pm.out_bad (Pm.pat_esc0 false)] at hout
          rw [← hout]
          exact ⟨⟨_, _, rfl⟩, View.le_trans hAD hD1⟩
        · have e1 : ¬ c.size - 1 = 0 := by omega
          have e2 : ¬ (c.size - 1 : Int) = 0 := by omega
          refine xc_reg1 2 rfl fun K hK => ?_
          simp only [show (List.range 2).map (·, true) = [(0, true), (1, true)] from rfl, rslv_cons, rslv_nil, List.getElem?_toArray, List.getElem?_cons_zero, List.getElem?_cons_succ, gres]
          iterate 2 (refine seqX_hide2 fun R hR => ?_; simp [go_sem, hz0, h0, hg, h1s, h1i, xindex, xslice, g0, g1, g7, k1, k1b, k1n, k2, k2b, k2n, k3, hex, hl, e1, e2]; refine hR _ _ _ ?_; clear hR R)
          rw [seqX_nil]
          refine hK _ _ _ ?_; clear hK K
          refine hN14 _ _ _ ?_
          refine xc_iffalse (by simp [go_sem, hz0, h0, hg, h1s, h1i, xindex, xslice, g0, g1, g7, k1, k1b, k1n, k2, k2b, k2n, k3, hex, hl, e1, e2]) ?_
          refine hN13 _ _ _ ?_
          refine xc_two fun N15 hN15 => ?_
          refine xc_two fun N16 hN16 => ?_
          refine xc_reg1 2 rfl fun K hK => ?_
          simp only [show (List.range 2).map (·, true) = [(0, true), (1, true)] from rfl, rslv_cons, rslv_nil, List.getElem?_toArray, List.getElem?_cons_zero, List.getElem?_cons_succ, gres]
          iterate 2 (refine seqX_hide2 fun R hR => ?_; simp [go_sem, hz0, h0, hg, h1s, h1i, xindex, xslice, g0, g1, g7, k1, k1b, k1n, k2, k2b, k2n, k3, hex, hl, e1, e2]; refine hR _ _ _ ?_; clear hR R)
          rw [seqX_nil]
          refine hK _ _ _ ?_; clear hK K
          refine hN16 _ _ _ ?_
          refine xc_iffalse (by simp [go_sem, hz0, h0, hg, h1s, h1i, xindex, xslice, g0, g1, g7, k1, k1b, k1n, k2, k2b, k2n, k3, hex, hl, e1, e2]) ?_
          refine hN15 _ _ _ ?_
          refine xc_two fun N17 hN17 => ?_
          refine xc_reg1 2 rfl fun K hK => ?_
          simp only [show (List.range 2).map (·, true) = [(0, true), (1, true)] from rfl, rslv_cons, rslv_nil, List.getElem?_toArray, List.getElem?_cons_zero, List.getElem?_cons_succ, gres]
          iterate 2 (refine seqX_hide2 fun R hR => ?_; simp [go_sem, hz0, h0, hg, h1s, h1i, xindex, xslice, g0, g1, g7, k1, k1b, k1n, k2, k2b, k2n, k3, hex, hl, e1, e2]; refine hR _ _ _ ?_; clear hR R)
          rw [seqX_nil]
          refine hK _ _ _ ?_; clear hK K
          refine hN17 _ _ _ ?_
          refine xc_iftrue (by simp [go_sem, hz0, h0, hg, h1s, h1i, xindex, xslice, g0, g1, g7, k1, k1b, k1n, k2, k2b, k2n, k3, hex, hl, e1, e2]) ?_
          refine hN9 _ _ _ ?_
          refine xc_two fun N18 hN18 => ?_
          refine xc_reg1 3 rfl fun K hK => ?_
          simp only [show (List.range 3).map (·, true) = [(0, true), (1, true), (2, true)] from rfl, rslv_cons, rslv_nil, List.getElem?_toArray, List.getElem?_cons_zero, List.getElem?_cons_succ, gres]
          iterate 3 (refine seqX_hide2 fun R hR => ?_; simp [go_sem, hz0, h0, hg, h1s, h1i, xindex, xslice, g0, g1, g7, k1, k1b, k1n, k2, k2b, k2n, k3, hex, hl, e1, e2]; refine hR _ _ _ ?_; clear hR R)
          rw [seqX_nil]
          refine hK _ _ _ ?_; clear hK K
          refine hN18 _ _ _ ?_
          refine xc_two fun N19 hN19 => ?_
          refine xc_reg1 3 rfl fun K hK => ?_
          simp only [show (List.range 3).map (·, true) = [(0, true), (1, true), (2, true)] from rfl, rslv_cons, rslv_nil, List.getElem?_toArray, List.getElem?_cons_zero, List.getElem?_cons_succ, gres]
          iterate 3 (refine seqX_hide2 fun R hR => ?_; simp [go_sem, hz0, h0, hg, h1s, h1i, xindex, xslice, g0, g1, g7, k1, k1b, k1n, k2, k2b, k2n, k3, hex, hl, e1, e2]; refine hR _ _ _ ?_; clear hR R)
          rw [seqX_nil]
          refine hK _ _ _ ?_; clear hK K
          refine hN19 _ _ _ ?_
          refine xc_iffalse (by simp [go_sem, hz0, h0, hg, h1s, h1i, xindex, xslice, g0, g1, g7, k1, k1b, k1n, k2, k2b, k2n, k3, hex, hl, e1, e2]) ?_
          exact dfl (c.extract 1 c.size) _ hP (by simp [go_sem, hz0, h0, hg, h1s, h1i, xindex, xslice, g0, g1, g7, k1, k1b, k1n, k2, k2b, k2n, k3, hex, hl, e1, e2]) (by simp [go_sem, hz0, h0, hg, h1s, h1i, xindex, xslice, g0, g1, g7, k1, k1b, k1n, k2, k2b, k2n, k3, hex, hl, e1, e2]) (by simp [go_sem, hz0, h0, hg, h1s, h1i, xindex, xslice, g0, g1, g7, k1, k1b, k1n, k2, k2b, k2n, k3, hex, hl, e1, e2]) (by omega) (hac1) (⟨by omega, by rw [hcons, k3, nb_cons (s := c.extract 1 c.size) (by omega), Pm.pat_esc]⟩)
      have k3b : ((c[0].toNat : Int) == 92) = false := beq_eq_false_iff_ne.2 (by omega)
      have k3n : ¬ (c[0].toNat : Int) = 92 := by omega
      refine xc_reg1 2 rfl fun K hK => ?_
      simp only [show (List.range 2).map (·, true) = [(0, true), (1, true)] from rfl, rslv_cons, rslv_nil, List.getElem?_toArray, List.getElem?_cons_zero, List.getElem?_cons_succ, gres]
      iterate 2 (refine seqX_hide2 fun R hR => ?_; simp [go_sem, hz0, h0, hg, h1s, h1i, xindex, xslice, g0, g1, g7, k1, k1b, k1n, k2, k2b, k2n, k3, k3b, k3n]; refine hR _ _ _ ?_; clear hR R)
      rw [seqX_nil]
      refine hK _ _ _ ?_; clear hK K
      refine hN14 _ _ _ ?_
      refine xc_iffalse (by simp [go_sem, hz0, h0, hg, h1s, h1i, xindex, xslice, g0, g1, g7, k1, k1b, k1n, k2, k2b, k2n, k3, k3b, k3n]) ?_
      refine hN13 _ _ _ ?_
      refine xc_two fun N15 hN15 => ?_
      refine xc_two fun N16 hN16 => ?_
      refine xc_reg1 2 rfl fun K hK => ?_
      simp only [show (List.range 2).map (·, true) = [(0, true), (1, true)] from rfl, rslv_cons, rslv_nil, List.getElem?_toArray, List.getElem?_cons_zero, List.getElem?_cons_succ, gres]
      iterate 2 (refine seqX_hide2 fun R hR => ?_; simp [go_sem, hz0, h0, hg, h1s, h1i, xindex, xslice, g0, g1, g7, k1, k1b, k1n, k2, k2b, k2n, k3, k3b, k3n]; refine hR _ _ _ ?_; clear hR R)
      rw [seqX_nil]
      refine hK _ _ _ ?_; clear hK K
      refine hN16 _ _ _ ?_
      refine xc_iffalse (by simp [go_sem, hz0, h0, hg, h1s, h1i, xindex, xslice, g0, g1, g7, k1, k1b, k1n, k2, k2b, k2n, k3, k3b, k3n]) ?_
      refine hN15 _ _ _ ?_
      refine xc_two fun N17 hN17 => ?_
      refine xc_reg1 2 rfl fun K hK => ?_
      simp only [show (List.range 2).map (·, true) = [(0, true), (1, true)] from rfl, rslv_cons, rslv_nil, List.getElem?_toArray, List.getElem?_cons_zero, List.getElem?_cons_succ, gres]
      iterate 2 (refine seqX_hide2 fun R hR => ?_; simp [go_sem, hz0, h0, hg, h1s, h1i, xindex, xslice, g0, g1, g7, k1, k1b, k1n, k2, k2b, k2n, k3, k3b, k3n]; refine hR _ _ _ ?_; clear hR R)
      rw [seqX_nil]
      refine hK _ _ _ ?_; clear hK K
      refine hN17 _ _ _ ?_
      refine xc_iffalse (by simp [go_sem, hz0, h0, hg, h1s, h1i, xindex, xslice, g0, g1, g7, k1, k1b, k1n, k2, k2b, k2n, k3, k3b, k3n]) ?_
      refine hN12 _ _ _ ?_
      exact dfl (c) _ hP (by simp [go_sem, hz0, h0, hg, h1s, h1i, xindex, xslice, g0, g1, g7, k1, k1b, k1n, k2, k2b, k2n, k3, k3b, k3n]) (by simp [go_sem, hz0, h0, hg, h1s, h1i, xindex, xslice, g0, g1, g7, k1, k1b, k1n, k2, k2b, k2n, k3, k3b, k3n]) (by simp [go_sem, hz0, h0, hg, h1s, h1i, xindex, xslice, g0, g1, g7, k1, k1b, k1n, k2, k2b, k2n, k3, k3b, k3n]) (Nat.le_refl _) (hac) (⟨h0, by rw [hcons, Pm.pat_chr _ (by simp) k2 k1 k3]⟩)
    cases f with
    | true =>
      refine xc_reg1 7 rfl fun K hK => ?_
      simp only [show (List.range 7).map (·, true) = [(0, true), (1, true), (2, true), (3, true), (4, true), (5, true), (6, true)] from rfl, rslv_cons, rslv_nil, List.getElem?_toArray, List.getElem?_cons_zero, List.getElem?_cons_succ, gres]
      iterate 7 (refine seqX_hide2 fun R hR => ?_; simp [go_sem, g0, g1, g7, hz0, h0, hg, h1s, h1i, xindex, xslice]; refine hR _ _ _ ?_; clear hR R)
      rw [seqX_nil]
      refine hK _ _ _ ?_; clear hK K
      exact mid (true) _ hP (by simp [go_sem, g0, g1, g7, hz0, h0, hg, h1s, h1i, xindex, xslice]) (by simp [go_sem, g0, g1, g7, hz0, h0, hg, h1s, h1i, xindex, xslice]) (by simp [go_sem, g0, g1, g7, hz0, h0, hg, h1s, h1i, xindex, xslice]) (fun h => by cases h) (hout)
    | false =>
      by_cases hs0 : 0 < s.size
      · have hsn : ¬ s.size = 0 := by omega
        have hsni : ¬ (s.size : Int) = 0 := by omega
        have hsb : ((s.size : Int) == 0) = false := beq_eq_false_iff_ne.2 (by omega)
        refine xc_reg1 7 rfl fun K hK => ?_
        simp only [show (List.range 7).map (·, true) = [(0, true), (1, true), (2, true), (3, true), (4, true), (5, true), (6, true)] from rfl, rslv_cons, rslv_nil, List.getElem?_toArray, List.getElem?_cons_zero, List.getElem?_cons_succ, gres]
        iterate 7 (refine seqX_hide2 fun R hR => ?_; simp [go_sem, g0, g1, g7, hz0, h0, hg, h1s, h1i, xindex, xslice, hsn, hsni, hsb]; refine hR _ _ _ ?_; clear hR R)
        rw [seqX_nil]
        refine hK _ _ _ ?_; clear hK K
        exact mid (false) _ hP (by simp [go_sem, g0, g1, g7, hz0, h0, hg, h1s, h1i, xindex, xslice, hsn, hsni, hsb]) (by simp [go_sem, g0, g1, g7, hz0, h0, hg, h1s, h1i, xindex, xslice, hsn, hsni, hsb]) (by simp [go_sem, g0, g1, g7, hz0, h0, hg, h1s, h1i, xindex, xslice, hsn, hsni, hsb]) (fun _ => hs0) (hout)
      · have hs00 : s.size = 0 := by omega
        have hsn0 : nb s = [] := nb_nil.2 hs00
        refine xc_reg1 7 rfl fun K hK => ?_
        simp only [show (List.range 7).map (·, true) = [(0, true), (1, true), (2, true), (3, true), (4, true), (5, true), (6, true)] from rfl, rslv_cons, rslv_nil, List.getElem?_toArray, List.getElem?_cons_zero, List.getElem?_cons_succ, gres]
        iterate 7 (refine seqX_hide2 fun R hR => ?_; simp [go_sem, g0, g1, g7, hz0, h0, hg, h1s, h1i, xindex, xslice, hs00]; refine hR _ _ _ ?_; clear hR R)
        rw [seqX_nil]
        refine hK _ _ _ ?_; clear hK K
        exact mid (true) _ hP (by simp [go_sem, g0, g1, g7, hz0, h0, hg, h1s, h1i, xindex, xslice, hs00]) (by simp [go_sem, g0, g1, g7, hz0, h0, hg, h1s, h1i, xindex, xslice, hs00]) (by simp [go_sem, g0, g1, g7, hz0, h0, hg, h1s, h1i, xindex, xslice, hs00]) (fun h => by cases h) (by rw [← hout, hsn0, Pm.out_empty (by rw [hcons]; simp)])
end Go.Proofs.YthjbgpmcfcijgaaDoorV

/- kyId: what it makes of an id: plain texts, the group and the name with points behind; no condition but on lengths. -/
import Derived.Test.YtcficphbjicneaaPFnIdBackx3
import Derived.Test.YtcficphbjicneaaBL
namespace Go.Proofs.Ytcficphbjicneaa.PFnIdBackK
open Go.RowKit Go.Proofs.Ytcficphbjicneaa.PFnIdBack Go.Proofs.YtcficphbjicneaaW.PrintWords Go.Proofs.YtcficphbjicneaaW.PrintLast Go.Proofs.YtcficphbjicneaaW.PrintMore Go.Proofs.Ytcficphbjicneaa.BL

def PB (b : UInt8) : Prop := 97 ≤ b.toNat ∧ b.toNat ≤ 122 ∨ 65 ≤ b.toNat ∧ b.toNat ≤ 90 ∨ 48 ≤ b.toNat ∧ b.toNat ≤ 57 ∨ b.toNat = 45
def Plain (s : ByteArray) : Prop := s.size ≤ 12 ∧ ∀ b ∈ L s, PB b
theorem PB_ne {b : UInt8} (h : PB b) : b ≠ 46 ∧ b ≠ 91 ∧ b ≠ 47 ∧ b ≠ 93 := by
  unfold PB at h
  refine ⟨?_, ?_, ?_, ?_⟩ <;> (intro e; rw [e] at h; revert h; decide)

theorem plain_step (k : Nat) (s : ByteArray) (x : List Int) (i : Int) (h0 : 0 ≤ i) (hi : i < s.size) (hx : x.length ≤ 20) :
    (laws_kyPlain.j1 (k + 1) s x i true = laws_kyPlain.l0 k s (x ++ [bt s i]) (wrap64 (i + 1)) ∧ (97 ≤ bt s i ∧ bt s i ≤ 122 ∨ 65 ≤ bt s i ∧ bt s i ≤ 90 ∨ 48 ≤ bt s i ∧ bt s i ≤ 57 ∨ bt s i = 45)) ∨ laws_kyPlain.j1 (k + 1) s x i true = laws_kyPlain.l0 k s x (wrap64 (i + 1)) := by
  unfold laws_kyPlain.j1
  rw [if_pos rfl, if_pos h0, if_pos hi]
  simp only [if_pos (show x.length < 140737488355328 by omega)]
  generalize bt s i = c
  repeat' split
  all_goals first
    | exact .inr rfl
    | exact .inl ⟨rfl, by omega⟩
theorem plain_loop (s : ByteArray) (hs : s.size ≤ 4294967296) (d : Nat) : ∀ (k i : Nat) (part : List UInt8), i ≤ s.size → s.size - i = d → 2 * d + 2 < k → part.length ≤ 12 → (∀ b ∈ part, PB b) →
    ∃ r, laws_kyPlain.l0 k s (ints part) (i : Int) = some r ∧ Plain r := by
  have hend : ∀ (part : List UInt8), part.length ≤ 12 → (∀ b ∈ part, PB b) → Plain (strOfNums (ints part)) := fun part h1 h2 => ⟨by rw [← L_length, ints_str]; exact h1, by rw [ints_str]; exact h2⟩
  induction d with
  | zero =>
    intro k i part h1 hd hk hp hb
    obtain ⟨k, rfl⟩ : ∃ m, k = m + 2 := ⟨k - 2, by omega⟩
    refine ⟨_, ?_, hend part hp hb⟩
    have e0 : laws_kyPlain.l0 (k + 1 + 1) s (ints part) (i : Int) = laws_kyPlain.j1 (k + 1) s (ints part) (i : Int) false := by
      conv => lhs; unfold laws_kyPlain.l0
      rw [if_neg (by omega)]
    rw [e0]
    conv => lhs; unfold laws_kyPlain.j1
    rfl
  | succ d ih =>
    intro k i part h1 hd hk hp hb
    obtain ⟨k, rfl⟩ : ∃ m, k = m + 2 := ⟨k - 2, by omega⟩
    have e0 : laws_kyPlain.l0 (k + 1 + 1) s (ints part) (i : Int) = laws_kyPlain.j1 (k + 1) s (ints part) (i : Int) (decide (((ints part).length : Int) < 12)) := by
      conv => lhs; unfold laws_kyPlain.l0
      rw [if_pos (by omega)]
    rw [e0, ints_length]
    by_cases h12 : (part.length : Int) < 12
    · rw [decide_eq_true h12]
      obtain ⟨b, hb1, hb2, _⟩ := drop_at s i (by omega)
      have hw : wrap64 ((i : Int) + 1) = ((i + 1 : Nat) : Int) := w64_eq (by omega) (by omega) (by omega)
      rcases plain_step k s (ints part) (i : Int) (by omega) (by omega) (by rw [ints_length]; omega) with ⟨e, hr⟩ | e
      · rw [e, hw, hb2, ints_snoc]
        rw [hb2] at hr
        refine ih k (i + 1) (part ++ [b]) (by omega) (by omega) (by omega) (by simp; omega) (fun c hc => ?_)
        rcases List.mem_append.1 hc with hc | hc
        · exact hb c hc
        · rw [List.mem_singleton.1 hc]
          unfold PB
          omega
      · rw [e, hw]
        exact ih k (i + 1) part (by omega) (by omega) (by omega) hp hb
    · rw [decide_eq_false h12]
      refine ⟨_, ?_, hend part hp hb⟩
      conv => lhs; unfold laws_kyPlain.j1
      rfl
theorem plain_any (s : ByteArray) (hs : s.size ≤ 2147483647) (k : Nat) (hk : 2 * s.size + 2 < k) : ∃ r, laws_kyPlain.f k s = some r ∧ Plain r :=
  plain_loop s (by omega) s.size k 0 [] (by omega) (by omega) hk (by simp) (fun b hb => by simp at hb)

/-- A plain text, perhaps with a tail. -/
def Tailed (t : List UInt8) (s : ByteArray) : Prop := ∃ p, Plain p ∧ (s = p ∨ L s = L p ++ t)
theorem Tailed.size {t : List UInt8} {s : ByteArray} (h : Tailed t s) : s.size ≤ 12 + t.length := by
  obtain ⟨p, ⟨hp, _⟩, e | e⟩ := h
  · rw [e]; omega
  · rw [← L_length, e, List.length_append, L_length]; omega
theorem Tailed.not_mem {t : List UInt8} {s : ByteArray} (h : Tailed t s) (c : UInt8) (hc : ∀ b, PB b → b ≠ c) (ht : c ∉ t) : c ∉ L s := by
  obtain ⟨p, ⟨_, hp⟩, e | e⟩ := h
  · rw [e]; exact fun hm => hc c (hp c hm) rfl
  · rw [e, List.mem_append]
    exact fun hm => hm.elim (fun hm => hc c (hp c hm) rfl) ht
/-- What kyId makes. -/
structure IsId (g v kd n ns : ByteArray) : Prop where
  g : Tailed [46, 105, 111] g
  v : Plain v
  kd : kd = ⟨#[]⟩ ∨ ∃ p, Plain p ∧ L kd = 90 :: 122 :: L p
  n : Tailed [46, 120] n
  ns : Plain ns
theorem kyId_any (a0 a1 a2 a3 a4 : ByteArray) (h0 : a0.size ≤ 2147483647) (h1 : a1.size ≤ 2147483647) (h2 : a2.size ≤ 2147483647) (h3 : a3.size ≤ 2147483647) (h4 : a4.size ≤ 2147483647) :
    ∃ k, ∀ k', k ≤ k' → ∃ g v kd n ns, laws_kyId.f k' a0 a1 a2 a3 a4 = some (g, v, kd, n, ns) ∧ IsId g v kd n ns := by
  refine ⟨2 * a0.size + 2 * a1.size + 2 * a2.size + 2 * a3.size + 2 * a4.size + 4, fun k hk => ?_⟩
  obtain ⟨k, rfl⟩ : ∃ m, k = m + 1 := ⟨k - 1, by omega⟩
  obtain ⟨g, eg, hg⟩ := plain_any a0 h0 (k + 1) (by omega)
  obtain ⟨v, ev, hv⟩ := plain_any a1 h1 (k + 1) (by omega)
  obtain ⟨n, en, hn⟩ := plain_any a3 h3 (k + 1) (by omega)
  obtain ⟨ns, es, hns⟩ := plain_any a4 h4 (k + 1) (by omega)
  have hj : ∀ kd, (kd = ⟨#[]⟩ ∨ ∃ p, Plain p ∧ L kd = 90 :: 122 :: L p) → ∃ g' v' kd' n' ns', laws_kyId.j0 (k + 1) a0 a1 a2 a3 a4 g v kd n ns = some (g', v', kd', n', ns') ∧ IsId g' v' kd' n' ns' := by
    intro kd hkd
    have tg : Tailed [46, 105, 111] (g ++ (⟨#[46, 105, 111]⟩ : ByteArray)) := ⟨g, hg, .inr (by rw [L_append]; rfl)⟩
    have tn : Tailed [46, 120] (n ++ (⟨#[46, 120]⟩ : ByteArray)) := ⟨n, hn, .inr (by rw [L_append]; rfl)⟩
    have tg0 : Tailed [46, 105, 111] g := ⟨g, hg, .inl rfl⟩
    have tn0 : Tailed [46, 120] n := ⟨n, hn, .inl rfl⟩
    have hgs := hg.1
    have hnsz := hn.1
    simp only [laws_kyId.j0]
    by_cases c1 : (a0.size : Int) > 3
    · rw [if_pos c1, if_pos (by omega)]
      by_cases c2 : (a3.size : Int) > 3
      · rw [if_pos c2, if_pos (by omega)]
        exact ⟨_, _, _, _, _, rfl, tg, hv, hkd, tn, hns⟩
      · rw [if_neg c2]
        exact ⟨_, _, _, _, _, rfl, tg, hv, hkd, tn0, hns⟩
    · rw [if_neg c1]
      by_cases c2 : (a3.size : Int) > 3
      · rw [if_pos c2, if_pos (by omega)]
        exact ⟨_, _, _, _, _, rfl, tg0, hv, hkd, tn, hns⟩
      · rw [if_neg c2]
        exact ⟨_, _, _, _, _, rfl, tg0, hv, hkd, tn0, hns⟩
  unfold laws_kyId.f
  rw [eg, Option.bind_some, ev, Option.bind_some, en, Option.bind_some, es, Option.bind_some]
  by_cases c : a2.toList = ([] : List UInt8)
  · rw [if_pos c]
    exact hj _ (.inl rfl)
  · obtain ⟨kd, ek, hkd⟩ := plain_any a2 h2 (k + 1) (by omega)
    have := hkd.1
    rw [if_neg c, ek, Option.bind_some, if_pos (by omega)]
    exact hj _ (.inr ⟨kd, hkd, by rw [L_append]; rfl⟩)
end Go.Proofs.Ytcficphbjicneaa.PFnIdBackK

/- FnNodeStyle: for every list of names the style that the package tells is the reference's sum; no condition. -/
import Derived.Test.YtdomnigegpigiaaPFnNodeStylex2
import Derived.Lib.IndexBytes
namespace Go.Proofs.Ytdomnigegpigiaa.Pure
open Go.RowKit Go.Proofs.Ytdomnigegpigiaa.PFnNodeStyle Go.Proofs.YtdomnigegpigiaaW.PrintWords Go.Proofs.YtdomnigegpigiaaW.PrintLast

theorem ns_fits (l : List ByteArray) (hl : l.length ≤ 2147483647) (d : Nat) : ∀ (k : Nat) (i : Int), 0 ≤ i → i ≤ l.length → (l.length : Int) - i = d → d < k → ∃ b, laws_zzFits4.l0 k l (l.length : Int) i = some b := by
  induction d with
  | zero =>
    intro k i h0 h1 hd hk
    obtain ⟨k, rfl⟩ : ∃ m, k = m + 1 := ⟨k - 1, by omega⟩
    exact ⟨true, by simp only [laws_zzFits4.l0]; rw [if_neg (by omega)]⟩
  | succ d ih =>
    intro k i h0 h1 hd hk
    obtain ⟨k, rfl⟩ : ∃ m, k = m + 1 := ⟨k - 1, by omega⟩
    have hw : wrap64 (i + 1) = i + 1 := by unfold wrap64; omega
    simp only [laws_zzFits4.l0]
    rw [if_pos (by omega), if_pos h0, if_pos (by omega), hw]
    by_cases e : ((rdOf ByteArray.empty l i).size : Int) > 2147483647
    · exact ⟨false, by rw [if_pos e]⟩
    · rw [if_neg e]
      exact ih k (i + 1) (by omega) (by omega) (by omega) (by omega)

theorem ns_cut (l : List ByteArray) (hl : l.length ≤ 2147483647) (m : Int) (hm : m ≤ 100) (d : Nat) : ∀ (k : Nat) (acc : List ByteArray) (i : Int), 0 ≤ i → i ≤ l.length → (l.length : Int) - i = d → d < k → (acc.length : Int) ≤ i →
    ∃ r, laws_kyCut.l0 k l m acc i = some r ∧ (r.length : Int) ≤ l.length := by
  induction d with
  | zero =>
    intro k acc i h0 h1 hd hk ha
    obtain ⟨k, rfl⟩ : ∃ m, k = m + 1 := ⟨k - 1, by omega⟩
    exact ⟨acc, by simp only [laws_kyCut.l0]; rw [if_neg (by omega)], by omega⟩
  | succ d ih =>
    intro k acc i h0 h1 hd hk ha
    obtain ⟨k, rfl⟩ : ∃ m, k = m + 1 := ⟨k - 1, by omega⟩
    have hw : wrap64 (i + 1) = i + 1 := by unfold wrap64; omega
    simp only [laws_kyCut.l0]
    rw [if_pos (by omega), hw]
    by_cases e : i < m
    · rw [if_pos e, if_pos h0, if_pos (by unfold mn; omega), if_pos (by unfold mn; omega), if_pos (by omega)]
      exact ih k _ (i + 1) (by omega) (by omega) (by omega) (by omega) (by rw [List.length_append, List.length_singleton]; omega)
    · rw [if_neg e]
      exact ⟨acc, rfl, by omega⟩

def nsNames : List ByteArray := [(⟨#[84, 97, 103, 103, 101, 100, 83, 116, 121, 108, 101]⟩ : ByteArray), (⟨#[68, 111, 117, 98, 108, 101, 81, 117, 111, 116, 101, 100, 83, 116, 121, 108, 101]⟩ : ByteArray), (⟨#[83, 105, 110, 103, 108, 101, 81, 117, 111, 116, 101, 100, 83, 116, 121, 108, 101]⟩ : ByteArray), (⟨#[76, 105, 116, 101, 114, 97, 108, 83, 116, 121, 108, 101]⟩ : ByteArray), (⟨#[70, 111, 108, 100, 101, 100, 83, 116, 121, 108, 101]⟩ : ByteArray), (⟨#[70, 108, 111, 119, 83, 116, 121, 108, 101]⟩ : ByteArray)]
def nsAdd (x : Int) (s : ByteArray) : Int :=
  if s.toList = ([84, 97, 103, 103, 101, 100, 83, 116, 121, 108, 101] : List UInt8) then Go.bits .or .u32 x 1 else
  if s.toList = ([68, 111, 117, 98, 108, 101, 81, 117, 111, 116, 101, 100, 83, 116, 121, 108, 101] : List UInt8) then Go.bits .or .u32 x 2 else
  if s.toList = ([83, 105, 110, 103, 108, 101, 81, 117, 111, 116, 101, 100, 83, 116, 121, 108, 101] : List UInt8) then Go.bits .or .u32 x 4 else
  if s.toList = ([76, 105, 116, 101, 114, 97, 108, 83, 116, 121, 108, 101] : List UInt8) then Go.bits .or .u32 x 8 else
  if s.toList = ([70, 111, 108, 100, 101, 100, 83, 116, 121, 108, 101] : List UInt8) then Go.bits .or .u32 x 16 else
  if s.toList = ([70, 108, 111, 119, 83, 116, 121, 108, 101] : List UInt8) then Go.bits .or .u32 x 32 else x

theorem ns_bits : ∀ n : Fin 64, ∀ j : Fin 6, Go.bits .or .u32 (n.val : Int) ((2 : Int) ^ j.val) = Go.bits .or .i64 (n.val : Int) (shl .i64 1 (j.val : Int)) ∧ 0 ≤ Go.bits .or .u32 (n.val : Int) ((2 : Int) ^ j.val) ∧ Go.bits .or .u32 (n.val : Int) ((2 : Int) ^ j.val) < 64 := by
  decide +kernel
theorem ns_or (x : Int) (h0 : 0 ≤ x) (h1 : x < 64) (j : Nat) (hj : j < 6) : Go.bits .or .u32 x ((2 : Int) ^ j) = Go.bits .or .i64 x (shl .i64 1 (j : Int)) ∧ 0 ≤ Go.bits .or .u32 x ((2 : Int) ^ j) ∧ Go.bits .or .u32 x ((2 : Int) ^ j) < 64 := by
  obtain ⟨n, rfl⟩ := Int.eq_ofNat_of_zero_le h0
  exact ns_bits ⟨n, by omega⟩ ⟨j, hj⟩

theorem ns_round (k : Nat) (x : Int) (s : ByteArray) (l : List ByteArray) (n i : Int) (j : Int) (h0 : 0 ≤ j) (h : j < 6) :
    spec_KyStyle.l1 (k + 1) x s l n i nsNames 6 j = spec_KyStyle.l1 k (if s.toList = (rdOf ByteArray.empty nsNames j).toList then Go.bits .or .i64 x (shl .i64 1 j) else x) s l n i nsNames 6 (j + 1) := by
  have hw : wrap64 (j + 1) = j + 1 := by unfold wrap64; omega
  simp only [spec_KyStyle.l1]
  rw [if_pos h, if_pos h0, if_pos (show j < (nsNames.length : Int) from h), hw]
  split <;> rfl

theorem ns_inner (k : Nat) (x : Int) (h0 : 0 ≤ x) (h1 : x < 64) (s : ByteArray) (l : List ByteArray) (n i : Int) :
    spec_KyStyle.l1 (k + 7) x s l n i nsNames 6 0 = spec_KyStyle.l0 k (nsAdd x s) l n (wrap64 (i + 1)) := by
  rw [ns_round _ _ _ _ _ _ 0 (by omega) (by omega), ns_round _ _ _ _ _ _ (0 + 1) (by omega) (by omega), ns_round _ _ _ _ _ _ (0 + 1 + 1) (by omega) (by omega), ns_round _ _ _ _ _ _ (0 + 1 + 1 + 1) (by omega) (by omega), ns_round _ _ _ _ _ _ (0 + 1 + 1 + 1 + 1) (by omega) (by omega), ns_round _ _ _ _ _ _ (0 + 1 + 1 + 1 + 1 + 1) (by omega) (by omega)]
  have hend : ∀ y, spec_KyStyle.l1 (k + 1) y s l n i nsNames 6 (0 + 1 + 1 + 1 + 1 + 1 + 1) = spec_KyStyle.l0 k y l n (wrap64 (i + 1)) := fun y => by
    simp only [spec_KyStyle.l1]
    rw [if_neg (by omega)]
  rw [hend]
  congr 1
  have e0 : (rdOf ByteArray.empty nsNames 0).toList = ([84, 97, 103, 103, 101, 100, 83, 116, 121, 108, 101] : List UInt8) := by rw [Lib.toList_data]; rfl
  have e1 : (rdOf ByteArray.empty nsNames (0 + 1)).toList = ([68, 111, 117, 98, 108, 101, 81, 117, 111, 116, 101, 100, 83, 116, 121, 108, 101] : List UInt8) := by rw [Lib.toList_data]; rfl
  have e2 : (rdOf ByteArray.empty nsNames (0 + 1 + 1)).toList = ([83, 105, 110, 103, 108, 101, 81, 117, 111, 116, 101, 100, 83, 116, 121, 108, 101] : List UInt8) := by rw [Lib.toList_data]; rfl
  have e3 : (rdOf ByteArray.empty nsNames (0 + 1 + 1 + 1)).toList = ([76, 105, 116, 101, 114, 97, 108, 83, 116, 121, 108, 101] : List UInt8) := by rw [Lib.toList_data]; rfl
  have e4 : (rdOf ByteArray.empty nsNames (0 + 1 + 1 + 1 + 1)).toList = ([70, 111, 108, 100, 101, 100, 83, 116, 121, 108, 101] : List UInt8) := by rw [Lib.toList_data]; rfl
  have e5 : (rdOf ByteArray.empty nsNames (0 + 1 + 1 + 1 + 1 + 1)).toList = ([70, 108, 111, 119, 83, 116, 121, 108, 101] : List UInt8) := by rw [Lib.toList_data]; rfl
  rw [e0, e1, e2, e3, e4, e5]
  unfold nsAdd
  have b := fun j hj => (ns_or x h0 h1 j hj).1
  have b0 := b 0 (by omega); have b1 := b 1 (by omega); have b2 := b 2 (by omega); have b3 := b 3 (by omega); have b4 := b 4 (by omega); have b5 := b 5 (by omega)
  generalize s.toList = t at *
  by_cases c0 : t = ([84, 97, 103, 103, 101, 100, 83, 116, 121, 108, 101] : List UInt8)
  · subst c0; simpa using b0.symm
  by_cases c1 : t = ([68, 111, 117, 98, 108, 101, 81, 117, 111, 116, 101, 100, 83, 116, 121, 108, 101] : List UInt8)
  · subst c1; simpa using b1.symm
  by_cases c2 : t = ([83, 105, 110, 103, 108, 101, 81, 117, 111, 116, 101, 100, 83, 116, 121, 108, 101] : List UInt8)
  · subst c2; simpa using b2.symm
  by_cases c3 : t = ([76, 105, 116, 101, 114, 97, 108, 83, 116, 121, 108, 101] : List UInt8)
  · subst c3; simpa using b3.symm
  by_cases c4 : t = ([70, 111, 108, 100, 101, 100, 83, 116, 121, 108, 101] : List UInt8)
  · subst c4; simpa using b4.symm
  by_cases c5 : t = ([70, 108, 111, 119, 83, 116, 121, 108, 101] : List UInt8)
  · subst c5; simpa using b5.symm
  simp [c0, c1, c2, c3, c4, c5]

theorem ns_add (x : Int) (h0 : 0 ≤ x) (h1 : x < 64) (s : ByteArray) : 0 ≤ nsAdd x s ∧ nsAdd x s < 64 := by
  have b := fun j hj => (ns_or x h0 h1 j hj).2
  have b0 := b 0 (by omega); have b1 := b 1 (by omega); have b2 := b 2 (by omega); have b3 := b 3 (by omega); have b4 := b 4 (by omega); have b5 := b 5 (by omega)
  unfold nsAdd
  repeat' split
  · exact b0
  · exact b1
  · exact b2
  · exact b3
  · exact b4
  · exact b5
  · exact ⟨h0, h1⟩

theorem ns_get (l : List ByteArray) (hl : l.length ≤ 2147483647) (d : Nat) : ∀ (k : Nat) (x i : Int), 0 ≤ x → x < 64 → 0 ≤ i → i ≤ l.length → (l.length : Int) - i = d → d * 8 < k →
    ∃ r, 0 ≤ r ∧ r < 64 ∧ yaml_GetStyle.l0 k x l (l.length : Int) i = some r ∧ spec_KyStyle.l0 k x l (l.length : Int) i = some r := by
  induction d with
  | zero =>
    intro k x i x0 x1 h0 h1 hd hk
    obtain ⟨k, rfl⟩ : ∃ m, k = m + 1 := ⟨k - 1, by omega⟩
    exact ⟨x, x0, x1, by simp only [yaml_GetStyle.l0]; rw [if_neg (by omega)], by simp only [spec_KyStyle.l0]; rw [if_neg (by omega)]⟩
  | succ d ih =>
    intro k x i x0 x1 h0 h1 hd hk
    obtain ⟨k, rfl⟩ : ∃ m, k = m + 8 := ⟨k - 8, by omega⟩
    have hw : wrap64 (i + 1) = i + 1 := by unfold wrap64; omega
    obtain ⟨y0, y1⟩ := ns_add x x0 x1 (rdOf ByteArray.empty l i)
    obtain ⟨r, r0, r1, g1, g2⟩ := ih k (nsAdd x (rdOf ByteArray.empty l i)) (i + 1) y0 y1 (by omega) (by omega) (by omega) (by omega)
    refine ⟨r, r0, r1, ?_, ?_⟩
    · have hstep : ∀ k, yaml_GetStyle.l0 (k + 1) x l (l.length : Int) i = yaml_GetStyle.l0 k (nsAdd x (rdOf ByteArray.empty l i)) l (l.length : Int) (i + 1) := by
        intro k
        simp only [yaml_GetStyle.l0]
        rw [if_pos (by omega), if_pos h0, if_pos (by omega), hw]
        unfold nsAdd
        repeat' split
        all_goals rfl
      rw [hstep (k + 7)]
      exact more_rounds (g := fun k => yaml_GetStyle.l0 k (nsAdd x (rdOf ByteArray.empty l i)) l (l.length : Int) (i + 1)) (fun k => yaml_GetStyle.mono_l k _ _ _ _) k 7 r g1
    · have hstep : ∀ k, spec_KyStyle.l0 (k + 1) x l (l.length : Int) i = spec_KyStyle.l1 k x (rdOf ByteArray.empty l i) l (l.length : Int) i nsNames 6 0 := by
        intro k
        simp only [spec_KyStyle.l0]
        rw [if_pos (by omega), if_pos h0, if_pos (by omega)]
        rfl
      rw [hstep (k + 7), ns_inner k x x0 x1, hw]
      exact g2

theorem ns_flow (k : Nat) : impl_NodeStyle.f (k + 2) ([(⟨#[70, 108, 111, 119, 83, 116, 121, 108, 101]⟩ : ByteArray)] : List ByteArray) = some 32 :=
  at_rounds (g := fun k => impl_NodeStyle.f k ([(⟨#[70, 108, 111, 119, 83, 116, 121, 108, 101]⟩ : ByteArray)] : List ByteArray)) (fun k => impl_NodeStyle.mono _ k) (Nat.le_add_left 2 k) (by decide +kernel)

theorem FnNodeStyle (l : List ByteArray) : ∃ k, laws_FnNodeStyle.f k l = some true := by
  by_cases hl : (l.length : Int) > 2147483647
  · exact ⟨0, by unfold laws_FnNodeStyle.f laws_zzFits4.f; rw [if_pos hl]; rfl⟩
  · have hl' : l.length ≤ 2147483647 := by omega
    obtain ⟨b, hb⟩ := ns_fits l hl' l.length (8 * l.length + 1 + 2) 0 (by omega) (by omega) (by omega) (by omega)
    obtain ⟨c, hc, hcl⟩ := ns_cut l hl' 8 (by omega) l.length (8 * l.length + 1 + 2) [] 0 (by omega) (by omega) (by omega) (by omega) (by simp)
    obtain ⟨r, r0, r1, g1, g2⟩ := ns_get c (by omega) c.length (8 * l.length + 1 + 2) 0 0 (by omega) (by omega) (by omega) (by omega) (by omega) (by omega)
    refine ⟨8 * l.length + 1 + 2, ?_⟩
    have hb' : laws_zzFits4.f (8 * l.length + 1 + 2) l = some b := by unfold laws_zzFits4.f; rw [if_neg hl]; exact hb
    have hc' : laws_kyCut.f (8 * l.length + 1 + 2) l 8 = some c := hc
    have hw : wrap64 r = r := by unfold wrap64; omega
    have hg : impl_NodeStyle.f (8 * l.length + 1 + 2) c = some r := by
      unfold impl_NodeStyle.f yaml_GetStyle.f
      rw [g1]
      simp only [Option.bind_some, hw]
    have hs : spec_KyStyle.f (8 * l.length + 1 + 2) c = some r := g2
    unfold laws_FnNodeStyle.f
    rw [hb', hc', ns_flow]
    simp only [Option.bind_some]
    rw [hg, hs]
    cases b <;> simp

theorem nodeStyle_walk (W : World) (A : Option Addr) (c : Nat) (l : List ByteArray) (hC : Kd.string.C W A l.length l) (hc : l.length ≤ c) (_ : ∀ y, y ∈ l → y.size ≤ maxLen) :
    Calls Try.prog 4 #[.slice A l.length c] W fun e W' => e = .returned (.bool true) ∧ Below W.heap.size W W' := by
  obtain ⟨k, h⟩ := FnNodeStyle l
  exact laws_FnNodeStyle.calls k A c l true W hC hc h

end Go.Proofs.Ytdomnigegpigiaa.Pure

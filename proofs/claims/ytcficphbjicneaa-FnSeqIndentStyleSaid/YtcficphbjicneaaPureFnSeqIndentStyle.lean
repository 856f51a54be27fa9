/- FnSeqIndentStyle: the code's way through the lines and the reference's are the same at each line: index, split, trim, count; no condition. -/
import Derived.Test.YtcficphbjicneaaPFnSeqIndentStylex4
import Derived.Test.YtcficphbjicneaaBL
namespace Go.Proofs.Ytcficphbjicneaa.Pure
open Go.RowKit Go.Proofs.Ytcficphbjicneaa.PFnSeqIndentStyle Go.Proofs.YtcficphbjicneaaW.PrintWords Go.Proofs.YtcficphbjicneaaW.PrintLast Go.Proofs.YtcficphbjicneaaW.PrintMore Go.Proofs.Ytcficphbjicneaa.BL

theorem si_ix : IdxEq yaml_zzIndex.l0 := fun k s p i => by rw [yaml_zzIndex.l0]
theorem si_ky : IdxEq spec_kyIndex.l0 := fun k s p i => by rw [spec_kyIndex.l0]
theorem si_index : ∀ (k : Nat) (s p : ByteArray) (i : Int), yaml_zzIndex.l0 k s p i = spec_kyIndex.l0 k s p i
  | 0, _, _, _ => rfl
  | k + 1, s, p, i => by rw [si_ix, si_ky, si_index k]
theorem si_sp : SplitEq spec_kyIndex.l0 spec_kySplit.l0 := fun k a b c => by rw [spec_kySplit.l0]; rfl
theorem si_split : ∀ (k : Nat) (s p : ByteArray) (l : List ByteArray), yaml_zzSplit.l1 k s p l = spec_kySplit.l0 k s p l
  | 0, _, _, _ => rfl
  | k + 1, s, p, l => by
    rw [yaml_zzSplit.l1, si_sp, yaml_zzIndex.f, si_index]
    simp only [si_split k]

/-- the trimmed text's end -/
def rl (l : List UInt8) : Nat → Nat
  | 0 => 0
  | n + 1 => if l[n]? = some 32 then rl l n else n + 1
theorem rl_le (l : List UInt8) : ∀ n, rl l n ≤ n
  | 0 => Nat.le_refl _
  | n + 1 => by
    unfold rl; split
    · exact Nat.le_succ_of_le (rl_le l n)
    · exact Nat.le_refl _
theorem rl_pos (l : List UInt8) : ∀ n i, i < n → i < l.length → l[i]? ≠ some 32 → i < rl l n
  | 0, _, h, _, _ => by omega
  | n + 1, i, h, hl, hn => by
    unfold rl; split
    · rename_i h1
      rcases Nat.lt_or_ge i n with h2 | h2
      · exact rl_pos l n i h2 hl hn
      · obtain rfl : i = n := by omega
        exact absurd h1 hn
    · exact h
def cutL (s : ByteArray) : ByteArray := s.extract (lead s) s.size
def trim (s : ByteArray) : ByteArray := (cutL s).extract 0 (rl (L (cutL s)) (cutL s).size)
theorem ext_ext (s : ByteArray) (n m : Nat) (h : m ≤ n) : (s.extract 0 n).extract 0 m = s.extract 0 m := by
  apply L_inj
  rw [L_extract, L_extract, L_extract]
  simp [List.take_take, Nat.min_eq_left h]
theorem ext_size (s : ByteArray) (n : Nat) (h : n ≤ s.size) : (s.extract 0 n).size = n := by
  simp [ByteArray.size_extract]; omega
theorem ext_all (s : ByteArray) : s.extract 0 s.size = s := by
  apply L_inj
  rw [L_extract, List.drop_zero, Nat.sub_zero, ← L_length, List.take_length]
theorem tl_nil (s : ByteArray) : s.toList = ([] : List UInt8) ↔ s.size = 0 := by rw [toList_L, L_nil]
theorem bt32 (s : ByteArray) (i : Nat) (h : i < s.size) : bt s (i : Int) = 32 ↔ (L s)[i]? = some 32 := by
  obtain ⟨b, h1, h2, _⟩ := drop_at s i h
  rw [h1, h2]
  constructor
  · intro h3; rw [u8_toNat_inj (b := 32) h3]
  · intro h3; rw [Option.some.inj h3]; rfl

theorem ky_right (y : ByteArray) (hy : y.size ≤ 4294967296) : ∀ (n k : Nat), n ≤ y.size → n < k → spec_kyTrim.l1 k (y.extract 0 n) = some (y.extract 0 (rl (L y) n))
  | 0, k, h, hk => by
    obtain ⟨k, rfl⟩ : ∃ m, k = m + 1 := ⟨k - 1, by omega⟩
    rw [spec_kyTrim.l1, if_pos ((tl_nil _).2 (ext_size y 0 h))]
    rfl
  | n + 1, k, h, hk => by
    obtain ⟨k, rfl⟩ : ∃ m, k = m + 1 := ⟨k - 1, by omega⟩
    have hz := ext_size y (n + 1) h
    have hw : wrap64 (((y.extract 0 (n + 1)).size : Int) - 1) = (n : Int) := w64_eq (by omega) (by omega) (by omega)
    have hb : bt (y.extract 0 (n + 1)) (n : Int) = 32 ↔ (L y)[n]? = some 32 := by
      rw [bt32 _ n (by omega), L_extract]
      simp
    rw [spec_kyTrim.l1, if_neg (fun h2 => by rw [tl_nil] at h2; omega), hw, if_pos (by omega), if_pos (by omega)]
    unfold rl
    by_cases c : (L y)[n]? = some 32
    · rw [if_pos (hb.2 c), if_pos (by omega), if_pos c, show ((n : Int)).toNat = n by omega, ext_ext _ _ _ (by omega)]
      exact ky_right y hy n k (by omega) (by omega)
    · rw [if_neg (fun h2 => c (hb.1 h2)), if_neg c]
theorem ky_left (s : ByteArray) (_ : s.size ≤ 4294967296) (d : Nat) : ∀ (i k : Nat), i ≤ lead s → lead s - i = d → d + 1 < k → spec_kyTrim.l0 k (s.extract i s.size) = spec_kyTrim.j1 (k - d - 1) (cutL s) := by
  induction d with
  | zero =>
    intro i k h1 h2 hk
    obtain rfl : i = lead s := by omega
    obtain ⟨k, rfl⟩ : ∃ m, k = m + 1 := ⟨k - 1, by omega⟩
    rw [spec_kyTrim.l0, show k + 1 - 0 - 1 = k by omega]
    show _ = spec_kyTrim.j1 k (s.extract (lead s) s.size)
    have hle := lead_le s
    have hz : (s.extract (lead s) s.size).size = s.size - lead s := by simp [ByteArray.size_extract]
    by_cases c : (s.extract (lead s) s.size).size = 0
    · rw [if_pos ((tl_nil _).2 c)]
    · have hl : lead s < s.size := by omega
      have hne := lead_at hl
      have hb : bt (s.extract (lead s) s.size) 0 = 32 ↔ _ := bt32 (s.extract (lead s) s.size) 0 (by omega)
      have hg : (L (s.extract (lead s) s.size))[0]? ≠ some 32 := by
        rw [L_extract]
        simp only [List.getElem?_take, List.getElem?_drop, Nat.add_zero]
        rw [if_pos (by omega)]
        exact tw_at s.data.toList
      rw [if_neg (fun h => c ((tl_nil _).1 h)), if_pos (by omega), if_neg (fun h => hg (hb.1 h))]
  | succ d ih =>
    intro i k h1 h2 hk
    obtain ⟨k, rfl⟩ : ∃ m, k = m + 1 := ⟨k - 1, by omega⟩
    have hle := lead_le s
    have hz : (s.extract i s.size).size = s.size - i := by simp [ByteArray.size_extract]
    have hb : bt (s.extract i s.size) 0 = 32 ↔ _ := bt32 (s.extract i s.size) 0 (by omega)
    have hg : (L (s.extract i s.size))[0]? = some 32 := by
      rw [L_extract]
      simp only [List.getElem?_take, List.getElem?_drop, Nat.add_zero]
      rw [if_pos (by omega)]
      exact tw_lt s.data.toList i (by unfold lead at h2; omega)
    have he : (s.extract i s.size).extract 1 (s.extract i s.size).size = s.extract (i + 1) s.size := by
      apply L_inj
      rw [hz, L_extract, L_extract, L_extract, List.drop_take, List.drop_drop, List.take_take]
      congr 1
      omega
    rw [spec_kyTrim.l0, if_neg (fun h => by rw [tl_nil] at h; omega), if_pos (by omega), if_pos (hb.2 hg), if_pos (by omega), he, ih (i + 1) k (by omega) (by omega) (by omega), show k + 1 - (d + 1) - 1 = k - d - 1 by omega]
theorem ky_trim (s : ByteArray) (hs : s.size ≤ 4294967296) (k : Nat) (hk : 2 * s.size + 4 < k) : spec_kyTrim.f k s = some (trim s) := by
  have hle := lead_le s
  have hz : (cutL s).size ≤ s.size := by unfold cutL; simp [ByteArray.size_extract]
  unfold spec_kyTrim.f
  have h := ky_left s hs (lead s) 0 k (by omega) (by omega) (by omega)
  rw [ext_all] at h
  rw [h]
  obtain ⟨m, hm⟩ : ∃ m, k - lead s - 1 = m + 1 := ⟨k - lead s - 2, by omega⟩
  rw [hm, spec_kyTrim.j1]
  have h2 := ky_right (cutL s) (by omega) (cutL s).size m (by omega) (by omega)
  rw [ext_all] at h2
  exact h2

theorem zz_right (y : ByteArray) (hy : y.size ≤ 4294967296) : ∀ (n k : Nat), n ≤ y.size → 3 * n < k → yaml_zzTrimRight.l0 k y (⟨#[32]⟩ : ByteArray) (n : Int) = some (y.extract 0 (rl (L y) n))
  | 0, k, h, hk => by
    obtain ⟨k, rfl⟩ : ∃ m, k = m + 1 := ⟨k - 1, by omega⟩
    rw [yaml_zzTrimRight.l0, if_neg (by omega), if_pos (by omega), if_pos (by omega)]
    rfl
  | n + 1, k, h, hk => by
    obtain ⟨k, rfl⟩ : ∃ m, k = m + 3 := ⟨k - 3, by omega⟩
    have e1 : (⟨#[32]⟩ : ByteArray).size = 1 := rfl
    have hw : ∀ _ : Unit, wrap64 (((n + 1 : Nat) : Int) - 1) = (n : Int) := fun _ => w64_eq (by omega) (by omega) (by omega)
    have hw2 : ∀ _ : Unit, wrap64 ((0 : Int) + 1) = 1 := fun _ => w64_eq (by omega) (by omega) (by omega)
    have hb := bt32 y n (by omega)
    have hb1 : bt (⟨#[32]⟩ : ByteArray) 0 = 32 := rfl
    have s1 : yaml_zzTrimRight.l0 (k + 3) y (⟨#[32]⟩ : ByteArray) ((n + 1 : Nat) : Int) = yaml_zzTrimRight.l1 (k + 2) y (⟨#[32]⟩ : ByteArray) ((n + 1 : Nat) : Int) false 0 := by
      conv => lhs; unfold yaml_zzTrimRight.l0
      rw [if_pos (by omega)]
    unfold rl
    by_cases c : (L y)[n]? = some 32
    · have s2 : yaml_zzTrimRight.l1 (k + 2) y (⟨#[32]⟩ : ByteArray) ((n + 1 : Nat) : Int) false 0 = yaml_zzTrimRight.l1 (k + 1) y (⟨#[32]⟩ : ByteArray) ((n + 1 : Nat) : Int) true 1 := by
        conv => lhs; unfold yaml_zzTrimRight.l1
        rw [hw (), hb1, if_pos (by omega), if_pos (by omega), if_pos (by omega), if_pos (by omega), if_pos (hb.2 c).symm, hw2 ()]
      have s3 : yaml_zzTrimRight.l1 (k + 1) y (⟨#[32]⟩ : ByteArray) ((n + 1 : Nat) : Int) true 1 = yaml_zzTrimRight.l0 k y (⟨#[32]⟩ : ByteArray) (n : Int) := by
        conv => lhs; unfold yaml_zzTrimRight.l1
        rw [if_neg (by omega), if_pos (rfl : true = true), hw ()]
      rw [s1, s2, s3, if_pos c]
      exact zz_right y hy n k (by omega) (by omega)
    · have s2 : yaml_zzTrimRight.l1 (k + 2) y (⟨#[32]⟩ : ByteArray) ((n + 1 : Nat) : Int) false 0 = yaml_zzTrimRight.l1 (k + 1) y (⟨#[32]⟩ : ByteArray) ((n + 1 : Nat) : Int) false 1 := by
        conv => lhs; unfold yaml_zzTrimRight.l1
        rw [hw (), hb1, if_pos (by omega), if_pos (by omega), if_pos (by omega), if_pos (by omega), if_neg (fun h => c (hb.1 h.symm)), hw2 ()]
      have s3 : yaml_zzTrimRight.l1 (k + 1) y (⟨#[32]⟩ : ByteArray) ((n + 1 : Nat) : Int) false 1 = some (y.extract 0 (n + 1)) := by
        conv => lhs; unfold yaml_zzTrimRight.l1
        rw [if_neg (by omega), if_neg (by decide), if_pos (by omega), if_pos (by omega), show (((n + 1 : Nat) : Int)).toNat = n + 1 by omega]
      rw [s1, s2, s3, if_neg c]
theorem zz_trim (s : ByteArray) (hs : s.size ≤ 4294967296) (k : Nat) (hk : 3 * s.size + 4 < k) : yaml_zzTrim.f k s (⟨#[32]⟩ : ByteArray) = some (trim s) := by
  have hz : (cutL s).size ≤ s.size := by unfold cutL; simp [ByteArray.size_extract]
  unfold yaml_zzTrim.f yaml_zzTrimLeft.f
  rw [if_pos (show (⟨#[32]⟩ : ByteArray) = sp from rfl), Option.bind_some]
  unfold yaml_zzTrimRight.f
  show (yaml_zzTrimRight.l0 k (cutL s) _ ((cutL s).size : Int)).bind _ = _
  rw [zz_right (cutL s) (by omega) (cutL s).size k (Nat.le_refl _) (by omega)]
  rfl

theorem one_at (t p : ByteArray) (i : Nat) (h : i < t.size) (c : UInt8) (hp : L p = [c]) : (t.extract i (i + 1)).toList = p.toList ↔ (L t)[i]? = some c := by
  obtain ⟨b, h1, _, h3⟩ := drop_at t i h
  rw [toList_L, toList_L, hp, L_extract, h3, show i + 1 - i = 1 by omega, h1]
  simp
theorem zz_count (t : ByteArray) (ht : t.size ≤ 4294967296) (d : Nat) : ∀ (k i n : Nat), i ≤ t.size → t.size - i = d → d < k → n ≤ i → yaml_zzCount.l1 k t (⟨#[58]⟩ : ByteArray) (n : Int) (i : Int) = some ((n + ((L t).drop i).count 58 : Nat) : Int) := by
  induction d with
  | zero =>
    intro k i n h1 h2 hk hn
    obtain ⟨k, rfl⟩ : ∃ m, k = m + 1 := ⟨k - 1, by omega⟩
    have e1 : (⟨#[58]⟩ : ByteArray).size = 1 := rfl
    rw [yaml_zzCount.l1, w64_eq (n := (i : Int) + ((⟨#[58]⟩ : ByteArray).size : Int)) (m := ((i + 1 : Nat) : Int)) (by omega) (by omega) (by omega), if_neg (by omega), List.drop_eq_nil_of_le (by rw [L_length]; omega)]
    rfl
  | succ d ih =>
    intro k i n h1 h2 hk hn
    obtain ⟨k, rfl⟩ : ∃ m, k = m + 1 := ⟨k - 1, by omega⟩
    have e1 : (⟨#[58]⟩ : ByteArray).size = 1 := rfl
    obtain ⟨b, hb1, _, hb3⟩ := drop_at t i (by omega)
    have ho := one_at t (⟨#[58]⟩ : ByteArray) i (by omega) 58 rfl
    have hw := fun _ : Unit => w64_eq (n := (i : Int) + ((⟨#[58]⟩ : ByteArray).size : Int)) (m := ((i + 1 : Nat) : Int)) (by omega) (by omega) (by omega)
    have hw2 := fun _ : Unit => w64_eq (n := (i : Int) + 1) (m := ((i + 1 : Nat) : Int)) (by omega) (by omega) (by omega)
    have hw3 := fun _ : Unit => w64_eq (n := (n : Int) + 1) (m := ((n + 1 : Nat) : Int)) (by omega) (by omega) (by omega)
    conv => lhs; unfold yaml_zzCount.l1
    rw [hw (), hw2 (), hw3 (), if_pos (by omega), if_pos (by omega), if_pos (by omega), show ((i : Int)).toNat = i by omega, show (((i + 1 : Nat) : Int)).toNat = i + 1 by omega, hb3]
    by_cases c : b = 58
    · rw [if_pos (ho.2 (by rw [hb1, c])), ih k (i + 1) (n + 1) (by omega) (by omega) (by omega) (by omega), c, List.count_cons_self]
      congr 1; omega
    · rw [if_neg (fun h => c (Option.some.inj (hb1.symm.trans (ho.1 h)))), ih k (i + 1) n (by omega) (by omega) (by omega) (by omega), List.count_cons_of_ne (Ne.symm (Ne.symm c))]

theorem two_first (s : ByteArray) (hs : s.size ≤ 400) : ∃ r : ByteArray, r.size ≤ 400 ∧ ∀ k, 2000 < k → (∃ t1, yaml_zzSplitTwo.f k s (⟨#[35]⟩ : ByteArray) = some t1 ∧ 0 < t1.length ∧ rdOf ByteArray.empty t1 0 = r) ∧ (∃ t2, spec_kySplit.f k s (⟨#[35]⟩ : ByteArray) = some t2 ∧ 0 < t2.length ∧ rdOf ByteArray.empty t2 0 = r) := by
  have e1 : (⟨#[35]⟩ : ByteArray).size = 1 := rfl
  by_cases c : (35 : UInt8) ∈ L s
  · obtain ⟨q0, _, h0⟩ := idx_one si_ix s (⟨#[35]⟩ : ByteArray) (by omega) 35 rfl 3000 (by omega)
    rcases h0 with ⟨_, h0⟩ | ⟨pre, post, hl, hp, _⟩
    · exact absurd c h0
    have hz : s.size = pre.length + (post.length + 1) := by rw [← L_length, hl]; simp
    have hL : L (s.extract 0 pre.length) = pre := by rw [L_extract, hl]; simp
    refine ⟨s.extract 0 pre.length, by simp [ByteArray.size_extract]; omega, fun k hk => ⟨?_, ?_⟩⟩
    · obtain ⟨q, hq, h⟩ := idx_one si_ix s (⟨#[35]⟩ : ByteArray) (by omega) 35 rfl k (by omega)
      have hqe : q = (pre.length : Int) := by
        rcases h with ⟨_, h⟩ | ⟨pre2, post2, hl2, hp2, rfl⟩
        · exact absurd c h
        · have h5 := congrArg (splitL 35) (hl.symm.trans hl2)
          rw [splitL_at 35 _ _ hp, splitL_at 35 _ _ hp2] at h5
          rw [(List.cons.inj h5).1]
      subst hqe
      refine ⟨_, by
        unfold yaml_zzSplitTwo.f yaml_zzIndex.f
        rw [hq, Option.bind_some, if_pos (by omega), if_pos (by omega), if_pos (by omega), w64_eq (n := (pre.length : Int) + ((⟨#[35]⟩ : ByteArray).size : Int)) (m := ((pre.length + 1 : Nat) : Int)) (by omega) (by omega) (by omega), if_pos (by omega), if_pos (by omega)], by simp, ?_⟩
      rfl
    · obtain ⟨r, h1, h2⟩ := split_one si_ky si_sp (⟨#[35]⟩ : ByteArray) 35 rfl s.size k s [] (by omega) (by omega) (by simp; omega) (by omega)
      rw [List.map_nil, List.nil_append, hl, splitL_at 35 _ _ hp] at h2
      cases r with
      | nil => simp at h2
      | cons a r =>
        rw [List.map_cons] at h2
        refine ⟨_, h1, by simp, ?_⟩
        show a = _
        exact L_inj ((List.cons.inj h2).1.trans hL.symm)
  · refine ⟨s, hs, fun k hk => ⟨?_, ?_⟩⟩
    · obtain ⟨q, hq, h⟩ := idx_one si_ix s (⟨#[35]⟩ : ByteArray) (by omega) 35 rfl k (by omega)
      have hqe : q = -1 := by
        rcases h with ⟨h, _⟩ | ⟨pre2, post2, hl2, hp2, rfl⟩
        · exact h
        · exact absurd (by rw [hl2]; simp) c
      subst hqe
      refine ⟨_, by
        unfold yaml_zzSplitTwo.f yaml_zzIndex.f
        rw [hq, Option.bind_some, if_neg (by omega)], by simp, rfl⟩
    · obtain ⟨r, h1, h2⟩ := split_one si_ky si_sp (⟨#[35]⟩ : ByteArray) 35 rfl s.size k s [] (by omega) (by omega) (by simp; omega) (by omega)
      rw [List.map_nil, List.nil_append, splitL_none 35 _ c] at h2
      have h3 : r = [s] := map_L_inj (by rw [h2]; rfl)
      exact ⟨_, h1, by rw [h3]; simp, by rw [h3]; rfl⟩

theorem trim_size (s : ByteArray) : (trim s).size ≤ s.size := by
  have hz : (cutL s).size ≤ s.size := by unfold cutL; simp [ByteArray.size_extract]
  have := rl_le (L (cutL s)) (cutL s).size
  unfold trim
  simp [ByteArray.size_extract]; omega

theorem prefix_hash (t : ByteArray) : strings_HasPrefix.f t (⟨#[35]⟩ : ByteArray) = some (decide ((L t)[0]? = some 35)) := by
  unfold strings_HasPrefix.f stringslite_HasPrefix.f
  have e1 : (⟨#[35]⟩ : ByteArray).size = 1 := rfl
  by_cases c : t.size = 0
  · rw [if_neg (by omega), (L_nil t).2 c]; rfl
  · rw [if_pos (by omega), if_pos (by omega), if_pos (by omega)]
    have h := one_at t (⟨#[35]⟩ : ByteArray) 0 (by omega) 35 rfl
    rw [Option.bind_some]
    congr 1
    rw [Bool.eq_iff_iff, beq_iff_eq, decide_eq_true_iff, ← h, show ((((⟨#[35]⟩ : ByteArray).size : Int)) : Int).toNat = 0 + 1 by omega]

theorem key_line (l : List ByteArray) (hx : ∀ x ∈ l, x.size ≤ 400) (hl : l.length ≤ 100000) : ∀ (i : Nat), i ≤ l.length → ∃ r : ByteArray, r.size ≤ 400 ∧ ∀ k, i + 2001 < k → yaml_keyLineBeforeSeqElem.l0 k l ((i : Int) - 1) = some r ∧ spec_KyKeyLine.l0 k l ((i : Int) - 1) = some r
  | 0, _ => by
    refine ⟨⟨#[]⟩, by decide, fun k hk => ?_⟩
    obtain ⟨k, rfl⟩ : ∃ m, k = m + 1 := ⟨k - 1, by omega⟩
    exact ⟨by rw [yaml_keyLineBeforeSeqElem.l0, if_neg (by omega)], by rw [spec_KyKeyLine.l0, if_neg (by omega)]⟩
  | i + 1, h => by
    have hi : i < l.length := by omega
    have hg := rdOf_get ByteArray.empty l i hi
    have hs := hx _ (List.getElem_mem hi)
    generalize l[i] = s at hg hs
    have e0 : (((i + 1 : Nat) : Int) - 1) = (i : Int) := by omega
    have hw : wrap64 ((i : Int) - 1) = (i : Int) - 1 := w64 (by omega) (by omega)
    rw [e0]
    have hts := trim_size s
    by_cases c : (L (trim s))[0]? = some 35
    · obtain ⟨r, hr, hk⟩ := key_line l hx hl i (by omega)
      refine ⟨r, hr, fun k hk2 => ?_⟩
      obtain ⟨k, rfl⟩ : ∃ m, k = m + 1 := ⟨k - 1, by omega⟩
      obtain ⟨h1, h2⟩ := hk k (by omega)
      have hne : ¬ (trim s).size = 0 := fun h => by rw [(L_nil _).2 h] at c; simp at c
      constructor
      · rw [yaml_keyLineBeforeSeqElem.l0, if_pos (by omega), if_pos (by omega), if_pos (by omega), hg, zz_trim s (by omega) k (by omega), Option.bind_some, prefix_hash, Option.bind_some, decide_eq_true c, if_pos (rfl : true = true), hw, h1]
      · have hb : bt (trim s) 0 = 35 := bt_get? (trim s) 0 35 c
        rw [spec_KyKeyLine.l0, if_pos (by omega), if_pos (by omega), if_pos (by omega), hg, ky_trim s (by omega) k (by omega), Option.bind_some, if_neg (fun h => hne ((tl_nil _).1 h)), if_pos (by omega), if_pos hb, hw, h2]
    · obtain ⟨r, hr, hk⟩ := two_first s hs
      refine ⟨r, hr, fun k hk2 => ?_⟩
      obtain ⟨k, rfl⟩ : ∃ m, k = m + 1 := ⟨k - 1, by omega⟩
      obtain ⟨⟨t1, h1, h2, h3⟩, t2, h4, h5, h6⟩ := hk k (by omega)
      constructor
      · rw [yaml_keyLineBeforeSeqElem.l0, if_pos (by omega), if_pos (by omega), if_pos (by omega), hg, zz_trim s (by omega) k (by omega), Option.bind_some, prefix_hash, Option.bind_some, decide_eq_false c, if_neg (by decide), h1, Option.bind_some, if_pos (by omega), h3]
      · rw [spec_KyKeyLine.l0, if_pos (by omega), if_pos (by omega), if_pos (by omega), hg, ky_trim s (by omega) k (by omega), Option.bind_some]
        by_cases c2 : (trim s).size = 0
        · rw [if_pos ((tl_nil _).2 c2), h4, Option.bind_some, if_pos (by omega), h6]
        · obtain ⟨b, hb1, hb2, _⟩ := drop_at (trim s) 0 (by omega)
          have hb : ¬ bt (trim s) 0 = 35 := fun h => c (by rw [hb1]; exact congrArg some (u8_toNat_inj (b := 35) (hb2.symm.trans h)))
          rw [if_neg (fun h => c2 ((tl_nil _).1 h)), if_pos (by omega), if_neg hb, h4, Option.bind_some, if_pos (by omega), h6]

theorem leo_le {α : Type} {f : Nat → Option α} (hf : ∀ k, LeO (f k) (f (k + 1))) {k m : Nat} {r : α} (h : f k = some r) (hm : k ≤ m) : f m = some r := by
  induction hm with
  | refl => exact h
  | step _ ih => exact hf _ _ ih

theorem suffix_colon (t : ByteArray) (ht : t.size ≤ 400) : strings_HasSuffix.f t (⟨#[58]⟩ : ByteArray) = some (decide ((L t)[t.size - 1]? = some 58)) := by
  unfold strings_HasSuffix.f stringslite_HasSuffix.f
  have e1 : (⟨#[58]⟩ : ByteArray).size = 1 := rfl
  by_cases c : t.size = 0
  · rw [if_neg (by omega), (L_nil t).2 c]; rfl
  · rw [if_pos (by omega), w64_eq (n := (t.size : Int) - ((⟨#[58]⟩ : ByteArray).size : Int)) (m := ((t.size - 1 : Nat) : Int)) (by omega) (by omega) (by omega), if_pos (by omega), if_pos (by omega)]
    have h := one_at t (⟨#[58]⟩ : ByteArray) (t.size - 1) (by omega) 58 rfl
    rw [show t.size - 1 + 1 = t.size by omega] at h
    rw [Option.bind_some]
    congr 1
    rw [Bool.eq_iff_iff, beq_iff_eq, decide_eq_true_iff, ← h, show (((t.size - 1 : Nat) : Int)).toNat = t.size - 1 by omega]

def colon (t : ByteArray) : Bool := decide ((L t).count 58 = 1 ∧ (L t)[t.size - 1]? = some 58)
theorem colon_nil (t : ByteArray) (h : t.size = 0) : colon t = false := by
  unfold colon
  rw [(L_nil t).2 h]; simp
theorem colon_impl (t : ByteArray) (ht : t.size ≤ 400) (k : Nat) (hk : 2000 < k) (X : Bool → Option ByteArray) :
    ((yaml_zzCount.f k t (⟨#[58]⟩ : ByteArray)).bind fun n => if n = 1 then ((strings_HasSuffix.f t (⟨#[58]⟩ : ByteArray)).bind fun h => X (!h)) else X true) = X (!(colon t)) := by
  have h := zz_count t (by omega) t.size k 0 0 (by omega) (by omega) (by omega) (by omega)
  rw [Nat.zero_add, List.drop_zero] at h
  unfold yaml_zzCount.f
  rw [if_neg (by decide)]
  have h2 : yaml_zzCount.l1 k t (⟨#[58]⟩ : ByteArray) 0 0 = some (((L t).count 58 : Nat) : Int) := h
  rw [h2, Option.bind_some, suffix_colon t ht, Option.bind_some]
  unfold colon
  by_cases c : (L t).count 58 = 1
  · rw [if_pos (by omega)]; simp [c]
  · rw [if_neg (by omega)]; simp [c]
theorem colon_spec (t : ByteArray) (ht : t.size ≤ 400) (k : Nat) (hk : 2000 < k) (Y : Bool → Option ByteArray) :
    (if t.toList = ([] : List UInt8) then Y true else ((spec_kyIndex.f k t (⟨#[58]⟩ : ByteArray)).bind fun q => Y (q != (wrap64 ((t.size : Int) - 1))))) = Y (!(colon t)) := by
  by_cases c : t.size = 0
  · rw [if_pos ((tl_nil t).2 c), colon_nil t c]; rfl
  rw [if_neg (fun h => c ((tl_nil t).1 h)), w64_eq (n := (t.size : Int) - 1) (m := ((t.size - 1 : Nat) : Int)) (by omega) (by omega) (by omega)]
  obtain ⟨q, hq, h⟩ := idx_one si_ky t (⟨#[58]⟩ : ByteArray) (by omega) 58 rfl k (by omega)
  unfold spec_kyIndex.f
  rw [hq, Option.bind_some]
  congr 1
  rcases h with ⟨rfl, h⟩ | ⟨pre, post, hl, hp, rfl⟩
  · have h0 : (L t).count 58 = 0 := List.count_eq_zero_of_not_mem h
    unfold colon
    rw [h0]
    first | (simp; done) | (simp; omega)
  · have hz : t.size = pre.length + (post.length + 1) := by rw [← L_length, hl]; simp
    have hcnt : (L t).count 58 = 1 + post.count 58 := by
      rw [hl, List.count_append, List.count_cons_self, List.count_eq_zero_of_not_mem hp]; omega
    cases hpo : post with
    | nil =>
      rw [hpo] at hz hcnt
      have hlast : (L t)[t.size - 1]? = some 58 := by
        rw [hl, hpo, show t.size - 1 = pre.length by simp at hz; omega]; simp
      have : colon t = true := by unfold colon; rw [hlast, hcnt]; simp
      rw [this]
      simp at hz ⊢; omega
    | cons b post' =>
      have hc : colon t = false := by
        unfold colon
        rw [decide_eq_false_iff_not]
        rintro ⟨h1, h2⟩
        have h3 : post.count 58 = 0 := by omega
        have h4 := List.count_eq_zero.1 h3
        apply h4
        have h5 : post[post.length - 1]? = some 58 := by
          rw [← h2, hl, List.getElem?_append_right (by omega), show t.size - 1 - pre.length = post.length - 1 + 1 by rw [hpo] at hz ⊢; simp at hz ⊢; omega, List.getElem?_cons_succ]
        exact List.mem_of_getElem? h5
      rw [hc]
      rw [hpo] at hz
      simp at hz ⊢; omega

theorem lead_lt_of_trim (r : ByteArray) (h : (trim r).size ≠ 0) : lead r < r.size := by
  have hle := lead_le r
  rcases Nat.lt_or_ge (lead r) r.size with h1 | h1
  · exact h1
  · exfalso
    have hz : (cutL r).size = 0 := by unfold cutL; simp [ByteArray.size_extract]; omega
    have := rl_le (L (cutL r)) (cutL r).size
    apply h
    unfold trim
    simp [ByteArray.size_extract]; omega

theorem spec_ahead (x3 x12 : List ByteArray) (x6 x13 x14 : Int) (r : ByteArray) (hr : r.size ≤ 400) (hlt : lead r < r.size) (e : Nat) : ∀ (i k : Nat), i ≤ lead r → lead r - i = e → e < k →
    spec_KySeqStyle.l1 k x3 x6 r (i : Int) x12 x13 x14 = (if (wrap64 (x6 - (lead r : Int))) = 0 then (some (⟨#[99, 111, 109, 112, 97, 99, 116]⟩ : ByteArray)) else (if (wrap64 (x6 - (lead r : Int))) = 2 then (some (⟨#[119, 105, 100, 101]⟩ : ByteArray)) else (spec_KySeqStyle.l0 (k - e - 1) x3 x12 x13 (wrap64 (x14 + 1))))) := by
  induction e with
  | zero =>
    intro i k h1 h2 hk
    obtain rfl : i = lead r := by omega
    obtain ⟨k, rfl⟩ : ∃ m, k = m + 1 := ⟨k - 1, by omega⟩
    have hb := bt32 r (lead r) hlt
    have hn : ¬ (L r)[lead r]? = some 32 := tw_at r.data.toList
    conv => lhs; unfold spec_KySeqStyle.l1
    rw [if_pos (by omega), if_pos (by omega), if_neg (fun h => hn (hb.1 h)), show k + 1 - 0 - 1 = k by omega]
  | succ e ih =>
    intro i k h1 h2 hk
    obtain ⟨k, rfl⟩ : ∃ m, k = m + 1 := ⟨k - 1, by omega⟩
    have hb := bt32 r i (by omega)
    have hn : (L r)[i]? = some 32 := tw_lt r.data.toList i (by unfold lead at h2; omega)
    conv => lhs; unfold spec_KySeqStyle.l1
    rw [if_pos (by omega), if_pos (by omega), if_pos (hb.2 hn), w64_eq (n := (i : Int) + 1) (m := ((i + 1 : Nat) : Int)) (by omega) (by omega) (by omega), ih (i + 1) k (by omega) (by omega) (by omega), show k + 1 - (e + 1) - 1 = k - e - 1 by omega]

attribute [local irreducible] trim cutL lead
set_option maxRecDepth 20000 in
theorem rounds (ls : List ByteArray) (hx : ∀ x ∈ ls, x.size ≤ 400) (hl : ls.length ≤ 1000) (d : Nat) : ∀ i : Nat, i ≤ ls.length → ls.length - i = d →
    ∃ r, ∀ k, 4000 + 500 * d < k → yaml_DeriveSeqIndentStyle.l0 k ls ls (ls.length : Int) (i : Int) = some r ∧ spec_KySeqStyle.l0 k ls ls (ls.length : Int) (i : Int) = some r := by
  induction d with
  | zero =>
    intro i h1 h2
    refine ⟨(⟨#[99, 111, 109, 112, 97, 99, 116]⟩ : ByteArray), fun k hk => ?_⟩
    obtain ⟨k, rfl⟩ : ∃ m, k = m + 1 := ⟨k - 1, by omega⟩
    exact ⟨by rw [yaml_DeriveSeqIndentStyle.l0, if_neg (by omega)], by rw [spec_KySeqStyle.l0, if_neg (by omega)]⟩
  | succ d ih =>
    intro i h1 h2
    have hi : i < ls.length := by omega
    have hg := rdOf_get ByteArray.empty ls i hi
    have hs := hx _ (List.getElem_mem hi)
    generalize ls[i] = s at hg hs
    obtain ⟨r0, hr0⟩ := ih (i + 1) (by omega) (by omega)
    clear ih
    rw [Nat.mul_add, Nat.mul_one]
    generalize 500 * d = D at hr0 ⊢
    have hw := fun _ : Unit => w64_eq (n := (i : Int) + 1) (m := ((i + 1 : Nat) : Int)) (by omega) (by omega) (by omega)
    have hw1 := fun _ : Unit => w64 (n := (i : Int) - 1) (by omega) (by omega)
    have e2 : (⟨#[45, 32]⟩ : ByteArray).size = 2 := rfl
    obtain ⟨q, hq, hqc⟩ := idx_any si_ky s (⟨#[45, 32]⟩ : ByteArray) (by omega) (by omega) (s.size + 1) 2000 0 (by omega) (by omega) (by omega)
    have hix : ∀ k, 2000 ≤ k → spec_kyIndex.f k s (⟨#[45, 32]⟩ : ByteArray) = some q := fun k hk => leo_le (f := fun k => spec_kyIndex.f k s (⟨#[45, 32]⟩ : ByteArray)) (fun k => spec_kyIndex.mono _ _ k) hq hk
    have hiy : ∀ k, 2000 ≤ k → yaml_zzIndex.f k s (⟨#[45, 32]⟩ : ByteArray) = some q := fun k hk => (si_index k s _ 0).trans (hix k hk)
    rcases hqc with ⟨rfl, _⟩ | ⟨j, rfl, _, hj, _⟩
    · refine ⟨r0, fun k hk => ?_⟩
      obtain ⟨k, rfl⟩ : ∃ m, k = m + 3 := ⟨k - 3, by omega⟩
      constructor
      · conv => lhs; unfold yaml_DeriveSeqIndentStyle.l0
        unfold yaml_zzSplitTwo.f
        rw [if_pos (by omega), if_pos (by omega), if_pos (by omega), hg, hiy _ (by omega), Option.bind_some, if_neg (by omega), Option.bind_some, if_neg (by simp), hw ()]
        exact (hr0 _ (by omega)).1
      · conv => lhs; unfold spec_KySeqStyle.l0
        rw [if_pos (by omega), if_pos (by omega), if_pos (by omega), hg, hix _ (by omega), Option.bind_some, if_pos (by omega)]
        conv => lhs; unfold spec_KySeqStyle.j1
        rw [if_pos rfl, hw ()]
        exact (hr0 _ (by omega)).2
    · have hto : ((j : Int)).toNat = j := by omega
      have hjz : (s.extract 0 j).size = j := by simp [ByteArray.size_extract]; omega
      have htwo : ∀ k, 2000 ≤ k → yaml_zzSplitTwo.f k s (⟨#[45, 32]⟩ : ByteArray) = some [s.extract 0 j, s.extract (j + 2) s.size] := by
        intro k hk
        unfold yaml_zzSplitTwo.f
        rw [hiy k hk, Option.bind_some, if_pos (by omega), if_pos (by omega), if_pos (by omega), w64_eq (n := (j : Int) + ((⟨#[45, 32]⟩ : ByteArray).size : Int)) (m := ((j + 2 : Nat) : Int)) (by omega) (by omega) (by omega), if_pos (by omega), if_pos (by omega), hto, show (((j + 2 : Nat) : Int)).toNat = j + 2 by omega]
      generalize hrest : s.extract (j + 2) s.size = rest at htwo
      generalize hfirst : s.extract 0 j = first at htwo hjz
      have hrd : rdOf ByteArray.empty [first, rest] 0 = first := rfl
      have hln : (([first, rest] : List ByteArray).length : Int) = 2 := rfl
      by_cases c1 : (trim first).toList = ([] : List UInt8)
      · obtain ⟨key, hkz, hkey⟩ := key_line ls hx (by omega) i (by omega)
        have hky : ∀ k, 4000 < k → yaml_keyLineBeforeSeqElem.f k ls (i : Int) = some key ∧ spec_KyKeyLine.f k ls (i : Int) = some key := by
          intro k hk
          unfold yaml_keyLineBeforeSeqElem.f spec_KyKeyLine.f
          rw [hw1 ()]
          exact hkey k (by omega)
        have hts : (trim key).size ≤ 400 := Nat.le_trans (trim_size key) hkz
        have hts' := fun _ : Unit => hts
        clear hts
        have himpl : ∀ k, 4000 < k → yaml_DeriveSeqIndentStyle.l0 (k + 1) ls ls (ls.length : Int) (i : Int) = if key.toList = ([] : List UInt8) then (yaml_DeriveSeqIndentStyle.l0 k ls ls (ls.length : Int) ((i + 1 : Nat) : Int)) else yaml_DeriveSeqIndentStyle.j1 k ls (j : Int) (lead key : Int) ls (ls.length : Int) (i : Int) (!(colon (trim key))) := by
          intro k hk
          conv => lhs; unfold yaml_DeriveSeqIndentStyle.l0
          rw [if_pos (by omega), if_pos (by omega), if_pos (by omega), hg, htwo _ (by omega), Option.bind_some, hln, if_pos rfl, if_pos (by omega), hrd, zz_trim first (by omega) k (by omega), Option.bind_some, if_pos c1, (hky k (by omega)).1, Option.bind_some, hw (), hjz]
          congr 1
          unfold yaml_zzTrimLeft.f
          rw [if_pos (show (⟨#[32]⟩ : ByteArray) = sp from rfl), Option.bind_some, zz_trim key (by omega) k (by omega), Option.bind_some]
          have hcz : (key.extract (lead key) key.size).size = key.size - lead key := by simp [ByteArray.size_extract]
          have hle := lead_le key
          rw [hcz, w64_eq (n := (key.size : Int) - ((key.size - lead key : Nat) : Int)) (m := (lead key : Int)) (by omega) (by omega) (by omega)]
          exact colon_impl (trim key) (hts' ()) k (by omega) (fun b => yaml_DeriveSeqIndentStyle.j1 k ls (j : Int) (lead key : Int) ls (ls.length : Int) (i : Int) b)
        have hspec : ∀ k, 4000 < k → spec_KySeqStyle.l0 (k + 2) ls ls (ls.length : Int) (i : Int) = spec_KySeqStyle.j2 k ls (j : Int) key ls (ls.length : Int) (i : Int) (!(colon (trim key))) := by
          intro k hk
          conv => lhs; unfold spec_KySeqStyle.l0
          rw [if_pos (by omega), if_pos (by omega), if_pos (by omega), hg, hix _ (by omega), Option.bind_some, if_neg (by omega), if_pos (by omega), if_pos (by omega), hto, hfirst, ky_trim first (by omega) (k + 1) (by omega), Option.bind_some, c1]
          conv => lhs; unfold spec_KySeqStyle.j1
          rw [if_neg (by decide), (hky k (by omega)).2, Option.bind_some, ky_trim key (by omega) k (by omega), Option.bind_some]
          exact colon_spec (trim key) (hts' ()) k (by omega) (fun b => spec_KySeqStyle.j2 k ls (j : Int) key ls (ls.length : Int) (i : Int) b)
        by_cases c2 : colon (trim key) = true
        · have hne : (trim key).size ≠ 0 := fun h => by rw [colon_nil _ h] at c2; cases c2
          have hlt := lead_lt_of_trim key hne
          clear hne
          have hkn : ¬ key.toList = ([] : List UInt8) := fun h => by rw [tl_nil] at h; omega
          have himpl2 : ∀ k, 4000 < k → yaml_DeriveSeqIndentStyle.l0 (k + 2) ls ls (ls.length : Int) (i : Int) = (if (j : Int) = (lead key : Int) then (some (⟨#[99, 111, 109, 112, 97, 99, 116]⟩ : ByteArray)) else (if (j : Int) - (lead key : Int) = 2 then (some (⟨#[119, 105, 100, 101]⟩ : ByteArray)) else (yaml_DeriveSeqIndentStyle.l0 k ls ls (ls.length : Int) ((i + 1 : Nat) : Int)))) := by
            intro k hk
            rw [himpl (k + 1) (by omega), if_neg hkn, c2]
            conv => lhs; unfold yaml_DeriveSeqIndentStyle.j1
            rw [if_neg (by decide), hw (), w64 (n := (j : Int) - (lead key : Int)) (by omega) (by omega)]
          have hspec2 : ∀ k, 4000 < k → spec_KySeqStyle.l0 (k + lead key + 4) ls ls (ls.length : Int) (i : Int) = (if (j : Int) - (lead key : Int) = 0 then (some (⟨#[99, 111, 109, 112, 97, 99, 116]⟩ : ByteArray)) else (if (j : Int) - (lead key : Int) = 2 then (some (⟨#[119, 105, 100, 101]⟩ : ByteArray)) else (spec_KySeqStyle.l0 k ls ls (ls.length : Int) ((i + 1 : Nat) : Int)))) := by
            intro k hk
            rw [hspec (k + lead key + 2) (by omega), c2]
            conv => lhs; unfold spec_KySeqStyle.j2
            rw [if_neg (by decide)]
            have h := spec_ahead ls ls (j : Int) (ls.length : Int) (i : Int) key hkz hlt (lead key) 0 (k + lead key + 1) (by omega) (by omega) (by omega)
            rw [w64 (n := (j : Int) - (lead key : Int)) (by omega) (by omega), hw (), show k + lead key + 1 - lead key - 1 = k by omega] at h
            exact h
          by_cases c3 : (j : Int) = (lead key : Int)
          · refine ⟨(⟨#[99, 111, 109, 112, 97, 99, 116]⟩ : ByteArray), fun k hk => ⟨?_, ?_⟩⟩
            · rw [show k = (k - 2) + 2 by omega, himpl2 _ (by omega), if_pos c3]
            · rw [show k = (k - lead key - 4) + lead key + 4 by omega, hspec2 _ (by omega), if_pos (by omega)]
          · by_cases c4 : (j : Int) - (lead key : Int) = 2
            · refine ⟨(⟨#[119, 105, 100, 101]⟩ : ByteArray), fun k hk => ⟨?_, ?_⟩⟩
              · rw [show k = (k - 2) + 2 by omega, himpl2 _ (by omega), if_neg c3, if_pos c4]
              · rw [show k = (k - lead key - 4) + lead key + 4 by omega, hspec2 _ (by omega), if_neg (by omega), if_pos c4]
            · refine ⟨r0, fun k hk => ⟨?_, ?_⟩⟩
              · rw [show k = (k - 2) + 2 by omega, himpl2 _ (by omega), if_neg c3, if_neg c4]
                exact (hr0 _ (by omega)).1
              · rw [show k = (k - lead key - 4) + lead key + 4 by omega, hspec2 _ (by omega), if_neg (by omega), if_neg c4]
                exact (hr0 _ (by omega)).2
        · have c2' : colon (trim key) = false := by simpa using c2
          refine ⟨r0, fun k hk => ?_⟩
          obtain ⟨k, rfl⟩ : ∃ m, k = m + 4 := ⟨k - 4, by omega⟩
          constructor
          · rw [himpl (k + 3) (by omega), c2']
            split
            · exact (hr0 _ (by omega)).1
            · conv => lhs; unfold yaml_DeriveSeqIndentStyle.j1
              rw [if_pos (show (!false) = true from rfl), hw ()]
              exact (hr0 _ (by omega)).1
          · rw [hspec (k + 2) (by omega), c2']
            conv => lhs; unfold spec_KySeqStyle.j2
            rw [if_pos (show (!false) = true from rfl), hw ()]
            exact (hr0 _ (by omega)).2
      · refine ⟨r0, fun k hk => ?_⟩
        obtain ⟨k, rfl⟩ : ∃ m, k = m + 4 := ⟨k - 4, by omega⟩
        constructor
        · conv => lhs; unfold yaml_DeriveSeqIndentStyle.l0
          rw [if_pos (by omega), if_pos (by omega), if_pos (by omega), hg, htwo _ (by omega), Option.bind_some, hln, if_pos rfl, if_pos (by omega), hrd, zz_trim first (by omega) _ (by omega), Option.bind_some, if_neg c1, hw ()]
          exact (hr0 _ (by omega)).1
        · conv => lhs; unfold spec_KySeqStyle.l0
          have c1' : ((trim first).toList != ([] : List UInt8)) = true := by simpa using c1
          rw [if_pos (by omega), if_pos (by omega), if_pos (by omega), hg, hix _ (by omega), Option.bind_some, if_neg (by omega), if_pos (by omega), if_pos (by omega), hto, hfirst, ky_trim first (by omega) _ (by omega), Option.bind_some, c1']
          conv => lhs; unfold spec_KySeqStyle.j1
          rw [if_pos rfl, hw ()]
          exact (hr0 _ (by omega)).2

theorem FnSeqIndentStyle : laws_FnSeqIndentStyle.Pure := by
  intro a ha
  by_cases c1 : (a.size : Int) > 2147483647
  · exact ⟨1, by unfold laws_FnSeqIndentStyle.f; rw [if_pos c1]⟩
  have hmn : 0 ≤ mn (a.size : Int) 400 ∧ mn (a.size : Int) 400 ≤ (a.size : Int) ∧ mn (a.size : Int) 400 ≤ 400 := by unfold mn; split <;> omega
  generalize hc : a.extract 0 ((mn (a.size : Int) 400)).toNat = t
  have ht : t.size ≤ 400 := by rw [← hc]; simp [ByteArray.size_extract]; omega
  obtain ⟨ls, h1, h2⟩ := split_one si_ky si_sp (⟨#[10]⟩ : ByteArray) 10 rfl t.size 3000 t [] (by omega) (by omega) (by simp; omega) (by omega)
  rw [List.map_nil, List.nil_append] at h2
  have hlen := splitL_length 10 (L t)
  rw [← h2, List.length_map, L_length] at hlen
  have hx : ∀ x ∈ ls, x.size ≤ 400 := by
    intro x hx
    have := splitL_mem_length 10 (L t) (L x) (by rw [← h2]; exact List.mem_map_of_mem hx)
    rw [L_length, L_length] at this
    omega
  obtain ⟨r, hr⟩ := rounds ls hx (by omega) ls.length 0 (by omega) (by omega)
  have hsp : ∀ k, 3000 ≤ k → spec_kySplit.f k t (⟨#[10]⟩ : ByteArray) = some ls := fun k hk => leo_le (f := fun k => spec_kySplit.f k t (⟨#[10]⟩ : ByteArray)) (fun k => spec_kySplit.mono _ _ k) h1 hk
  have hzz : ∀ k, 3000 ≤ k → yaml_zzSplit.f k t (⟨#[10]⟩ : ByteArray) = some ls := by
    intro k hk
    unfold yaml_zzSplit.f
    rw [if_neg (by decide), si_split]
    exact hsp k hk
  have hfix : impl_SeqIndentStyle.f 100 (⟨#[97, 58, 10, 32, 32, 45, 32, 98, 10]⟩ : ByteArray) = some (⟨#[119, 105, 100, 101]⟩ : ByteArray) := by kernel_rfl
  refine ⟨1000000, ?_⟩
  unfold laws_FnSeqIndentStyle.f
  rw [if_neg c1, if_pos hmn.1, if_pos hmn.2.1, hc]
  have hi : impl_SeqIndentStyle.f 1000000 t = some r := by
    unfold impl_SeqIndentStyle.f yaml_DeriveSeqIndentStyle.f
    rw [hzz _ (by omega), Option.bind_some, show ((0 : Int)) = ((0 : Nat) : Int) from rfl, (hr _ (by omega)).1]
    rfl
  have hs : spec_KySeqStyle.f 1000000 t = some r := by
    unfold spec_KySeqStyle.f
    rw [hsp _ (by omega), Option.bind_some, show ((0 : Int)) = ((0 : Nat) : Int) from rfl, (hr _ (by omega)).2]
  rw [hi, Option.bind_some, hs, Option.bind_some, if_pos rfl, leo_le (f := fun k => impl_SeqIndentStyle.f k (⟨#[97, 58, 10, 32, 32, 45, 32, 98, 10]⟩ : ByteArray)) (fun k => impl_SeqIndentStyle.mono _ k) hfix (by omega)]
  rw [Option.bind_some, toList_L]
  rfl
end Go.Proofs.Ytcficphbjicneaa.Pure

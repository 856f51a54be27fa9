import Derived.Test.YtdomnigegpigiaaLL
import Derived.Test.YtdomnigegpigiaaV7
import Derived.Test.YtdomnigegpigiaaV8
namespace Go.Proofs.YtdomnigegpigiaaV
open Go.RowKit
def lastB (l : List ByteArray) (k : ByteArray) : Nat → Option Nat
  | 0 => none
  | i + 1 => if l[i]? = some k then some i else lastB l k i
theorem lastB_lt (l : List ByteArray) (k : ByteArray) : ∀ n i, lastB l k n = some i → i < n
  | n + 1, i, h => by
    unfold lastB at h
    split at h
    · simp only [Option.some.injEq] at h; omega
    · have := lastB_lt l k n i h; omega
def mapF (l : List ByteArray) (i : Nat) : ByteArray → Option Value := fun k => (lastB l k i).map fun j => .int .i64 j
theorem less_irrefl : ∀ x : List UInt8, Op.bytesLess x x = false
  | [] => rfl
  | a :: x => by simp [Op.bytesLess, less_irrefl x]
def kless (l : List ByteArray) (a b : ByteArray) : Bool :=
  match lastB l a l.length, lastB l b l.length with
  | none, none => Op.bytesLess a.toList b.toList
  | none, some _ => false
  | some _, none => true
  | some i, some j => decide (i < j)
set_option maxHeartbeats 1000000 in
theorem kind35 (A : View) (p q : Value) (a b : ByteArray) (v : Value) (l : List ByteArray) (h : Texts A v l) (hl : l.length ≤ 1000) :
    VCalls Try.prog 35 #[p, q, .string a, .string b, v] A fun r A' => r = .bool (kless l a b) ∧ A ≤ A' := by
  refine xcalls Try.func35 rfl (by simp [Try.ntmps35]) ?_
  obtain ⟨b1, c1, e1⟩ := h.slice
  simp [go_sem, Try.f35, e1, xlen, xnew]
  intro m hm
  refine vloopK (fun k e ds A' => ∃ i : Nat, k + i = l.length ∧ ds = [] ∧ e 2 = .string a ∧ e 3 = .string b ∧ e 11 = .map (some m) ∧ e 21 = v ∧ e 22 = .int .i64 l.length ∧ e 23 = .int .i64 i ∧ A ≤ A' ∧ Map A' m (mapF l i)) l.length
    ⟨0, by simp, rfl, by simp [go_sem], by simp [go_sem], by simp [go_sem], by simp [go_sem, e1], by simp [go_sem], by simp [go_sem], le_set hm, Map.new⟩ ?_
  rintro k e ds A1 ⟨i, hk, rfl, g2, g3, g11, g21, g22, g23, hA1, hmap⟩ J X hJ hX
  refine xc_sound _ ?_
  by_cases hi : i < l.length
  · have hwi := wrap_nat (i := i) (by omega)
    obtain ⟨a1, cap, f1, g1⟩ := h.at' hi
    have g1' := le_cell hA1 g1
    obtain ⟨o, ho1, ho2⟩ := Map.update (P := Try.prog) (t := 47) (s := l[i]) (v := .int .i64 i) hmap (by simp [strMap, ti47, ti9])
    simp [go_sem, g11, g21, g22, g23, xbin, eqPlain, hi, f1, xindexAt, vload, g1', ho1, hwi]
    refine hJ (k - 1) _ _ _ (by omega) ⟨i + 1, by omega, rfl, by simp [go_sem, g2], by simp [go_sem, g3], by simp [go_sem, g11], by simp [go_sem, g21, f1], by simp [go_sem, g22], by simp [go_sem], le_set' hA1 hm, ?_⟩
    have : (fun k => if k = l[i] then some (Value.int .i64 (i : Int)) else mapF l i k) = mapF l (i + 1) := by
      funext k
      unfold mapF
      rw [lastB]
      by_cases hkk : k = l[i]
      · subst hkk
        simp [hi]
      · have : ¬ l[i]? = some k := by simp [hi]; exact fun h => hkk h.symm
        simp [hkk, this]
    rw [← this]
    exact ho2
  · have hi' : i = l.length := by omega
    subst hi'
    simp [go_sem, g22, g23, xbin, eqPlain]
    refine hX _ _ _ _ ?_
    have la := Map.lookup (P := Try.prog) (t := 47) (s := a) (z := .int .i64 0) hmap ti47 ti9 rfl true
    have lb := Map.lookup (P := Try.prog) (t := 47) (s := b) (z := .int .i64 0) hmap ti47 ti9 rfl true
    cases ha : lastB l a l.length with
    | none =>
      cases hb : lastB l b l.length with
      | none =>
        have hkl : kless l a b = Op.bytesLess a.toList b.toList := by unfold kless; rw [ha, hb]
        simp [mapF, ha] at la
        simp [mapF, hb] at lb
        by_cases hab : a = b
        · subst hab
          simp [go_sem, g2, g3, g11, la, lb, xunop, gval, xbin, eqPlain, hkl, less_irrefl]
          exact hA1
        · have hab' : (!a.toList == b.toList) = true := by rw [bs_bne]; simpa using hab
          simp [go_sem, g2, g3, g11, la, lb, xunop, gval, xbin, eqPlain, hkl, hab']
          exact hA1
      | some j =>
        have hkl : kless l a b = false := by unfold kless; rw [ha, hb]
        simp [mapF, ha] at la
        simp [mapF, hb] at lb
        simp [go_sem, g2, g3, g11, la, lb, xunop, gval, xbin, eqPlain, hkl]
        exact hA1
    | some i =>
      cases hb : lastB l b l.length with
      | none =>
        have hkl : kless l a b = true := by unfold kless; rw [ha, hb]
        simp [mapF, ha] at la
        simp [mapF, hb] at lb
        simp [go_sem, g2, g3, g11, la, lb, xunop, gval, xbin, eqPlain, hkl]
        exact hA1
      | some j =>
        have hkl : kless l a b = decide (i < j) := by unfold kless; rw [ha, hb]
        simp [mapF, ha] at la
        simp [mapF, hb] at lb
        simp [go_sem, g2, g3, g11, la, lb, xunop, gval, xbin, eqPlain, hkl]
        exact hA1
set_option maxHeartbeats 1000000 in
theorem kind30 (A : View) (a b : ByteArray) (v : Value) (l : List ByteArray) (h : Texts A v l) (hl : l.length ≤ 1000) :
    VCalls Try.prog 30 #[.string a, .string b, v] A fun r A' => r = .bool (kless l a b) ∧ A ≤ A' := by
  refine xcalls Try.func30 rfl (by simp [Try.ntmps30]) ?_
  simp [go_sem, Try.f30]
  refine (kind35 A _ _ a b v l h hl).mono ?_
  rintro _ A' ⟨rfl, h1⟩
  exact ⟨rfl, h1⟩
set_option maxHeartbeats 1000000 in
theorem kind20 (A : View) (a b : ByteArray) (v : Value) (l : List ByteArray) (h : Texts A v l) (hl : l.length ≤ 1000) :
    VCalls Try.prog 20 #[.string a, .string b, v] A fun r A' => r = .bool (kless l a b) ∧ A ≤ A' := by
  refine xcalls Try.func20 rfl (by simp [Try.ntmps20]) ?_
  simp [go_sem, Try.f20]
  refine (kind30 A a b v l h hl).mono ?_
  rintro _ A' ⟨rfl, h1⟩
  exact ⟨rfl, h1⟩
def posOf (l : List ByteArray) (k : ByteArray) : Nat := (lastB l k l.length).getD l.length
set_option maxHeartbeats 1000000 in
theorem at19 (A : View) (k : ByteArray) (p : Addr) (v : Value) (l : List ByteArray) (hp : A.cell? p = some v) (h : Texts A v l) (hl : l.length ≤ 1000) :
    VCalls Try.prog 19 #[.string k, .pointer (some p)] A fun r A' => r = .int .i64 (posOf l k) ∧ A' = A := by
  refine xcalls Try.func19 rfl (by simp [Try.ntmps19]) ?_
  obtain ⟨b1, c1, e1⟩ := h.slice
  subst e1
  have hw0 : IntKind.i64.wrap ((l.length : Int) - 1) = (l.length : Int) - 1 := wrap_in (by omega) (by omega)
  simp [go_sem, Try.f19, vload, hp, xlen, xbin, eqPlain, hw0]
  refine vloopK (fun kk e ds A' => kk ≤ l.length ∧ ds = [] ∧ A' = A ∧ e 0 = .string k ∧ e 1 = .pointer (some p) ∧ e 4 = .int .i64 ((kk : Int) - 1) ∧ lastB l k kk = lastB l k l.length) l.length
    ⟨Nat.le_refl _, rfl, rfl, by simp [go_sem], by simp [go_sem], by simp [go_sem], rfl⟩ ?_
  rintro i e ds A' ⟨hi, rfl, rfl, g0, g1, g4, hlast⟩ J X hJ hX
  refine xc_sound _ ?_
  cases i with
  | zero =>
    simp [go_sem, g4, xbin, eqPlain]
    refine hX _ _ _ _ ?_
    have : posOf l k = l.length := by unfold posOf; rw [← hlast]; rfl
    simp [go_sem, g1, vload, hp, xlen, this]
  | succ i =>
    have hi1 : i < l.length := by omega
    obtain ⟨a, cap, f1, c2⟩ := h.at' hi1
    simp only [Value.slice.injEq] at f1
    obtain ⟨rfl, _, rfl⟩ := f1
    have e4 : e 4 = .int .i64 (i : Int) := by rw [g4]; congr 1; omega
    have hw1 : IntKind.i64.wrap ((i : Int) - 1) = (i : Int) - 1 := wrap_in (by omega) (by omega)
    by_cases hq : l[i] = k
    · have : posOf l k = i := by unfold posOf; rw [← hlast, lastB]; simp [hi1, hq]
      simp [go_sem, e4, g0, g1, xbin, eqPlain, vload, hp, xindexAt, hi1, c2, hq, bs_beq]
      refine hX _ _ _ _ ?_
      simp [go_sem, this]
    · simp [go_sem, e4, g0, g1, xbin, eqPlain, vload, hp, xindexAt, hi1, c2, hq, bs_beq, hw1]
      refine hJ i _ _ _ (by omega) ⟨by omega, rfl, rfl, by simp [go_sem, g0], by simp [go_sem, g1], by simp [go_sem], ?_⟩
      rw [← hlast, lastB]
      simp [hi1, hq]
end Go.Proofs.YtdomnigegpigiaaV

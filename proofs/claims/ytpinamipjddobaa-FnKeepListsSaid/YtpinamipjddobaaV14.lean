/- The logic of views: []rune(s) of ASCII, make of a slice. -/
import Derived.Test.YtpinamipjddobaaV12
import Derived.Laws.RangeString
namespace Go.Proofs.YtpinamipjddobaaV
open Go.RowKit
set_option linter.unusedSimpArgs false
set_option linter.unusedVariables false
def rv (b : UInt8) : Value := .int .i32 (b.toNat : Int)
theorem runesFrom_ascii {S : ByteArray} (h : ∀ i (hi : i < S.size), S[i].toNat < 128) : ∀ (bound i : Nat) (acc : Array Value), i ≤ S.size → S.size ≤ i + bound → Conv.runesFrom S bound i acc = acc ++ ((S.data.toList.drop i).map rv).toArray := by
  intro bound
  have hlen : S.data.toList.length = S.size := by rw [Array.length_toList]; rfl
  induction bound with
  | zero =>
    intro i acc h1 h2
    rw [List.drop_of_length_le (by omega)]
    simp [Conv.runesFrom]
  | succ bound ih =>
    intro i acc h1 h2
    rw [Conv.runesFrom]
    by_cases hi : i < S.size
    · rw [if_pos hi, decode_ascii S i hi (h i hi)]
      simp only
      rw [ih (i + 1) _ (by omega) (by omega)]
      rw [List.drop_eq_getElem_cons (by omega : i < S.data.toList.length)]
      simp only [List.map_cons]
      apply Array.ext'
      simp only [Array.toList_append, Array.toList_push, List.append_assoc, List.singleton_append]
      rfl
    · rw [if_neg hi, List.drop_of_length_le (by omega)]
      simp
def runeCells (S : ByteArray) (cap : Nat) : Array Value := (S.data.map rv) ++ Array.replicate (cap - S.size) (.int .i32 0)
theorem runeCells_size {S : ByteArray} {cap : Nat} (h : S.size ≤ cap) : (runeCells S cap).size = cap := by
  have : S.data.size = S.size := rfl
  simp [runeCells]; omega
section
variable {P : Program} {n : Nat} {K : VQ} {e : Env} {ds : List Deferred} {A : View} {d : Option Tmp} {ty : TypeId} {p : String} {af : Array Edge} {g : Option (Nat × Bool)}
/-- []rune(s) of ASCII. -/
theorem xs2r {s t el : TypeId} {x : Operand} {S : ByteArray} (hs : P.underlying s = some .string) (ht : P.underlying t = some (.slice el)) (he : P.underlying el = some (.int .i32)) (hS : ∀ i (hi : i < S.size), S[i].toNat < 128)
    (hx : ev n e x = .string S) (h : ∀ b, A b = none → ∀ cap, S.size ≤ cap → K (putE e d (.slice (some ⟨b, 0, none⟩) S.size cap)) ds (A.set b (.cells (runeCells S cap) el (0, 0)))) :
    vop P n ⟨d, .convert s t x, ty, p, af, g⟩ (dn K) e ds A := by
  have hrf : Conv.runesFrom S S.size 0 #[] = S.data.map rv := by
    rw [runesFrom_ascii hS S.size 0 #[] (Nat.zero_le _) (by omega)]
    apply Array.ext'
    simp
  have hz : (S.data.map rv).size = S.size := by rw [Array.size_map]; rfl
  unfold vop
  simp only [execOp, vp_bind, hx]
  unfold convert
  rw [vp_bind]
  refine vp_underlying hs _ ?_
  rw [vp_bind]
  refine vp_underlying ht _ ?_
  simp only [vp_bind]
  refine vp_underlying he _ ?_
  simp only [Conv.stringToRunes, vp_bind, hrf, hz]
  show ∀ tp : Nat, _
  intro tp
  simp only [newRow, vp_bind, Question.cut, vp_pure]
  refine vp_newObj fun b hb => ?_
  have hcap : S.size ≤ S.size + tp % (2 ^ 63 - S.size) := Nat.le_add_right _ _
  have h0 := h b hb _ hcap
  generalize S.size + tp % (2 ^ 63 - S.size) = cap at hcap h0 ⊢
  exact ⟨_, View.le_refl _, h0⟩
/-- make of a slice whose elements are one cell. -/
theorem too_large {b m : Nat} (h : b * m ≤ 140737488355328) : decide ((b : Int) * (m : Int) > 2 ^ 48) = false := by
  have hb2 : ((b * m : Nat) : Int) ≤ ((140737488355328 : Nat) : Int) := Int.ofNat_le.2 h
  rw [Int.natCast_mul] at hb2
  have e : (2 : Int) ^ 48 = 281474976710656 := by decide
  rw [e]
  simp only [decide_eq_false_iff_not]
  omega
set_option maxRecDepth 4000 in
theorem xmks {t el : TypeId} {l c : Operand} {m : Nat} {bytes : Nat} {ek : TK} {z : Value} (ht : P.underlying t = some (.slice el)) (hel : tinfo P el = some ⟨ek, 1, bytes, some z⟩) (hz : z.cells.size = 1) (hl : ev n e l = .int .i64 m) (hc : ev n e c = .int .i64 m) (hm0 : 0 < m) (hm : m < 9223372036854775807) (hb : bytes * m ≤ 140737488355328)
    (h : ∀ b, A b = none → K (putE e d (.slice (some ⟨b, 0, none⟩) m m)) ds (A.set b (.cells (Array.replicate m (z.cells[0]'(by omega))) el (0, 0)))) :
    vop P n ⟨d, .makeSlice t l c, ty, p, af, g⟩ (dn K) e ds A := by
  have hw : IntKind.i64.wrap (m : Int) = (m : Int) := wrap_in (by omega) (by omega)
  unfold vop
  simp only [execOp, vp_bind, hl, hc]
  unfold Instr.makeSlice
  simp only [vp_bind]
  refine vp_underlying ht _ ?_
  simp only [asInt, vp_bind, vp_pure]
  refine vp_typeInfo hel _ fun i h1 h2 h3 => ?_
  simp only at h1 h2 h3
  simp only [hw, h2]
  have htl := too_large (b := bytes) (m := m) hb
  have hlt : decide ((m : Int) < 0) = false := by simp
  have hgt : decide ((m : Int) > (m : Int)) = false := by simp
  simp only [htl, hlt, hgt, Bool.or_false, Bool.false_eq_true, if_false]
  rw [vp_bind]
  refine vp_askRoom ?_
  rw [vp_bind]
  refine vp_sizeOf hel _ ?_
  simp only [Int.toNat_natCast, Nat.mul_one]
  rw [if_neg (by omega)]
  rw [vp_bind]
  refine vp_zeroValue hel rfl _ ?_
  simp only [vp_bind, vp_pure, newRow, hz]
  refine vp_newObj fun b hb' => ?_
  have hc2 : Array.map (fun x => z.cells[x % 1]!) (Array.range m) = Array.replicate m (z.cells[0]'(by omega)) := by
    apply Array.ext
    · simp
    · intro i h1 h2
      simp only [Array.getElem_map, Array.getElem_replicate, Nat.mod_one]
      exact getElem!_pos _ _ _
  rw [hc2]
  exact ⟨_, View.le_refl _, h b hb'⟩
end
end Go.Proofs.YtpinamipjddobaaV

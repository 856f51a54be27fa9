/- Trees: plain ones. -/
import Derived.Test.YtpinamipjddobaaKB
namespace Go.Proofs.YtpinamipjddobaaV
open Go.RowKit
set_option linter.unusedSimpArgs false
set_option linter.unusedVariables false
def e0 : ByteArray := ⟨#[]⟩
def tNull : ByteArray := ⟨#[33, 33, 110, 117, 108, 108]⟩
def vNull : ByteArray := ⟨#[110, 117, 108, 108]⟩
def tStr : ByteArray := ⟨#[33, 33, 115, 116, 114]⟩
def tInt : ByteArray := ⟨#[33, 33, 105, 110, 116]⟩
def tSeq : ByteArray := ⟨#[33, 33, 115, 101, 113]⟩
def tMap : ByteArray := ⟨#[33, 33, 109, 97, 112]⟩
/-- How many nodes a tree has; how deep it is. -/
def nds : Tr → Nat
  | .mk _ _ _ _ _ _ _ _ _ _ _ kids => 1 + (kids.attach.map fun x => nds x.1).sum
termination_by v => SizeOf.sizeOf v
decreasing_by
  have := List.sizeOf_lt_of_mem x.2
  simp
  omega
theorem nds_mk (k st : Int) (tag val an h l f : ByteArray) (row col al : Int) (kids : List Tr) : nds (.mk k st tag val an h l f row col al kids) = 1 + (kids.map nds).sum := by
  rw [nds]
  congr 2
  exact List.attach_map_val (l := kids) (f := nds)
/-- A plain tree of at most so many levels. -/
def PL : Nat → Tr → Prop
  | lv, .mk k st tag val an h l f row col al kids => 0 < lv ∧ (an = e0 ∧ h = e0 ∧ l = e0 ∧ f = e0 ∧ st = 0 ∧ al = -1) ∧
      ((k = 8 ∧ kids = [] ∧ ((tag = tNull ∧ val = vNull) ∨ (tag = tStr ∧ Wd val) ∨ (tag = tInt ∧ Dg val))) ∨
       (k = 2 ∧ tag = tSeq ∧ val = e0) ∨
       (k = 4 ∧ tag = tMap ∧ val = e0 ∧ kids.length % 2 = 0 ∧ (∀ i (hi : i < kids.length), i % 2 = 0 → kids[i].tag = tStr) ∧
         ∀ i j (hi : i < kids.length) (hj : j < i), i % 2 = 0 → j % 2 = 0 → (kids[j]'(by omega)).value ≠ kids[i].value)) ∧
      ∀ j (hj : j < kids.length), PL (lv - 1) (kids[j])
termination_by _ v => SizeOf.sizeOf v
decreasing_by
  have := List.sizeOf_lt_of_mem (List.getElem_mem hj)
  simp
  omega
/-- A tree of such a shape, whatever its texts. -/
def PT : Nat → Tr → Prop
  | lv, .mk k st tag val an h l f row col al kids => 0 < lv ∧ (st % 64 = st ∧ al = -1) ∧ (k = 8 ∨ k = 2 ∨ k = 4) ∧ ∀ j (hj : j < kids.length), PT (lv - 1) (kids[j])
termination_by _ v => SizeOf.sizeOf v
decreasing_by
  have := List.sizeOf_lt_of_mem (List.getElem_mem hj)
  simp
  omega
theorem PL.pt : ∀ {lv : Nat} {t : Tr}, PL lv t → PT lv t
  | lv, .mk k st tag val an h l f row col al kids, e => by
    rw [PL] at e
    obtain ⟨h1, ⟨-, -, -, -, h2, h3⟩, h4, h5⟩ := e
    rw [PT]
    refine ⟨h1, ⟨by rw [h2]; rfl, h3⟩, ?_, fun j hj => PL.pt (h5 j hj)⟩
    rcases h4 with h | h | h
    · exact .inl h.1
    · exact .inr (.inl h.1)
    · exact .inr (.inr h.1)
termination_by _ v => SizeOf.sizeOf v
decreasing_by
  have := List.sizeOf_lt_of_mem (List.getElem_mem hj)
  simp
  omega
/-- What mgPlain leaves. -/
def Gp (t : Tr) (lv : Nat) (n : Int) (m : Nat) (A : View) (r : Value) (A' : View) : Prop :=
  ∃ D n' b, r = .bool b ∧ A ≤ D ∧ D m = none ∧ A' = D.set m (.cells #[.int .i64 n'] 3) ∧ (b = true → PL lv t ∧ n' + nds t = n ∧ 0 ≤ n')
theorem Gp.leaf {t : Tr} {lv : Nat} {n n' : Int} {m q : Nat} {A D : View} {o : Obj} {b : Bool} (hP : Priv D [q, m]) (hAD : A ≤ D) (h : b = true → PL lv t ∧ n' + nds t = n ∧ 0 ≤ n') :
    Gp t lv n m A (.bool b) (ov D [(q, o), (m, .cells #[.int .i64 n'] 3 (0, 0))]) := by
  have hqm : q ≠ m := fun hx => hP.2.1 (by rw [hx]; simp)
  have hDm : D m = none := hP.2.2.1
  refine ⟨D.set q o, n', b, rfl, View.le_trans hAD (le_set hP.1), by rw [set_other (fun hx => hqm hx.symm)]; exact hDm, ?_, h⟩
  show (D.set m _).set q o = (D.set q o).set m _
  rw [set_comm (fun hx => hqm hx.symm)]
theorem Gp.leaf2 {t : Tr} {lv : Nat} {n n' : Int} {m q q' : Nat} {A D : View} {o o' : Obj} {b : Bool} (hP : Priv D [q', q, m]) (hAD : A ≤ D) (h : b = true → PL lv t ∧ n' + nds t = n ∧ 0 ≤ n') :
    Gp t lv n m A (.bool b) (ov D [(q', o'), (q, o), (m, .cells #[.int .i64 n'] 3 (0, 0))]) := by
  refine sink_goal (Q := fun V => Gp t lv n m A (.bool b) V) 0 hP rfl fun hPn lq nq => ?_
  exact Gp.leaf hPn (View.le_trans hAD lq) h
end Go.Proofs.YtpinamipjddobaaV

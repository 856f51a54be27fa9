/- Trees: FieldSetter of a field that is there. -/
import Derived.Test.YtpinamipjddobaaHC
namespace Go.Proofs.YtpinamipjddobaaV
open Go.RowKit
set_option linter.unusedSimpArgs false
set_option linter.unusedVariables false
/-- A tree whose topmost node is copied elsewhere. -/
def moved (G : View) (pv qj : Nat) (c : Array Value) : View := fun b => if b = qj then some (.cells c 114 (0, 0)) else if b = pv then none else G b
theorem moved_at (G : View) (pv qj : Nat) (c : Array Value) : moved G pv qj c qj = some (.cells c 114 (0, 0)) := if_pos rfl
theorem moved_other {G : View} {pv qj b : Nat} {c : Array Value} (h1 : b ≠ qj) (h2 : b ≠ pv) : moved G pv qj c b = G b := by
  unfold moved
  rw [if_neg h1, if_neg h2]
theorem HY.move {G : View} {k' st' : Int} {tag' val' an' h' l' f' : ByteArray} {row' col' al' : Int} {kk : List Tr} {pv qj : Nat} {cvv : Value} (s : Int) (e : HY G (.mk k' st' tag' val' an' h' l' f' row' col' al' kk) pv) (hpv : G pv = some (.cells (ync k' st' tag' val' an' cvv h' l' f' row' col') 114 (0, 0))) (hq : G qj = none) :
    HY (moved G pv qj (ync k' s tag' val' an' cvv h' l' f' row' col')) (.mk k' s tag' val' an' h' l' f' row' col' al' kk) qj := by
  obtain ⟨cv, ps, Hs, h1, h2, h3, h4, h5, h6, h7⟩ := e.open
  have hcv : cv = cvv := by
    rw [h1] at hpv
    simp only [Option.some.injEq, Obj.cells.injEq, Array.mk.injEq, List.cons.injEq] at hpv
    simp_all
  subst hcv
  have hb : ∀ b, blockOf cv = some b → b ≠ qj ∧ b ≠ pv := fun b hb => by
    obtain ⟨g1, o, g2⟩ := own_some h2 hb
    exact ⟨fun hx => (by rw [hx, hq] at g2; cases g2), fun hx => h3 (by rw [← hx]; exact hb)⟩
  rw [HY]
  refine ⟨cv, ps, Hs, moved_at _ _ _ _, own_rebase (own_move (D' := eraseB G cv) h2 fun b o e1 e2 e3 => ⟨e1, ?_⟩), fun hx => (hb _ hx).1 rfl, h4, fun j => ⟨?_, none_le (View.le_trans (h5 j).1 (eraseB_le _ _)) hq⟩, h6, h7⟩
  · rw [moved_other (hb _ e2).1 (hb _ e2).2]
    exact e3
  · refine le_eraseB ?_ fun b hx => none_le (h5 j).1 (own_some h2 hx).1
    intro b o ho
    have g1 : b ≠ pv := fun hx => by rw [hx, (h5 j).2] at ho; cases ho
    have g2 := View.le_trans (h5 j).1 (eraseB_le _ _) _ _ ho
    rw [moved_other (fun hx => by rw [hx, hq] at g2; cases g2) g1]
    exact g2
/-- A kid in whose place another tree is copied. -/
theorem HY.repl {F A A5 H G : View} {k st : Int} {tag val an h l f : ByteArray} {row col al : Int} {kids : List Tr} {p j pv qj : Nat} {k' st' : Int} {tag' val' an' h' l' f' : ByteArray} {row' col' al' : Int} {kk : List Tr} {cvv : Value} (s : Int) {Gj : View}
    (hclo : ∀ (A' G' : View) (x : Tr), vsub H Gj ≤ A' → G' ≤ A' → Apt G' (vsub H Gj) → HY G' x qj → HY A' (.mk k st tag val an h l f row col al (kids.set j x)) p) (hGj : Gj qj ≠ none) (hGH0 : Gj ≤ H)
    (hG : HY G (.mk k' st' tag' val' an' h' l' f' row' col' al' kk) pv) (hpv : G pv = some (.cells (ync k' st' tag' val' an' cvv h' l' f' row' col') 114 (0, 0)))
    (hHA : H ≤ A) (hGA : G ≤ A) (hFA : F ≤ A) (hHF : Apt H F) (hGF : Apt G F) (hGH : Apt G H)
    (h5 : A5 qj = some (.cells (ync k' s tag' val' an' cvv h' l' f' row' col') 114 (0, 0))) (h6 : ∀ b o, b ≠ qj → b ≠ pv → A b = some o → A5 b = some o) :
    F ≤ A5 ∧ ∃ H', H' ≤ A5 ∧ Apt H' F ∧ HY H' (.mk k st tag val an h l f row col al (kids.set j (.mk k' s tag' val' an' h' l' f' row' col' al' kk))) p ∧ IsYn A5 (.mk k' s tag' val' an' h' l' f' row' col' al' kk) qj := by
  have nq : H qj ≠ none := fun hx => hGj (none_le hGH0 hx)
  have nv : G pv ≠ none := hG.ne
  have gq : G qj = none := by
    rcases hGH qj with g | g
    · exact g
    · exact absurd g nq
  have hp : H pv = none := by
    rcases hGH pv with g | g
    · exact absurd g nv
    · exact g
  have fq : F qj = none := by
    rcases hHF qj with g | g
    · exact absurd g nq
    · exact g
  have fp : F pv = none := by
    rcases hGF pv with g | g
    · exact absurd g nv
    · exact g
  have hFA5 : F ≤ A5 := fun b o hb => h6 b o (fun hx => by rw [hx, fq] at hb; cases hb) (fun hx => by rw [hx, fp] at hb; cases hb) (hFA _ _ hb)
  have hm := hG.move s hpv gq
  have hmA : moved G pv qj (ync k' s tag' val' an' cvv h' l' f' row' col') ≤ A5 := fun b o hb => by
    by_cases e1 : b = qj
    · subst e1
      rw [moved_at] at hb
      rw [h5, hb]
    · by_cases e2 : b = pv
      · subst e2
        unfold moved at hb
        rw [if_neg e1, if_pos rfl] at hb
        cases hb
      · rw [moved_other e1 e2] at hb
        exact h6 b o e1 e2 (hGA _ _ hb)
  have hHj : vsub H Gj ≤ A5 := fun b o hb => by
    obtain ⟨g1, g2⟩ := vsub_some hb
    exact h6 b o (fun hx => hGj (by rw [← hx]; exact g1)) (fun hx => by rw [hx, hp] at g2; cases g2) (hHA _ _ g2)
  have hmF : Apt (moved G pv qj (ync k' s tag' val' an' cvv h' l' f' row' col')) F := fun b => by
    by_cases e1 : b = qj
    · exact .inr (by rw [e1]; exact fq)
    · by_cases e2 : b = pv
      · exact .inr (by rw [e2]; exact fp)
      · rw [moved_other e1 e2]
        exact hGF b
  have hmH : Apt (moved G pv qj (ync k' s tag' val' an' cvv h' l' f' row' col')) (vsub H Gj) := fun b => by
    by_cases e1 : b = qj
    · exact .inr (by rw [e1]; exact vsub_none hGj)
    · by_cases e2 : b = pv
      · exact .inr (by rw [e2]; exact none_le (vsub_le _ _) hp)
      · rw [moved_other e1 e2]
        exact (hGH b).imp id (none_le (vsub_le _ _))
  refine ⟨hFA5, vsub A5 F, vsub_le _ _, apt_vsub _ _, hclo _ _ _ (le_vsub hHj (hHF.le (vsub_le _ _) (View.le_refl _))) (le_vsub hmA hmF) hmH hm, IsYn.le hmA _ _ hm.yn⟩
end Go.Proofs.YtpinamipjddobaaV

/- impl.IdOf: what it tells of a text that does not panic, by the printed contract of resid.FromString; nothing recovered. -/
import Derived.Test.YtcficphbjicneaaPFnIdBackx0
import Derived.Test.YtcficphbjicneaaPFromStringx1
import Derived.Defers
import Derived.Recover
import Derived.Laws.Pointers
namespace Go.Proofs.Ytcficphbjicneaa.PFnIdBack
open Go.RowKit Go.Proofs.YtcficphbjicneaaW.PrintWords Go.Proofs.YtcficphbjicneaaW.PrintLast Go.Proofs.YtcficphbjicneaaW.PrintMore

theorem caught_idle (p q : Addr) (w : World) :
    CallsD Try.prog 23 #[.pointer (some p), .pointer (some q)] .returning w fun e u' w' => e = .returned (.tuple #[]) ∧ u' = .returning ∧ w' = w := by
  refine callsD_of_wpS Try.func23 rfl fun c₀ cs hu => ?_
  apply wpS_seq
  apply wpS_region
  simp [wpOpsS, go_sem, recoverD, hu, Try.ntmps23, Exit.thenS]
  refine wpS_cond (t := false) (by simp [Act.eval, Array.replicate]) ?_
  simp only [Bool.false_eq_true, if_false]
  refine wpS_of_wp (wp_skip ?_)
  cases c₀
  simp_all [bodyPostS, results, Try.results23]

theorem bcell {W w1 : World} (hb : Below W.heap.size W w1) : (∀ b o, b < W.heap.size → w1.cell? ⟨b, o, none⟩ = W.cell? ⟨b, o, none⟩) ∧ (∀ b o, b < W.heap.size → w1.frozen? ⟨b, o, none⟩ = W.frozen? ⟨b, o, none⟩) :=
  ⟨fun b o h => hb.cell (p := ⟨b, o, none⟩) h, fun b o h => hb.frozen (p := ⟨b, o, none⟩) h⟩

def impl_IdOf.f (k : Nat) (a0 : ByteArray) : Option (ByteArray × ByteArray × ByteArray × ByteArray × ByteArray × Int) := (PFromString.resid_FromString.f k a0).bind fun r => some (r.1, r.2.1, r.2.2.1, r.2.2.2.2.1, r.2.2.2.2.2, 0)
theorem impl_IdOf.mono : ∀ a0 k, LeO (impl_IdOf.f k a0) (impl_IdOf.f (k + 1) a0) := by
  intro a0 k
  unfold impl_IdOf.f
  exact LeO.bind (PFromString.resid_FromString.mono _ _) fun _ => LeO.refl _

set_option maxHeartbeats 2000000 in
theorem impl_IdOf.calls (k : Nat) (a0 : ByteArray) (r1 r2 r3 r4 r5 : ByteArray) (r6 : Int) (w : World) (h : impl_IdOf.f k a0 = some (r1, r2, r3, r4, r5, r6)) :
    Calls Try.prog 12 #[.string a0] w fun e w' => e = .returned (.tuple #[.agg #[.string r1, .string r2, .string r3, .string r4, .string r5], .int .i64 r6]) ∧ Below w.heap.size w w' := by
  unfold impl_IdOf.f at h
  obtain ⟨⟨q1, q2, q3, q4, q5, q6⟩, hq, h⟩ := Option.bind_eq_some_iff.1 h
  simp only [Option.some.injEq, Prod.mk.injEq] at h
  obtain ⟨rfl, rfl, rfl, rfl, rfl, rfl⟩ := h
  have H := Aside0.mk hq
  clear hq
  have hmf : ∀ (fn : Fn) (first cap : Array Value) (w : World), (Instr.makeFunc fn first cap).run Try.prog w = .ok (.func fn first cap) w := fun _ _ _ _ => rfl
  go_enter_defers Try.func12, Try.ntmps12
  go_wp2_with fail
  refine (PFromString.resid_FromString.calls k _ _ _ _ _ _ _ _ H.out).mono ?_
  rintro e w1 ⟨rfl, hb⟩
  obtain ⟨hc, hf⟩ := bcell hb
  have hz : w.heap.size + 1 < w1.heap.size := by have := hb.size; simp at this; omega
  have c0 : w1.cell? ⟨w.heap.size, 0, none⟩ = some (.string ⟨#[]⟩) := (hc _ _ (by simp; omega)).trans (by go_simp)
  have c1 : w1.cell? ⟨w.heap.size, 1, none⟩ = some (.string ⟨#[]⟩) := (hc _ _ (by simp; omega)).trans (by go_simp)
  have c2 : w1.cell? ⟨w.heap.size, 2, none⟩ = some (.string ⟨#[]⟩) := (hc _ _ (by simp; omega)).trans (by go_simp)
  have c3 : w1.cell? ⟨w.heap.size, 3, none⟩ = some (.string ⟨#[]⟩) := (hc _ _ (by simp; omega)).trans (by go_simp)
  have c4 : w1.cell? ⟨w.heap.size, 4, none⟩ = some (.string ⟨#[]⟩) := (hc _ _ (by simp; omega)).trans (by go_simp)
  have c5 : w1.cell? ⟨w.heap.size + 1, 0, none⟩ = some (.int .i64 0) := (hc _ _ (by simp)).trans (by go_simp)
  have f0 : ∀ o, w1.frozen? ⟨w.heap.size, o, none⟩ = false := fun o => (hf _ _ (by simp; omega)).trans (by go_simp)
  have f5 : w1.frozen? ⟨w.heap.size + 1, 0, none⟩ = false := (hf _ _ (by simp)).trans (by go_simp)
  have hz0 : w.heap.size < w1.heap.size := by omega
  have hz1 : ¬ w.heap.size = w1.heap.size := by omega
  have hz2 : ¬ w.heap.size + 1 = w1.heap.size := by omega
  have f00 := f0 0
  have f01 := f0 1
  have f02 := f0 2
  have f03 := f0 3
  have f04 := f0 4
  have HB : Aside0 (Below w.heap.size w w1) := ⟨(((Below.refl w.heap.size w).alloc (Nat.le_refl _) _).alloc (by simp) _).trans (hb.mono (by simp; omega))⟩
  clear hb hc hf
  go_wp2_with fail
  refine leaves_cons (f := 23) (args := #[.pointer (some ⟨w.heap.size, 0, none⟩), .pointer (some ⟨w.heap.size + 1, 0, none⟩)]) (by simp) (by simp [go_sem]) ?_
  refine (caught_idle _ _ _).mono ?_
  rintro e u' w'' ⟨rfl, rfl, rfl⟩
  have hB := ((((((HB.out.setCell (p := ⟨w.heap.size, 0, none⟩) (Nat.le_refl _) (.string q1)).setCell (p := ⟨w.heap.size, 1, none⟩) (Nat.le_refl _) (.string q2)).setCell (p := ⟨w.heap.size, 2, none⟩) (Nat.le_refl _) (.string q3)).setCell (p := ⟨w.heap.size, 3, none⟩) (Nat.le_refl _) (.string q5)).setCell (p := ⟨w.heap.size, 4, none⟩) (Nat.le_refl _) (.string q6)).setCell (p := ⟨w.heap.size + 1, 0, none⟩) (Nat.le_succ _) (.int .i64 0))
  have hB2 := hB.alloc hB.size (Obj.cells #[Value.string q1, Value.string q2, Value.string q3, Value.bool q4, Value.string q5, Value.string q6] 50)
  have d5 : (((((((w1.setCell ⟨w.heap.size, 0, none⟩ (.string q1)).setCell ⟨w.heap.size, 1, none⟩ (.string q2)).setCell ⟨w.heap.size, 2, none⟩ (.string q3)).setCell ⟨w.heap.size, 3, none⟩ (.string q5)).setCell ⟨w.heap.size, 4, none⟩ (.string q6)).setCell ⟨w.heap.size + 1, 0, none⟩ (.int .i64 0)).alloc (.cells #[Value.string q1, Value.string q2, Value.string q3, Value.bool q4, Value.string q5, Value.string q6] 50)).cell? ⟨w.heap.size + 1, 0, none⟩ = some (.int .i64 0) := by
    rw [World.cell?_alloc_past _ _ _ (by simp; omega)]
    refine World.cell?_setCell_same (u := .int .i64 0) _ _ _ ?_
    have ne : ∀ o, (⟨w.heap.size, o, none⟩ : Addr) ≠ ⟨w.heap.size + 1, 0, none⟩ := fun o e => by injection e with e1; omega
    rw [World.cell?_setCell_other _ _ _ _ (ne _), World.cell?_setCell_other _ _ _ _ (ne _), World.cell?_setCell_other _ _ _ _ (ne _), World.cell?_setCell_other _ _ _ _ (ne _), World.cell?_setCell_other _ _ _ _ (ne _)]
    exact c5
  simp [Leaves, settle, results, Try.results12, go_sem, c0, c1, c2, c3, c4, hz0, d5]
  exact hB2

end Go.Proofs.Ytcficphbjicneaa.PFnIdBack

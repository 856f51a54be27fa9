/- Tables: FnTablesNone. -/
import Derived.Test.YtogfpbnbojhpoaaTX
import Derived.Test.YtogfpbnbojhpoaaTO
namespace Go.Proofs.YtogfpbnbojhpoaaV
open Go.RowKit
set_option linter.unusedSimpArgs false
set_option linter.unusedVariables false
theorem rz_nodes : nodes rz ≤ 300 := by
  unfold rz
  rw [nodes_mk]
  decide
theorem kinds_map {k : Int} {f : Nat} {keys : List ByteArray} {n m : Nat} (h : Kinds k f keys n) (hm : m = n) : Kinds k f keys m := by subst hm; exact h
theorem good_norm : ∀ (v : RV) (lv : Nat), Good v lv → Good (norm v) lv
  | .mk k b i f t keys list, lv, h => by
    rw [Good] at h
    obtain ⟨h0, h6, h7, hk, hs⟩ := h
    have hsub : ∀ j (h : j < (list.map norm).length), Good ((list.map norm)[j]) (lv - 1) := fun j hj => by
      rw [List.getElem_map]
      have hj' : j < list.length := by simpa using hj
      exact good_norm list[j] _ (hs j hj')
    rw [norm]
    have flat : ∀ (k b i f t), Kinds k f [] 0 → Good (.mk k b i f t [] []) lv := fun k b i f t hk => by
      rw [Good]
      exact ⟨h0, fun _ => rfl, fun _ => rfl, hk, fun j h => absurd h (Nat.not_lt_zero _)⟩
    rcases hk with rfl | rfl | rfl | rfl | ⟨rfl, hf⟩ | rfl | ⟨rfl, hr, hl⟩
    · exact flat _ _ _ _ _ (.inl rfl)
    · exact flat _ _ _ _ _ (.inr (.inl rfl))
    · exact flat _ _ _ _ _ (.inr (.inr (.inl rfl)))
    · exact flat _ _ _ _ _ (.inr (.inr (.inr (.inl rfl))))
    · exact flat _ _ _ _ _ (.inr (.inr (.inr (.inr (.inl ⟨rfl, hf⟩)))))
    · simp only [show ¬ (6 : Int) = 1 by decide, show ¬ (6 : Int) = 2 by decide, show ¬ (6 : Int) = 4 by decide, show ¬ (6 : Int) = 5 by decide, if_false, if_true]
      rw [Good]
      exact ⟨h0, fun h => absurd h (by decide), fun _ => rfl, .inr (.inr (.inr (.inr (.inr (.inl rfl))))), hsub⟩
    · simp only [show ¬ (7 : Int) = 1 by decide, show ¬ (7 : Int) = 2 by decide, show ¬ (7 : Int) = 4 by decide, show ¬ (7 : Int) = 5 by decide, show ¬ (7 : Int) = 6 by decide, if_false, if_true]
      rw [Good]
      exact ⟨h0, fun h => absurd h (by decide), fun h => absurd rfl h, .inr (.inr (.inr (.inr (.inr (.inr ⟨rfl, hr, by rw [List.length_map]; exact hl⟩))))), hsub⟩
termination_by v => SizeOf.sizeOf v
decreasing_by
  have := List.sizeOf_lt_of_mem (List.getElem_mem hj')
  simp
  omega
theorem norm_norm : ∀ (v : RV), norm (norm v) = norm v
  | .mk k b i f t keys list => by
    have hsub : (list.map norm).map norm = list.map norm := by
      rw [List.map_map]
      refine List.map_congr_left fun x hx => ?_
      exact norm_norm x
    rw [norm]
    split
    · rw [norm]; simp
    split
    · rw [norm]; simp
    split
    · rw [norm]; simp
    split
    · rw [norm]; simp
    split
    · rw [norm, hsub]; simp
    split
    · rw [norm, hsub]; simp
    · rw [norm]; simp
termination_by v => SizeOf.sizeOf v
decreasing_by
  have := List.sizeOf_lt_of_mem hx
  simp
  omega
theorem nodes_norm : ∀ (v : RV), nodes (norm v) ≤ nodes v
  | .mk k b i f t keys list => by
    have hsub : ((list.map norm).map nodes).sum ≤ (list.map nodes).sum := by
      rw [List.map_map]
      have : ∀ l : List RV, (∀ x ∈ l, nodes (norm x) ≤ nodes x) → (l.map (nodes ∘ norm)).sum ≤ (l.map nodes).sum := by
        intro l
        induction l with
        | nil => intro _; exact Nat.le_refl _
        | cons a l ih =>
          intro h
          have h1 := h a List.mem_cons_self
          have h2 := ih fun x hx => h x (List.mem_cons_of_mem _ hx)
          simp only [List.map_cons, List.sum_cons, Function.comp_apply]
          omega
      exact this list fun x hx => nodes_norm x
    rw [norm, nodes_mk]
    split
    · rw [nodes_mk]; simp
    split
    · rw [nodes_mk]; simp
    split
    · rw [nodes_mk]; simp
    split
    · rw [nodes_mk]; simp
    split
    · rw [nodes_mk]; omega
    split
    · rw [nodes_mk]; omega
    · rw [nodes_mk]; simp
termination_by v => SizeOf.sizeOf v
decreasing_by
  have := List.sizeOf_lt_of_mem hx
  simp
  omega
set_option maxRecDepth 20000 in
set_option maxHeartbeats 4000000 in
theorem none6 (A : View) (v : RV) (c : Array Value) (mg : Bool) (hc : IsRV A v c) : VCalls Try.prog 6 #[.agg c, .bool mg] A fun r A' => r = .bool true ∧ A ≤ A' := by
  refine xcalls Try.func6 rfl (by simp [Try.ntmps6]) ?_
  have hcz := hc.size
  simp only [Try.f6]
  refine xc_step fun C hC => ?_
  simp [go_sem, xnew, Value.cells]
  intro q hq
  subst hC
  have LA : A ≤ A.set q (.cells c 27) := le_set hq
  have hN := set_at A q (.cells c 27)
  have hc := hc.le LA
  generalize A.set q (.cells c 27) = B at LA hN hc
  clear hq
  have gq := cells_block hN hcz
  refine xc_step fun C hC => ?_
  simp [go_sem, vload, gq]
  refine (fits10 B v c hc).mono ?_
  rintro _ B1 ⟨⟨x, rfl⟩, L1⟩
  have LA := View.le_trans LA L1
  cases x with
  | false =>
    simp [go_sem, xunop]
    exact LA
  | true =>
  simp [go_sem, xunop]
  subst hC
  have hc := hc.le L1
  have hN := L1 _ _ hN
  clear L1
  have gq := cells_block hN hcz
  refine xc_step fun C hC => ?_
  simp [go_sem, vload, gq]
  refine (tbTable12 B1 v c hc).mono ?_
  rintro _ B2 ⟨⟨x, rfl, hx⟩, L1⟩
  have LA := View.le_trans LA L1
  cases x with
  | false =>
    simp [go_sem, xunop]
    exact LA
  | true =>
  simp [go_sem, xunop]
  subst hC
  have hT := hx rfl
  have hc := hc.le L1
  have hN := L1 _ _ hN
  clear L1 hx
  refine xc_step fun C hC => ?_
  simp [go_sem]
  subst hC
  obtain ⟨h7, hG, hn⟩ := hT
  have hz := rz_is B2
  refine xc_step fun C hC => ?_
  have main : ∀ (F : Nat) (e' : Env), (∀ (A : View) (v w u : RV) (c c' : Array Value) (hc : IsRV A v c) (hc' : IsRV A w c') (hG : Good v 50) (hG' : Good w 50) (hn : nodes v ≤ 300) (hn' : nodes w ≤ 300) (h : (kindOf v = 7 ∧ kindOf w = 0 ∧ u = v) ∨ (kindOf v = 0 ∧ kindOf w = 7 ∧ u = w)),
      VCalls Try.prog F #[.agg c, .agg c'] A fun r A' => ∃ c2, r = .tuple #[.agg c2, .int .i64 0] ∧ A ≤ A' ∧ IsRV A' (norm u) c2) →
      goodFn Try.prog F = true → e' 2 = .pointer (some ⟨q, 0, none⟩) → e' 5 = .func (.func F) #[] #[] → xc Try.prog 41 C (xend Try.prog 41 [ResultVar.tmp 4] fun r A' => r = .bool true ∧ A ≤ A') e' [] B2 := by
    intro F e' hJ hgF g2 g5
    subst hC
    have gq := cells_block hN hcz
    refine xc_step fun C hC => ?_
    simp [go_sem, g2, g5, hgF, vload, gq, xbuild, Instr.fill, Value.cells]
    refine (hJ B2 v rz v c zc hc hz hG rz_good hn rz_nodes (.inl ⟨h7, rfl, rfl⟩)).mono ?_
    rintro _ B3 ⟨c2, rfl, L3, hc2⟩
    have hN := L3 _ _ hN
    have hc := hc.le L3
    have LA := View.le_trans LA L3
    clear gq hz L3
    simp [go_sem, xnew, zeroOf, Value.cells, Instr.fill, zerosB]
    intro m6 hm6
    have hst : xstore Try.prog 27 (.pointer (some ⟨m6, 0, none⟩)) (.agg c2) (B3.set m6 (.cells zc 27)) = some (B3.set m6 (.cells c2 27 (0, 0))) := by
      rw [xstore_agg (c := zc) ti27 hc2.size (set_at B3 m6 _) (by rw [hc2.size]; rfl) hc2.one, set_set]
    rw [hst, onS_some]
    have L4 := le_set (o := .cells c2 27) hm6
    have hN := L4 _ _ hN
    have hM6 := set_at B3 m6 (.cells c2 27)
    have hc := hc.le L4
    have hc2 := hc2.le L4
    have LA := View.le_trans LA L4
    clear hst
    generalize B3.set m6 (.cells c2 27) = B4 at hN hM6 hc hc2 LA
    clear L4 hm6
    subst hC
    have gq := cells_block hN hcz
    refine xc_step fun C hC => ?_
    simp [go_sem, g2, g5, hgF, vload, gq, xbuild, Instr.fill, Value.cells]
    refine (hJ B4 rz v v zc c (rz_is B4) hc rz_good hG rz_nodes hn (.inr ⟨rfl, h7, rfl⟩)).mono ?_
    rintro _ B5 ⟨c3, rfl, L3, hc3⟩
    have hN := L3 _ _ hN
    have hM6 := L3 _ _ hM6
    have hc := hc.le L3
    have hc2 := hc2.le L3
    have LA := View.le_trans LA L3
    clear gq L3
    simp [go_sem, xnew, zeroOf, Value.cells, Instr.fill, zerosB]
    intro m8 hm8
    have hst : xstore Try.prog 27 (.pointer (some ⟨m8, 0, none⟩)) (.agg c3) (B5.set m8 (.cells zc 27)) = some (B5.set m8 (.cells c3 27 (0, 0))) := by
      rw [xstore_agg (c := zc) ti27 hc3.size (set_at B5 m8 _) (by rw [hc3.size]; rfl) hc3.one, set_set]
    rw [hst, onS_some]
    have L4 := le_set (o := .cells c3 27) hm8
    have hN := L4 _ _ hN
    have hM6 := L4 _ _ hM6
    have hM8 := set_at B5 m8 (.cells c3 27)
    have hc := hc.le L4
    have hc2 := hc2.le L4
    have hc3 := hc3.le L4
    have LA := View.le_trans LA L4
    clear hst
    generalize B5.set m8 (.cells c3 27) = B6 at hN hM6 hM8 hc hc2 hc3 LA
    clear L4 hm8
    subst hC
    have gq := cells_block hN hcz
    have g6 := cells_block hM6 hc2.size
    have g8 := cells_block hM8 hc3.size
    have hnn := nodes_norm v
    refine xc_step fun C hC => ?_
    simp [go_sem, g2, vload, gq, g6, gval, undef]
    refine (tbGot17 B6 (norm v) v c2 c 50 50 hc2 hc (good_norm v 50 hG) hG (norm_norm v) (by omega)).mono ?_
    rintro _ B7 ⟨rfl, L7⟩
    have gq := cells_block (L7 _ _ hN) hcz
    have g8 := cells_block (L7 _ _ hM8) hc3.size
    simp [go_sem, g2, vload, gq, g8, gval, undef]
    refine (tbGot17 B7 (norm v) v c3 c 50 50 (hc3.le L7) (hc.le L7) (good_norm v 50 hG) hG (norm_norm v) (by omega)).mono ?_
    rintro _ B8 ⟨rfl, L8⟩
    subst hC
    simp [go_sem]
    exact View.le_trans LA (View.le_trans L7 L8)
  clear hC
  cases mg with
  | false =>
    simp [go_sem]
    exact main 24 _ join24 (by simp [go_sem]) (by simp [go_sem]) (by simp [go_sem])
  | true =>
    simp [go_sem]
    exact main 16 _ join16 (by simp [go_sem]) (by simp [go_sem]) (by simp [go_sem])
theorem law6 (W : World) (c : Array Value) (v : RV) (o : IsRV (full W) v c) (mg : Bool) : VCalls Try.prog 6 #[.agg c, .bool mg] (full W) fun r A' => r = .bool true ∧ full W ≤ A' := none6 (full W) v c mg o
end Go.Proofs.YtogfpbnbojhpoaaV

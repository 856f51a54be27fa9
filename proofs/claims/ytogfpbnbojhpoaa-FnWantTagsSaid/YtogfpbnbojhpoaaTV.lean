/- Tables: what values of the packages become again: valueOf. -/
import Derived.Test.YtogfpbnbojhpoaaTD
namespace Go.Proofs.YtogfpbnbojhpoaaV
open Go.RowKit
set_option linter.unusedSimpArgs false
set_option linter.unusedVariables false
/-- A value without what its kind does not speak of. -/
def norm : RV → RV
  | .mk k b i f t keys list => if k = 1 then .mk 1 b 0 0 ⟨#[]⟩ [] [] else if k = 2 then .mk 2 false i 0 ⟨#[]⟩ [] [] else if k = 4 then .mk 4 false 0 f ⟨#[]⟩ [] [] else if k = 5 then .mk 5 false 0 0 t [] []
    else if k = 6 then .mk 6 false 0 0 ⟨#[]⟩ [] (list.map norm) else if k = 7 then .mk 7 false 0 0 ⟨#[]⟩ keys (list.map norm) else .mk 0 false 0 0 ⟨#[]⟩ [] []
abbrev nl : Value := .slice none 0 0
theorem isRV_flat (A : View) (k : Int) (b : Bool) (i : Int) (f : Nat) (t : ByteArray) : IsRV A (.mk k b i f t [] []) (rvc k b i f t nl nl) := by
  rw [IsRV]
  exact ⟨_, _, rfl, Or.inr ⟨rfl, rfl, rfl⟩, Nat.zero_le _, ⟨_, _, rfl⟩, fun j h => absurd h (Nat.not_lt_zero _)⟩
theorem keep_le {D B D2 B3 : View} (h : D ≤ B) (h1 : D ≤ D2) (h2 : D2 ≤ B3) (hk : ∀ k o, D k = none → B k = some o → D2 k = none ∧ B3 k = some o) : B ≤ B3 := by
  intro k o hB
  cases hD : D k with
  | none => exact (hk k o hD hB).2
  | some o' =>
    have := h _ _ hD
    rw [hB, Option.some.injEq] at this
    subst this
    exact h2 _ _ (h1 _ _ hD)
theorem td_left {vs cs : List Value} {i j : Nat} (h : vs.length = j * 7) (hi : i < j) : ((vs ++ cs).drop (i * 7)).take 7 = (vs.drop (i * 7)).take 7 := by
  rw [List.drop_append_of_le_length (by omega), List.take_append_of_le_length (by rw [List.length_drop]; omega)]
theorem td_right {vs cs : List Value} {j : Nat} (h : vs.length = j * 7) (hc : cs.length = 7) : ((vs ++ cs).drop (j * 7)).take 7 = cs := by
  rw [← h, List.drop_left, List.take_of_length_le (by omega)]
theorem cells_part {A : View} {b off N i : Nat} {vs : List Value} (h : A.cells? ⟨b, off, none⟩ 0 N = some vs) (hi : i * 7 + 7 ≤ N) : A.cells? ((Addr.mk b off none).add (i * 7)) 0 7 = some ((vs.drop (i * 7)).take 7) := by
  have hl := cells?_length _ _ _ h
  refine cells?_intro _ _ _ (by rw [List.length_take, List.length_drop]; omega) fun j hj => ?_
  have := cells?_get _ _ _ h (i * 7 + j) (by omega)
  rw [Nat.zero_add, addr_add] at this
  rw [addr_add, Nat.zero_add, addr_add, Nat.add_assoc, this, List.getElem?_take_of_lt hj, List.getElem?_drop]
theorem Own.shape {A0 A : View} {e : TypeId} {size n : Nat} {v : Value} {cs : List Value} (h : Own A0 A e size v n cs) : ∃ bs cp, v = .slice bs n cp := by
  rcases h.2 with ⟨rfl, rfl⟩ | ⟨a, cap, rfl, _⟩
  · exact ⟨_, _, rfl⟩
  · exact ⟨_, _, rfl⟩
theorem isRV_list {D B : View} {k : Int} {b : Bool} {i : Int} {f : Nat} {t : ByteArray} {keys : List ByteArray} {list : List RV} {ks u : Value} {vs : List Value} (hDB : D ≤ B) (hO : Own D B 27 7 u list.length vs) (hk : Texts B ks keys) (hkl : keys.length ≤ 9223372036854775807)
    (hvs : ∀ i (h : i < list.length), i < list.length → ∃ ci : Array Value, (vs.drop (i * 7)).take 7 = ci.toList ∧ IsRV D (norm list[i]) ci) : IsRV B (.mk k b i f t keys (list.map norm)) (rvc k b i f t ks u) := by
  rw [IsRV]
  obtain ⟨bs, cp, hu⟩ := hO.shape
  refine ⟨_, _, rfl, hk, hkl, ⟨bs, cp, by rw [List.length_map]; exact hu⟩, fun j hj => ?_⟩
  have hj' : j < list.length := by simpa using hj
  obtain ⟨ci, h1, h2⟩ := hvs j hj' hj'
  obtain ⟨hs, ⟨rfl, h0⟩ | ⟨a, cap, rfl, hn⟩⟩ := hO
  · omega
  · obtain ⟨c, _, hsp, _, _, hcs⟩ := sliceIn_block hs
    obtain ⟨blk, off, sp⟩ := a
    simp only at hsp
    subst hsp
    refine ⟨_, cap, ci, by rw [List.length_map], ?_, by rw [List.getElem_map]; exact h2.le hDB⟩
    rw [← h1]
    exact cells_part hcs (by omega)
theorem zip_distinct {keys : List ByteArray} {vals : List Value} (hr : Rising keys) : (keys.zip vals).Pairwise (fun a b => a.1 ≠ b.1) := by
  rw [List.pairwise_iff_getElem]
  intro i j hi hj hij
  have hj' : j < keys.length := by rw [List.length_zip] at hj; omega
  rw [List.getElem_zip, List.getElem_zip]
  exact rising_ne hr hj' hij
theorem MapP.look {A : View} {r : Nat} {kv : List (ByteArray × Value)} {s : ByteArray} {v : Value} (h : MapP A r kv) (hd : kv.Pairwise (fun a b => a.1 ≠ b.1)) (hm : (s, v) ∈ kv) : xlookup Try.prog 63 (.map (some r)) (.string s) false A = some v := by
  obtain ⟨es, c, h1, h2, h3⟩ := h.found hd hm
  simp [xlookup, ti63, ti9, ti20, mapAt, h1, h2, zeroOf, h3]
theorem zip_mem {keys : List ByteArray} {vals : List Value} {j : Nat} {y : Value} (hj : j < keys.length) (hy : vals[j]? = some y) : (keys[j], y) ∈ keys.zip vals := by
  have hv : j < vals.length := (List.getElem?_eq_some_iff.1 hy).1
  rw [List.mem_iff_getElem]
  refine ⟨j, by rw [List.length_zip]; omega, ?_⟩
  rw [List.getElem_zip]
  rw [List.getElem?_eq_getElem hv, Option.some.injEq] at hy
  rw [hy]
def P42 (v : RV) (A : View) (r : Value) (A' : View) : Prop := ∃ c, r = .agg c ∧ A ≤ A' ∧ IsRV A' (norm v) c
def A42 (v : RV) : Prop := ∀ (A : View) (x : Value) (lv : Nat), AnyV A v x → Good v lv → nodes v ≤ 1000000 → VCalls Try.prog 42 #[x] A fun r A' => P42 v A r A'
set_option maxRecDepth 20000 in
set_option maxHeartbeats 4000000 in
theorem value42_step (k : Int) (b : Bool) (i : Int) (f : Nat) (t : ByteArray) (keys : List ByteArray) (list : List RV) (ih : ∀ j (h : j < list.length), A42 list[j]) : A42 (.mk k b i f t keys list) := by
  intro A x lv hx hG hn
  refine xcalls Try.func42 rfl (by simp [Try.ntmps42]) ?_
  simp only [Try.f42]
  rw [AnyV] at hx
  refine xc_step fun C hC => ?_
  simp [go_sem, xnew, zeroOf, Value.cells, Instr.fill, zerosB]
  intro q hq
  subst hC
  have hQ := set_at A q (.cells (rvc 0 false 0 0 ⟨#[]⟩ nl nl) 27)
  have LA : A ≤ A.set q (.cells (rvc 0 false 0 0 ⟨#[]⟩ nl nl) 27) := le_set hq
  have dst : ∀ (B : View) (c0 c : Array Value), B q = some (.cells c0 27 (0, 0)) → c0.size = 7 → c.size = 7 → (∀ x ∈ c.toList, one x = true) → xstore Try.prog 27 (.pointer (some ⟨q, 0, none⟩)) (.agg c) B = some (B.set q (.cells c 27 (0, 0))) := fun B c0 c h1 h0 h2 h3 => xstore_agg ti27 h2 h1 (by rw [h0, h2]) h3
  have sc : ∀ (c : Array Value), IsRV A (norm (.mk k b i f t keys list)) c → P42 (.mk k b i f t keys list) A (.agg c) ((A.set q (.cells (rvc 0 false 0 0 ⟨#[]⟩ nl nl) 27)).set q (.cells c 27)) := fun c h => ⟨c, rfl, le_set' LA hq, h.le (le_set' LA hq)⟩
  generalize A.set q (.cells (rvc 0 false 0 0 ⟨#[]⟩ nl nl) 27) = B at hQ LA sc
  refine xc_step fun C hC => ?_
  rw [xc_seq]
  refine xc_step fun C2 hC2 => ?_
  simp [go_sem]
  subst hC2
  rw [xc_block]
  rcases hx with ⟨rfl, rfl⟩ | ⟨rfl, rfl⟩ | ⟨rfl, rfl⟩ | ⟨rfl, rfl⟩ | ⟨rfl, rfl⟩ | ⟨rfl, sl, vals, rfl, h1, h2, h3⟩ | ⟨rfl, r, vals, rfl, h1, h2, h3⟩
  · have st := dst B _ (rvc 0 false 0 0 ⟨#[]⟩ nl nl) hQ rfl rfl (by simp [one])
    have gq := cells_block (n := 7) (set_at B q (.cells (rvc 0 false 0 0 ⟨#[]⟩ nl nl) 27)) rfl
    refine xc_step fun C2 hC2 => ?_
    simp [go_sem, xassert, xbin, eqPlain]
    subst hC2
    refine xc_iftrue (by simp [go_sem]) ?_
    refine xc_step fun C2 hC2 => ?_
    simp [go_sem]
    subst hC2
    refine xc_step fun C2 hC2 => ?_
    simp [go_sem, xbuild, st]
    subst hC2
    simp [go_sem, vload, gq]
    exact sc _ (by rw [norm]; exact isRV_flat _ _ _ _ _ _)
  · have st := dst B _ (rvc 1 b 0 0 ⟨#[]⟩ nl nl) hQ rfl rfl (by simp [one])
    have gq := cells_block (n := 7) (set_at B q (.cells (rvc 1 b 0 0 ⟨#[]⟩ nl nl) 27)) rfl
    refine xc_step fun C2 hC2 => ?_
    simp [go_sem, xassert, xbin, eqPlain]
    subst hC2
    refine xc_iffalse (by simp [go_sem]) ?_
    refine xc_step fun C2 hC2 => ?_
    simp [go_sem, xassert, xbin, eqPlain]
    subst hC2
    refine xc_iftrue (by simp [go_sem]) ?_
    refine xc_step fun C2 hC2 => ?_
    simp [go_sem]
    subst hC2
    refine xc_step fun C2 hC2 => ?_
    simp [go_sem, xbuild, st]
    subst hC2
    simp [go_sem, vload, gq]
    exact sc _ (by rw [norm]; exact isRV_flat _ _ _ _ _ _)
  · have st := dst B _ (rvc 2 false i 0 ⟨#[]⟩ nl nl) hQ rfl rfl (by simp [one])
    have gq := cells_block (n := 7) (set_at B q (.cells (rvc 2 false i 0 ⟨#[]⟩ nl nl) 27)) rfl
    refine xc_step fun C2 hC2 => ?_
    simp [go_sem, xassert, xbin, eqPlain]
    subst hC2
    refine xc_iffalse (by simp [go_sem]) ?_
    refine xc_step fun C2 hC2 => ?_
    simp [go_sem, xassert, xbin, eqPlain]
    subst hC2
    refine xc_iffalse (by simp [go_sem]) ?_
    refine xc_step fun C2 hC2 => ?_
    simp [go_sem, xassert, xbin, eqPlain]
    subst hC2
    refine xc_iftrue (by simp [go_sem]) ?_
    refine xc_step fun C2 hC2 => ?_
    simp [go_sem]
    subst hC2
    refine xc_step fun C2 hC2 => ?_
    simp [go_sem, xbuild, st]
    subst hC2
    simp [go_sem, vload, gq]
    exact sc _ (by rw [norm]; exact isRV_flat _ _ _ _ _ _)
  · have st := dst B _ (rvc 4 false 0 f ⟨#[]⟩ nl nl) hQ rfl rfl (by simp [one])
    have gq := cells_block (n := 7) (set_at B q (.cells (rvc 4 false 0 f ⟨#[]⟩ nl nl) 27)) rfl
    refine xc_step fun C2 hC2 => ?_
    simp [go_sem, xassert, xbin, eqPlain]
    subst hC2
    refine xc_iffalse (by simp [go_sem]) ?_
    refine xc_step fun C2 hC2 => ?_
    simp [go_sem, xassert, xbin, eqPlain]
    subst hC2
    refine xc_iffalse (by simp [go_sem]) ?_
    refine xc_step fun C2 hC2 => ?_
    simp [go_sem, xassert, xbin, eqPlain]
    subst hC2
    refine xc_iffalse (by simp [go_sem]) ?_
    refine xc_step fun C2 hC2 => ?_
    simp [go_sem, xassert, xbin, eqPlain]
    subst hC2
    refine xc_iftrue (by simp [go_sem]) ?_
    refine xc_step fun C2 hC2 => ?_
    simp [go_sem]
    subst hC2
    refine xc_step fun C2 hC2 => ?_
    simp [go_sem, xbuild, st]
    subst hC2
    simp [go_sem, vload, gq]
    exact sc _ (by rw [norm]; exact isRV_flat _ _ _ _ _ _)
  · have st := dst B _ (rvc 5 false 0 0 t nl nl) hQ rfl rfl (by simp [one])
    have gq := cells_block (n := 7) (set_at B q (.cells (rvc 5 false 0 0 t nl nl) 27)) rfl
    refine xc_step fun C2 hC2 => ?_
    simp [go_sem, xassert, xbin, eqPlain]
    subst hC2
    refine xc_iffalse (by simp [go_sem]) ?_
    refine xc_step fun C2 hC2 => ?_
    simp [go_sem, xassert, xbin, eqPlain]
    subst hC2
    refine xc_iffalse (by simp [go_sem]) ?_
    refine xc_step fun C2 hC2 => ?_
    simp [go_sem, xassert, xbin, eqPlain]
    subst hC2
    refine xc_iffalse (by simp [go_sem]) ?_
    refine xc_step fun C2 hC2 => ?_
    simp [go_sem, xassert, xbin, eqPlain]
    subst hC2
    refine xc_iffalse (by simp [go_sem]) ?_
    refine xc_step fun C2 hC2 => ?_
    simp [go_sem, xassert, xbin, eqPlain]
    subst hC2
    refine xc_iftrue (by simp [go_sem]) ?_
    refine xc_step fun C2 hC2 => ?_
    simp [go_sem]
    subst hC2
    refine xc_step fun C2 hC2 => ?_
    simp [go_sem, xbuild, st]
    subst hC2
    simp [go_sem, vload, gq]
    exact sc _ (by rw [norm]; exact isRV_flat _ _ _ _ _ _)
  · refine xc_step fun C2 hC2 => ?_
    simp [go_sem, xassert, xbin, eqPlain]
    subst hC2
    refine xc_iffalse (by simp [go_sem]) ?_
    refine xc_step fun C2 hC2 => ?_
    simp [go_sem, xassert, xbin, eqPlain]
    subst hC2
    refine xc_iffalse (by simp [go_sem]) ?_
    refine xc_step fun C2 hC2 => ?_
    simp [go_sem, xassert, xbin, eqPlain]
    subst hC2
    refine xc_iffalse (by simp [go_sem]) ?_
    refine xc_step fun C2 hC2 => ?_
    simp [go_sem, xassert, xbin, eqPlain]
    subst hC2
    refine xc_iffalse (by simp [go_sem]) ?_
    refine xc_step fun C2 hC2 => ?_
    simp [go_sem, xassert, xbin, eqPlain]
    subst hC2
    refine xc_iffalse (by simp [go_sem]) ?_
    refine xc_step fun C2 hC2 => ?_
    simp [go_sem, xassert, xbin, eqPlain]
    subst hC2
    refine xc_iftrue (by simp [go_sem]) ?_
    refine xc_step fun C2 hC2 => ?_
    simp [go_sem]
    subst hC2
    refine xc_step fun C2 hC2 => ?_
    have st0 : ∀ m, xstore Try.prog 27 (.pointer (some ⟨m, 0, none⟩)) (.agg (rvc 6 false 0 0 ⟨#[]⟩ nl nl)) (B.set m (.cells (rvc 0 false 0 0 ⟨#[]⟩ nl nl) 27)) = some (B.set m (.cells (rvc 6 false 0 0 ⟨#[]⟩ nl nl) 27 (0, 0))) := fun m => by
      rw [xstore_agg (vs := rvc 6 false 0 0 ⟨#[]⟩ nl nl) (c := rvc 0 false 0 0 ⟨#[]⟩ nl nl) ti27 rfl (set_at B m _) rfl (by simp [one]), set_set]
    simp [go_sem, xbuild, xnew, zeroOf, Value.cells, Instr.fill, zerosB]
    intro m hm
    rw [st0 m, onS_some]
    clear st0
    have hM := set_at B m (.cells (rvc 6 false 0 0 ⟨#[]⟩ nl nl) 27)
    have dqm : q ≠ m := ne_of_none hQ hm
    have hQ2 : (B.set m (.cells (rvc 6 false 0 0 ⟨#[]⟩ nl nl) 27)) q = some (.cells (rvc 0 false 0 0 ⟨#[]⟩ nl nl) 27 (0, 0)) := by rw [set_other dqm]; exact hQ
    have LB := View.le_trans LA (le_set (o := .cells (rvc 6 false 0 0 ⟨#[]⟩ nl nl) 27) hm)
    have hAm : A m = none := none_le LA hm
    generalize B.set m (.cells (rvc 6 false 0 0 ⟨#[]⟩ nl nl) 27) = B1 at hM hQ2 LB
    clear hQ LA sc hm
    subst hC2
    rw [nodes_mk] at hn
    have hG2 := hG
    rw [Good] at hG2
    obtain ⟨hlv, -, -, -, hGs⟩ := hG2
    refine xc_step fun C2 hC2 => ?_
    have hsl : ∃ bs cp, sl = .slice bs list.length cp := by
      rcases h1 with ⟨a, cap, rfl, _⟩ | ⟨rfl, h, _⟩
      · exact ⟨_, _, rfl⟩
      · exact ⟨_, _, by rw [h]⟩
    obtain ⟨bs, cp, rfl⟩ := hsl
    simp [go_sem, xlen]
    refine vloopK (fun k' e ds A' => ∃ (j : Nat) (D : View) (u : Value) (vs : List Value), k' = list.length - j ∧ j ≤ list.length ∧ ds = [] ∧ e 2 = .pointer (some ⟨q, 0, none⟩) ∧ e 9 = .pointer (some ⟨m, 0, none⟩) ∧ e 45 = .slice bs list.length cp ∧ e 46 = .int .i64 list.length ∧ e 47 = .int .i64 j ∧
        A ≤ D ∧ D ≤ A' ∧ D m = none ∧ D q = none ∧ A' m = some (.cells (rvc 6 false 0 0 ⟨#[]⟩ nl u) 27 (0, 0)) ∧ A' q = some (.cells (rvc 0 false 0 0 ⟨#[]⟩ nl nl) 27 (0, 0)) ∧ Own D A' 27 7 u j vs ∧ (∃ bu cu, u = .slice bu j cu) ∧ blockOf u ≠ some m ∧ blockOf u ≠ some q ∧
        ∀ i (h : i < list.length), i < j → ∃ ci : Array Value, (vs.drop (i * 7)).take 7 = ci.toList ∧ IsRV D (norm list[i]) ci) list.length
      ⟨0, A, nl, [], by omega, by omega, rfl, by simp [go_sem], by simp [go_sem], by simp [go_sem], by simp [go_sem], by simp [go_sem], View.le_refl _, LB, hAm, hq, hM, hQ2, Own.nil _ _ _ _, ⟨_, _, rfl⟩, by simp [blockOf], by simp [blockOf], fun i h hi => by omega⟩ ?_
    clear hM hQ2 LB
    rintro k' e ds B ⟨j, D, u, vs, rfl, hjl, rfl, g2, g9, g45, g46, g47, hAD, hDB, hDm, hDq, hM, hQ, hO, ⟨bu, cu, hu⟩, hum, huq, hvs⟩ J X hJ hX
    refine xc_sound _ ?_
    by_cases hj : j < list.length
    · obtain ⟨y, hy, hyV⟩ := h3 j hj
      obtain ⟨a, cap, f1, _, u1⟩ := h1.at1 hy
      simp only [Value.slice.injEq] at f1
      obtain ⟨rfl, -, rfl⟩ := f1
      have u1 := le_cell (View.le_trans hAD hDB) u1
      have hSj : nodes list[j] ≤ 1000000 := by
        have h4 := S_mono list (j + 1) list.length hj
        have h5 := S_succ list j hj
        rw [S_all] at h4
        omega
      have hw := wrap_nat (i := j) (by have := S_ge list j (by omega); have := S_mono list j list.length (by omega); rw [S_all] at this; omega)
      refine xc_step fun C3 hC3 => ?_
      simp [go_sem, g46, g47, xbin, eqPlain, hj]
      subst hC3
      refine xc_step fun C3 hC3 => ?_
      simp [go_sem]
      subst hC3
      refine xc_step fun C3 hC3 => ?_
      rw [xc_seq, xc_block]
      refine xc_step fun C4 hC4 => ?_
      simp [go_sem, g45, g47, xindexAt, hj, vload, u1]
      subst hC4
      have c6 := cell_of hM (i := 6) rfl
      first | rw [xc_seq, xc_draws] | rw [xc_draws]
      refine vdrawK [(0, true), (1, true), (2, true), (3, true), (4, true), (5, false), (6, false), (7, false)] B mixed (by kernel_rfl) (View.le_refl _) fun K hK => ?_
      simp only [rslv_cons, rslv_nil, List.getElem?_toArray, List.getElem?_cons_zero, List.getElem?_cons_succ, gres]
      simp [go_sem, g9, xfieldAt, vload, c6]
      refine (calls_base (ih j hj D y _ (hyV.le hAD) (hGs j hj) hSj) hDB).mono ?_
      rintro _ B3 ⟨D2, ⟨cj, rfl, hDD, hcj⟩, hDB3, hkeep⟩
      have hBB := keep_le hDB hDD hDB3 hkeep
      refine ⟨hBB, ?_⟩
      obtain ⟨k1, b1, i1, f1, t1, ks1, bs1, n1, cp1, hcs1, -⟩ := hcj.shape
      have hcz := hcj.size
      have hco := hcj.one
      have hD2m := (hkeep m _ hDm hM).1
      have hD2q := (hkeep q _ hDq hQ).1
      have hO3 : Own D2 B3 27 7 u j vs := own_move hO fun k o g1 _ g3 => hkeep k o g1 g3
      have hM3 := hBB _ _ hM
      have hQ3 := hBB _ _ hQ
      clear hkeep
      subst hcs1
      simp [go_sem, xnew, Value.cells, Instr.fill, zerosB]
      intro b3 hb3
      have hmb := ne_of_none hM3 hb3
      have hqb := ne_of_none hQ3 hb3
      have hb96 : (j + 1) * 96 ≤ 140737488355328 := by
        have h6 := S_ge list j (by omega)
        have h7 := S_mono list j list.length (by omega)
        rw [S_all] at h7
        exact Nat.le_trans (Nat.mul_le_mul_right 96 (show j + 1 ≤ 1000001 by omega)) (by decide)
      refine xappend_own ti25 ti25 (fun k => by simp) ti27 rfl (by decide) (hO3.le (le_set hb3)) (View.le_trans hDB3 (le_set hb3)) (appended_row (size := 7) (n := 1) (.inl ⟨_, _, rfl, cells_block (n := 7) (set_at B3 b3 _) hcz⟩)) (by simp [isStr]) hco hb96 fun v' A4 h1' h2' h3' => ?_
      have hM4 := eraseB_some (h3' m _ ((eraseB_apart hum).trans ((set_other hmb).trans hM3)))
      have hQ4 := eraseB_some (h3' q _ ((eraseB_apart huq).trans ((set_other hqb).trans hQ3)))
      obtain ⟨bu', cu', hv'⟩ := h2'.shape
      have st := xstore_field (i := 6) (u := v') ti25 hM4.2 (by simp) (by rw [hv']; rfl)
      rw [show (#[Value.int IntKind.i64 6, .bool false, .int .i64 0, .float .f64 0, .string ⟨#[]⟩, nl, u] : Array Value).setIfInBounds 6 v' = rvc 6 false 0 0 ⟨#[]⟩ nl v' from rfl] at st
      simp [go_sem, st]
      refine hK _ _ _ ?_
      clear hK
      simp [go_sem]
      subst hC3
      simp [go_sem, g47, xbin, eqPlain, hw]
      have hlt : list.length - (j + 1) < list.length - j := by omega
      have hle1 : j + 1 ≤ list.length := hj
      have hO4 : Own D2 (A4.set m (.cells (rvc 6 false 0 0 ⟨#[]⟩ nl v') 27)) 27 7 v' (j + 1) (vs ++ (rvc k1 b1 i1 f1 t1 ks1 (.slice bs1 n1 cp1)).toList) := own_move h2' fun k o q1 q2 q3 => ⟨q1, by rw [set_other (fun hx => hM4.1 (by rw [q2, hx]))]; exact q3⟩
      have hvl := hO3.row.len
      refine hJ (list.length - (j + 1)) _ _ _ hlt ⟨j + 1, D2, v', _, rfl, hle1, rfl, by simp [go_sem, g2], by simp [go_sem, g9], by simp [go_sem, g45], by simp [go_sem, g46], by simp [go_sem], View.le_trans hAD hDD, le_set' h1' hD2m, hD2m, hD2q, set_at _ _ _, by rw [set_other dqm]; exact hQ4.2, hO4, ⟨_, _, hv'⟩, hM4.1, hQ4.1, fun i h hi => ?_⟩
      rcases Nat.lt_or_eq_of_le (Nat.le_of_lt_succ hi) with hi | hi
      · obtain ⟨ci, h5, h6⟩ := hvs i h hi
        exact ⟨ci, by rw [td_left hvl hi]; exact h5, h6.le hDD⟩
      · subst hi
        exact ⟨_, td_right hvl (by rw [Array.length_toList]; exact hcz), hcj⟩
    · have hj' : j = list.length := by omega
      subst hj'
      refine xc_step fun C3 hC3 => ?_
      simp [go_sem, g46, g47, xbin, eqPlain]
      subst hC3
      refine xc_step fun C3 hC3 => ?_
      simp [go_sem]
      refine hX _ _ _ _ ?_
      simp [go_sem]
      subst hC2
      have gm := cells_block (n := 7) hM rfl
      have st := dst B _ (rvc 6 false 0 0 ⟨#[]⟩ nl u) hQ rfl rfl (by simp [one, hu])
      have gq := cells_block (n := 7) (set_at B q (.cells (rvc 6 false 0 0 ⟨#[]⟩ nl u) 27)) rfl
      simp [go_sem, g2, g9, vload, gm, st, gq]
      refine ⟨_, rfl, le_set' (View.le_trans hAD hDB) hq, ?_⟩
      rw [norm]
      simp only [show ¬ (6 : Int) = 1 by decide, show ¬ (6 : Int) = 2 by decide, show ¬ (6 : Int) = 4 by decide, show ¬ (6 : Int) = 5 by decide, if_false, if_true]
      have hDE := le_set' (o := .cells (rvc 6 false 0 0 ⟨#[]⟩ nl u) 27) hDB hDq
      have hO5 : Own D (B.set q (.cells (rvc 6 false 0 0 ⟨#[]⟩ nl u) 27)) 27 7 u list.length vs := own_move hO fun k o q1 q2 q3 => ⟨q1, by rw [set_other (fun hx => huq (by rw [q2, hx]))]; exact q3⟩
      exact isRV_list hDE hO5 (.inr ⟨rfl, rfl, rfl⟩) (Nat.zero_le _) hvs
  · rw [nodes_mk] at hn
    have hG2 := hG
    rw [Good] at hG2
    obtain ⟨hlv, -, -, hkk, hGs⟩ := hG2
    have hris : Rising keys ∧ keys.length = list.length := by
      rcases hkk with h | h | h | h | ⟨h, _⟩ | h | ⟨_, h⟩
      iterate 6 exact absurd h (by decide)
      exact h
    obtain ⟨hris, hlen⟩ := hris
    have hSn : list.length ≤ 1000000 := by
      have h6 := S_ge list list.length (by omega)
      rw [S_all] at h6
      omega
    refine xc_step fun C2 hC2 => ?_
    simp [go_sem, xassert, xbin, eqPlain]
    subst hC2
    refine xc_iffalse (by simp [go_sem]) ?_
    refine xc_step fun C2 hC2 => ?_
    simp [go_sem, xassert, xbin, eqPlain]
    subst hC2
    refine xc_iffalse (by simp [go_sem]) ?_
    refine xc_step fun C2 hC2 => ?_
    simp [go_sem, xassert, xbin, eqPlain]
    subst hC2
    refine xc_iffalse (by simp [go_sem]) ?_
    refine xc_step fun C2 hC2 => ?_
    simp [go_sem, xassert, xbin, eqPlain]
    subst hC2
    refine xc_iffalse (by simp [go_sem]) ?_
    refine xc_step fun C2 hC2 => ?_
    simp [go_sem, xassert, xbin, eqPlain]
    subst hC2
    refine xc_iffalse (by simp [go_sem]) ?_
    refine xc_step fun C2 hC2 => ?_
    simp [go_sem, xassert, xbin, eqPlain]
    subst hC2
    refine xc_iffalse (by simp [go_sem]) ?_
    refine xc_step fun C2 hC2 => ?_
    simp [go_sem, xassert, xbin, eqPlain]
    subst hC2
    refine xc_iffalse (by simp [go_sem]) ?_
    refine xc_step fun C2 hC2 => ?_
    simp [go_sem, xassert, xbin, eqPlain]
    subst hC2
    refine xc_iftrue (by simp [go_sem]) ?_
    refine xc_step fun C2 hC2 => ?_
    simp [go_sem]
    subst hC2
    refine xc_step fun C2 hC2 => ?_
    simp [go_sem, xbin, eqPlain]
    subst hC2
    refine xc_step fun C2 hC2 => ?_
    have st0 : ∀ m, xstore Try.prog 27 (.pointer (some ⟨m, 0, none⟩)) (.agg (rvc 7 false 0 0 ⟨#[]⟩ nl nl)) (B.set m (.cells (rvc 0 false 0 0 ⟨#[]⟩ nl nl) 27)) = some (B.set m (.cells (rvc 7 false 0 0 ⟨#[]⟩ nl nl) 27 (0, 0))) := fun m => by
      rw [xstore_agg (vs := rvc 7 false 0 0 ⟨#[]⟩ nl nl) (c := rvc 0 false 0 0 ⟨#[]⟩ nl nl) ti27 rfl (set_at B m _) rfl (by simp [one]), set_set]
    simp [go_sem, xbuild, xnew, zeroOf, Value.cells, Instr.fill, zerosB]
    intro m hm
    rw [st0 m, onS_some]
    clear st0
    have hM := set_at B m (.cells (rvc 7 false 0 0 ⟨#[]⟩ nl nl) 27)
    have dqm : q ≠ m := ne_of_none hQ hm
    have hQ2 : (B.set m (.cells (rvc 7 false 0 0 ⟨#[]⟩ nl nl) 27)) q = some (.cells (rvc 0 false 0 0 ⟨#[]⟩ nl nl) 27 (0, 0)) := by rw [set_other dqm]; exact hQ
    have LB := View.le_trans LA (le_set (o := .cells (rvc 7 false 0 0 ⟨#[]⟩ nl nl) 27) hm)
    have hAm : A m = none := none_le LA hm
    generalize B.set m (.cells (rvc 7 false 0 0 ⟨#[]⟩ nl nl) 27) = B1 at hM hQ2 LB
    clear hQ LA sc hm
    subst hC2
    refine xc_step fun C2 hC2 => ?_
    rw [xc_seq]
    refine xc_step fun C3 hC3 => ?_
    simp [go_sem, xop_range]
    have hm1 := h1.le LB
    refine xrangeP hm1 (kt := 9) (et := 20) (by kernel_rfl) (by simp [go_sem]) fun it o hit hI => ?_
    simp [go_sem]
    subst hC3
    have LB2 := View.le_trans LB (le_set (o := o) hit)
    have dmi : m ≠ it := ne_of_none hM hit
    have dqi : q ≠ it := ne_of_none hQ2 hit
    have hM2 : (B1.set it o) m = some (.cells (rvc 7 false 0 0 ⟨#[]⟩ nl nl) 27 (0, 0)) := by rw [set_other dmi]; exact hM
    have hQ3 : (B1.set it o) q = some (.cells (rvc 0 false 0 0 ⟨#[]⟩ nl nl) 27 (0, 0)) := by rw [set_other dqi]; exact hQ2
    have hAi : A it = none := none_le LB hit
    have hfst : (keys.zip vals).map (·.1) = keys := by rw [List.map_fst_zip]; omega
    generalize B1.set it o = B2 at hI LB2 hM2 hQ3
    clear hM hQ2 LB hm1 hit
    rw [xc_block]
    refine vloopK (fun k' e ds A' => ∃ (todo : List (ByteArray × Value)) (ks : List ByteArray) (u : Value), k' = todo.length ∧ ds = [] ∧ e 2 = .pointer (some ⟨q, 0, none⟩) ∧ e 13 = .map (some r) ∧ e 14 = .pointer (some ⟨m, 0, none⟩) ∧ e 74 = .pointer (some ⟨it, 0, none⟩) ∧
        A ≤ A' ∧ Iter A' it r todo ∧ (ks ++ todo.map (·.1)).Perm keys ∧ A' m = some (.cells (rvc 7 false 0 0 ⟨#[]⟩ u nl) 27 (0, 0)) ∧ A' q = some (.cells (rvc 0 false 0 0 ⟨#[]⟩ nl nl) 27 (0, 0)) ∧ Own A A' 9 1 u ks.length (ks.map Value.string) ∧ blockOf u ≠ some m ∧ blockOf u ≠ some q ∧ blockOf u ≠ some it) (keys.zip vals).length
      ⟨_, [], nl, rfl, rfl, by simp [go_sem], by simp [go_sem], by simp [go_sem], by simp [go_sem], LB2, hI, by rw [List.nil_append, hfst], hM2, hQ3, Own.nil _ _ _ _, by simp [blockOf], by simp [blockOf], by simp [blockOf]⟩ ?_
    clear hI LB2 hM2 hQ3
    rintro k' e ds B ⟨todo, ks, u, rfl, rfl, g2, g13, g14, g74, hAB, hI, hperm, hM, hQ, hO, hum, huq, hui⟩ J X hJ hX
    refine xc_sound _ ?_
    refine xc_step fun C3 hC3 => ?_
    simp [go_sem, xop_next]
    refine xnextP hI (by simp [go_sem, g74]) (fun h0 => ?_) fun p rest o hp hI2 hAt => ?_
    · subst h0
      simp [go_sem]
      subst hC3
      refine xc_step fun C2 hC2 => ?_
      simp [go_sem]
      subst hC2
      refine hX _ _ _ _ ?_
      simp [go_sem]
      subst hC2
      rw [List.map_nil, List.append_nil] at hperm
      have c5 := cell_of hM (i := 5) rfl
      have hkl := hperm.length_eq
      refine xc_step fun C2 hC2 => ?_
      simp [go_sem, g14, xfieldAt, vload, c5]
      refine (sort66 hO hAB hperm.symm hris (by omega)).mono ?_
      rintro _ B2 ⟨rfl, hA2, hO2, hk2⟩
      subst hC2
      have hM2 : B2 m = some (.cells (rvc 7 false 0 0 ⟨#[]⟩ u nl) 27 (0, 0)) := by rw [hk2 m hum]; exact hM
      have hQ2 : B2 q = some (.cells (rvc 0 false 0 0 ⟨#[]⟩ nl nl) 27 (0, 0)) := by rw [hk2 q huq]; exact hQ
      rw [hkl] at hO2
      clear hM hQ hO hI hAB hk2 c5
      have hO0 : Own A ((B2.erase m).erase q) 9 1 u keys.length (keys.map Value.string) := own_move hO2 fun k o' q1 q2 q3 => ⟨q1, by
        rw [erase_at (fun hx => huq (by rw [q2, hx])), erase_at (fun hx => hum (by rw [q2, hx]))]; exact q3⟩
      have hA0 : A ≤ (B2.erase m).erase q := le_erase (le_erase hA2 hAm) hq
      have h0B : (B2.erase m).erase q ≤ B2 := View.le_trans (erase_le _ _) (erase_le _ _)
      have h0m : ((B2.erase m).erase q) m = none := by rw [erase_at dqm.symm]; exact if_pos rfl
      have h0q : ((B2.erase m).erase q) q = none := if_pos rfl
      generalize (B2.erase m).erase q = D0 at hO0 hA0 h0B h0m h0q
      have hT : Texts D0 u keys := hO0.row
      obtain ⟨bk, ck, hu⟩ := hO0.shape
      have c5 := cell_of hM2 (i := 5) rfl
      refine xc_step fun C2 hC2 => ?_
      simp [go_sem, g14, xfieldAt, vload, c5, hu, xlen]
      have hmB := h1.le (View.le_trans hA0 h0B)
      refine vloopK (fun k' e ds A' => ∃ (j : Nat) (D : View) (u2 : Value) (vs : List Value), k' = list.length - j ∧ j ≤ list.length ∧ ds = [] ∧ e 2 = .pointer (some ⟨q, 0, none⟩) ∧ e 13 = .map (some r) ∧ e 14 = .pointer (some ⟨m, 0, none⟩) ∧ e 89 = .slice bk keys.length ck ∧ e 90 = .int .i64 keys.length ∧ e 91 = .int .i64 j ∧
          D0 ≤ D ∧ D ≤ A' ∧ D m = none ∧ D q = none ∧ A' m = some (.cells (rvc 7 false 0 0 ⟨#[]⟩ u u2) 27 (0, 0)) ∧ A' q = some (.cells (rvc 0 false 0 0 ⟨#[]⟩ nl nl) 27 (0, 0)) ∧ Own D A' 27 7 u2 j vs ∧ (∃ bu cu, u2 = .slice bu j cu) ∧ blockOf u2 ≠ some m ∧ blockOf u2 ≠ some q ∧
          ∀ i (h : i < list.length), i < j → ∃ ci : Array Value, (vs.drop (i * 7)).take 7 = ci.toList ∧ IsRV D (norm list[i]) ci) list.length
        ⟨0, D0, nl, [], by omega, by omega, rfl, by simp [go_sem, g2], by simp [go_sem, g13], by simp [go_sem, g14], by simp [go_sem], by simp [go_sem], by simp [go_sem], View.le_refl _, h0B, h0m, h0q, hM2, hQ2, Own.nil _ _ _ _, ⟨_, _, rfl⟩, by simp [blockOf], by simp [blockOf], fun i h hi => by omega⟩ ?_
      clear hM2 hQ2 h0B c5 hA2 hO2 hmB hX hJ g2 g13 g14 g74
      rintro k' e ds B ⟨j, D, u2, vs, rfl, hjl, rfl, g2, g13, g14, g89, g90, g91, hAD0, hDB, hDm, hDq, hM, hQ, hO, ⟨bu, cu, hu2⟩, hum2, huq2, hvs⟩ J X hJ hX
      have hAD := View.le_trans hA0 hAD0
      refine xc_sound _ ?_
      by_cases hj : j < list.length
      · obtain ⟨y, hy, hyV⟩ := h3 j hj
        have hjk : j < keys.length := by omega
        rw [hu] at hT
        obtain ⟨a, cap, f1, u1⟩ := hT.at' hjk
        simp only [Value.slice.injEq] at f1
        obtain ⟨rfl, -, rfl⟩ := f1
        have u1 := le_cell (View.le_trans hAD0 hDB) u1
        have hlk := (h1.le (View.le_trans hAD hDB)).look (zip_distinct hris) (zip_mem hjk hy)
        have hSj : nodes list[j] ≤ 1000000 := by
          have h4 := S_mono list (j + 1) list.length hj
          have h5 := S_succ list j hj
          rw [S_all] at h4
          omega
        have hw := wrap_nat (i := j) (by omega)
        refine xc_step fun C3 hC3 => ?_
        simp [go_sem, g90, g91, xbin, eqPlain, hjk]
        subst hC3
        refine xc_step fun C3 hC3 => ?_
        simp [go_sem]
        subst hC3
        refine xc_step fun C3 hC3 => ?_
        rw [xc_seq, xc_block]
        refine xc_step fun C4 hC4 => ?_
        simp [go_sem, g89, g91, xindexAt, hjk, vload, u1]
        subst hC4
        have c6 := cell_of hM (i := 6) rfl
        first | rw [xc_seq, xc_draws] | rw [xc_draws]
        refine vdrawK [(0, true), (1, true), (2, true), (3, true), (4, true), (5, true), (6, true), (7, false), (8, false), (9, false)] B mixed (by kernel_rfl) (View.le_refl _) fun K hK => ?_
        simp only [rslv_cons, rslv_nil, List.getElem?_toArray, List.getElem?_cons_zero, List.getElem?_cons_succ, gres]
        simp [go_sem, g13, g14, xfieldAt, vload, c6, hlk]
        refine (calls_base (ih j hj D y _ (hyV.le hAD) (hGs j hj) hSj) hDB).mono ?_
        rintro _ B3 ⟨D2, ⟨cj, rfl, hDD, hcj⟩, hDB3, hkeep⟩
        have hBB := keep_le hDB hDD hDB3 hkeep
        refine ⟨hBB, ?_⟩
        obtain ⟨k1, b1, i1, f1, t1, ks1, bs1, n1, cp1, hcs1, -⟩ := hcj.shape
        have hcz := hcj.size
        have hco := hcj.one
        have hD2m := (hkeep m _ hDm hM).1
        have hD2q := (hkeep q _ hDq hQ).1
        have hO3 : Own D2 B3 27 7 u2 j vs := own_move hO fun k o g1 _ g3 => hkeep k o g1 g3
        have hM3 := hBB _ _ hM
        have hQ3 := hBB _ _ hQ
        clear hkeep
        subst hcs1
        simp [go_sem, xnew, Value.cells, Instr.fill, zerosB]
        intro b3 hb3
        have hmb := ne_of_none hM3 hb3
        have hqb := ne_of_none hQ3 hb3
        have hb96 : (j + 1) * 96 ≤ 140737488355328 := Nat.le_trans (Nat.mul_le_mul_right 96 (show j + 1 ≤ 1000001 by omega)) (by decide)
        refine xappend_own ti25 ti25 (fun k => by simp) ti27 rfl (by decide) (hO3.le (le_set hb3)) (View.le_trans hDB3 (le_set hb3)) (appended_row (size := 7) (n := 1) (.inl ⟨_, _, rfl, cells_block (n := 7) (set_at B3 b3 _) hcz⟩)) (by simp [isStr]) hco hb96 fun v' A4 h1' h2' h3' => ?_
        have hM4 := eraseB_some (h3' m _ ((eraseB_apart hum2).trans ((set_other hmb).trans hM3)))
        have hQ4 := eraseB_some (h3' q _ ((eraseB_apart huq2).trans ((set_other hqb).trans hQ3)))
        obtain ⟨bu', cu', hv'⟩ := h2'.shape
        have st := xstore_field (i := 6) (u := v') ti25 hM4.2 (by simp) (by rw [hv']; rfl)
        rw [show (#[Value.int IntKind.i64 7, .bool false, .int .i64 0, .float .f64 0, .string ⟨#[]⟩, u, u2] : Array Value).setIfInBounds 6 v' = rvc 7 false 0 0 ⟨#[]⟩ u v' from rfl] at st
        simp [go_sem, st]
        refine hK _ _ _ ?_
        clear hK
        simp [go_sem]
        subst hC3
        simp [go_sem, g91, xbin, eqPlain, hw]
        have hlt : list.length - (j + 1) < list.length - j := by omega
        have hle1 : j + 1 ≤ list.length := hj
        have hO4 : Own D2 (A4.set m (.cells (rvc 7 false 0 0 ⟨#[]⟩ u v') 27)) 27 7 v' (j + 1) (vs ++ (rvc k1 b1 i1 f1 t1 ks1 (.slice bs1 n1 cp1)).toList) := own_move h2' fun k o q1 q2 q3 => ⟨q1, by rw [set_other (fun hx => hM4.1 (by rw [q2, hx]))]; exact q3⟩
        have hvl := hO3.row.len
        refine hJ (list.length - (j + 1)) _ _ _ hlt ⟨j + 1, D2, v', _, rfl, hle1, rfl, by simp [go_sem, g2], by simp [go_sem, g13], by simp [go_sem, g14], by simp [go_sem, g89], by simp [go_sem, g90], by simp [go_sem], View.le_trans hAD0 hDD, le_set' h1' hD2m, hD2m, hD2q, set_at _ _ _, by rw [set_other dqm]; exact hQ4.2, hO4, ⟨_, _, hv'⟩, hM4.1, hQ4.1, fun i h hi => ?_⟩
        rcases Nat.lt_or_eq_of_le (Nat.le_of_lt_succ hi) with hi | hi
        · obtain ⟨ci, h5, h6⟩ := hvs i h hi
          exact ⟨ci, by rw [td_left hvl hi]; exact h5, h6.le hDD⟩
        · subst hi
          exact ⟨_, td_right hvl (by rw [Array.length_toList]; exact hcz), hcj⟩
      · have hj' : j = list.length := by omega
        subst hj'
        refine xc_step fun C3 hC3 => ?_
        simp [go_sem, g90, g91, xbin, eqPlain, hlen]
        subst hC3
        refine xc_step fun C3 hC3 => ?_
        simp [go_sem]
        refine hX _ _ _ _ ?_
        simp [go_sem]
        subst hC2
        have gm := cells_block (n := 7) hM rfl
        have st := dst B _ (rvc 7 false 0 0 ⟨#[]⟩ u u2) hQ rfl rfl (by simp [one, hu, hu2])
        have gq := cells_block (n := 7) (set_at B q (.cells (rvc 7 false 0 0 ⟨#[]⟩ u u2) 27)) rfl
        simp [go_sem, g2, g14, vload, gm, st, gq]
        refine ⟨_, rfl, le_set' (View.le_trans hAD hDB) hq, ?_⟩
        rw [norm]
        simp only [show ¬ (7 : Int) = 1 by decide, show ¬ (7 : Int) = 2 by decide, show ¬ (7 : Int) = 4 by decide, show ¬ (7 : Int) = 5 by decide, show ¬ (7 : Int) = 6 by decide, if_false, if_true]
        have hDE := le_set' (o := .cells (rvc 7 false 0 0 ⟨#[]⟩ u u2) 27) hDB hDq
        have hO5 : Own D (B.set q (.cells (rvc 7 false 0 0 ⟨#[]⟩ u u2) 27)) 27 7 u2 list.length vs := own_move hO fun k o q1 q2 q3 => ⟨q1, by rw [set_other (fun hx => huq2 (by rw [q2, hx]))]; exact q3⟩
        exact isRV_list hDE hO5 (hT.le (View.le_trans hAD0 hDE)) (by omega) hvs
    · simp [go_sem]
      subst hC3
      refine xc_step fun C2 hC2 => ?_
      simp [go_sem]
      subst hC2
      rw [xc_block]
      refine xc_step fun C3 hC3 => ?_
      simp [go_sem, xop_entry]
      refine xentryP hAt (by simp [go_sem, g74]) ?_
      simp [go_sem]
      subst hC3
      have LB := le_set' (o := o) hAB hAi
      have hM2 : (B.set it o) m = some (.cells (rvc 7 false 0 0 ⟨#[]⟩ u nl) 27 (0, 0)) := by rw [set_other dmi]; exact hM
      have hQ2 : (B.set it o) q = some (.cells (rvc 0 false 0 0 ⟨#[]⟩ nl nl) 27 (0, 0)) := by rw [set_other dqi]; exact hQ
      have hO2 : Own A (B.set it o) 9 1 u ks.length (ks.map Value.string) := own_move hO fun k o' q1 q2 q3 => ⟨q1, by rw [set_other (fun hx => hui (by rw [q2, hx]))]; exact q3⟩
      have hit2 : (B.set it o) it = some o := set_at _ _ _
      generalize B.set it o = B1 at LB hM2 hQ2 hO2 hI2 hit2
      clear hM hQ hO hI hAt hAB
      have c5 := cell_of hM2 (i := 5) rfl
      simp [go_sem, g14, xfieldAt, vload, c5, xnew, Value.cells, Instr.fill, zerosB]
      intro b3 hb3
      have hmb := ne_of_none hM2 hb3
      have hqb := ne_of_none hQ2 hb3
      have hib := ne_of_none hit2 hb3
      have hlt : rest.length < todo.length := by rw [hp.length_eq]; exact Nat.lt_succ_self _
      have hksl : ks.length + 1 ≤ 1000001 := by
        have := hperm.length_eq
        rw [List.length_append, List.length_map] at this
        omega
      have hb16 : (ks.length + 1) * 16 ≤ 140737488355328 := Nat.le_trans (Nat.mul_le_mul_right 16 hksl) (by decide)
      refine xappend_own ti24 ti24 (fun k => by simp) ti9 rfl (by decide) (hO2.le (le_set hb3)) (View.le_trans LB (le_set hb3)) appended_one (by simp [isStr]) (by simp [one]) hb16 fun v' A4 h1' h2' h3' => ?_
      have hM4 := eraseB_some (h3' m _ ((eraseB_apart hum).trans ((set_other hmb).trans hM2)))
      have hQ4 := eraseB_some (h3' q _ ((eraseB_apart huq).trans ((set_other hqb).trans hQ2)))
      have hI4 := eraseB_some (h3' it _ ((eraseB_apart hui).trans ((set_other hib).trans hit2)))
      obtain ⟨bu', cu', hv'⟩ := h2'.shape
      have st := xstore_field (i := 5) (u := v') ti24 hM4.2 (by simp) (by rw [hv']; rfl)
      rw [show (#[Value.int IntKind.i64 7, .bool false, .int .i64 0, .float .f64 0, .string ⟨#[]⟩, u, nl] : Array Value).setIfInBounds 5 v' = rvc 7 false 0 0 ⟨#[]⟩ v' nl from rfl] at st
      simp [go_sem, st]
      have hr4 : ∀ es c, A r = some (.map es c) → A4 r = B1 r := fun es c h4 => by rw [h1' _ _ h4, LB _ _ h4]
      have drm : r ≠ m := fun hx => by
        obtain ⟨es, c, h4, _⟩ := id h1
        rw [hx, hAm] at h4; cases h4
      refine hJ rest.length _ _ _ hlt ⟨rest, ks ++ [p.1], v', rfl, rfl, by simp [go_sem, g2], by simp [go_sem, g13], by simp [go_sem, g14], by simp [go_sem, g74], le_set' h1' hAm, hI2.congr ?_ ?_, ?_, set_at _ _ _, by rw [set_other dqm]; exact hQ4.2, ?_, hM4.1, hQ4.1, hI4.1⟩
      · rw [set_other dmi.symm, hI4.2, hit2]
      · obtain ⟨es, c, h4, _⟩ := id h1
        rw [set_other drm, hr4 es c h4]
      · refine List.Perm.trans ?_ hperm
        rw [List.append_assoc]
        exact List.Perm.append_left _ (hp.map _).symm
      · rw [List.length_append, List.map_append]
        exact own_move h2' fun k o' q1 q2 q3 => ⟨q1, by rw [set_other (fun hx => hM4.1 (by rw [q2, hx]))]; exact q3⟩
theorem value42 : ∀ (v : RV), A42 v
  | .mk k b i f t keys list => value42_step k b i f t keys list fun j h => value42 (list[j])
termination_by v => SizeOf.sizeOf v
decreasing_by
  have := List.sizeOf_lt_of_mem (List.getElem_mem h)
  simp
  omega
end Go.Proofs.YtogfpbnbojhpoaaV

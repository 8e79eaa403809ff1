/- Calendar: the law on moving by business days. -/
import Derived.Test.YtafdegdodmelpaaCalR
set_option linter.unusedSimpArgs false
set_option linter.unusedVariables false
set_option linter.unnecessarySimpa false
namespace GL
open Go Go.Proofs
set_option maxRecDepth 8000
def suff (s : Int) (f : Nat) (d : Int) : Prop := (s = 1 ∧ 73049 ≤ f + d) ∨ (s = -1 ∧ d + 1 ≤ f)
theorem valid_no {d : Int} (h : ¬ (0 ≤ d ∧ d ≤ 73048)) : validM d = false := by
  cases hv : validM d with
  | false => rfl
  | true => exact absurd (valid_bd hv) h
theorem search_scan (bus : Int → Bool) (s k : Int) : ∀ (f : Nat) (d : Int), suff s f d →
    (scanM bus s f d = none → searchM bus s f d k = none) ∧ (∀ d', scanM bus s f d = some d' → validM d' = true ∧ ∃ f', suff s f' (d' + s) ∧ searchM bus s f d k = if k - 1 = 0 then some d' else searchM bus s f' (d' + s) (k - 1))
  | 0, d, _ => ⟨fun _ => rfl, fun d' h => by simp [scanM] at h⟩
  | f + 1, d, hs => by
    cases hv : validM d with
    | false => simp [scanM, searchM, hv]
    | true =>
      have hb := valid_bd hv
      have hs' : suff s f (d + s) := by unfold suff at hs ⊢; omega
      cases hbu : bus d with
      | true =>
        simp only [scanM, searchM, hv, hbu, if_true]
        refine ⟨fun h => (by cases h), fun d' h => ?_⟩
        cases h
        exact ⟨hv, f, hs', rfl⟩
      | false =>
        simp only [scanM, searchM, hv, hbu, if_true, Bool.false_eq_true, if_false]
        exact search_scan bus s k f (d + s) hs'
theorem search_fuel (bus : Int → Bool) (s : Int) : ∀ (f g : Nat) (d n : Int), suff s f d → suff s g d → searchM bus s f d n = searchM bus s g d n
  | 0, g, d, n, hf, _ => by
    rw [searchM_out _ _ 0 _ _ (valid_no (by unfold suff at hf; omega)), searchM_out _ _ g _ _ (valid_no (by unfold suff at hf; omega))]
  | f + 1, 0, d, n, _, hg => by
    rw [searchM_out _ _ (f + 1) _ _ (valid_no (by unfold suff at hg; omega)), searchM_out _ _ 0 _ _ (valid_no (by unfold suff at hg; omega))]
  | f + 1, g + 1, d, n, hf, hg => by
    cases hv : validM d with
    | false => simp [searchM, hv]
    | true =>
      have e1 : ∀ n, searchM bus s f (d + s) n = searchM bus s g (d + s) n := fun n => search_fuel bus s f g (d + s) n (by unfold suff at hf ⊢; omega) (by unfold suff at hg ⊢; omega)
      simp only [searchM, e1]
theorem scan_fuel (bus : Int → Bool) (s : Int) (f g : Nat) (d : Int) (hf : suff s f d) (hg : suff s g d) : scanM bus s f d = scanM bus s g d := by
  rw [← searchM_one, ← searchM_one]
  exact search_fuel bus s f g d 1 hf hg
theorem iter_search (bus : Int → Bool) (s : Int) (hs : s = 1 ∨ s = -1) : ∀ (k : Nat) (d0 : Int) (f : Nat), validM d0 = true → suff s f (d0 + s) → ans (searchM bus s f (d0 + s) ((k : Int) + 1)) = iterM bus s (k + 1) d0 := by
  intro k
  induction k with
  | zero =>
    intro d0 f hv hf
    have hb := valid_bd hv
    have hsc := scan_fuel bus s 73050 f (d0 + s) (by unfold suff; omega) hf
    obtain ⟨h1, h2⟩ := search_scan bus s ((0 : Nat) + 1 : Int) f (d0 + s) hf
    simp only [iterM, stepM, hv, if_true, hsc]
    cases hx : scanM bus s f (d0 + s) with
    | none => rw [h1 hx]; simp [ans]
    | some d' =>
      obtain ⟨_, f', _, he⟩ := h2 d' hx
      rw [he]
      simp [ans]
  | succ k ih =>
    intro d0 f hv hf
    have hb := valid_bd hv
    have hsc := scan_fuel bus s 73050 f (d0 + s) (by unfold suff; omega) hf
    obtain ⟨h1, h2⟩ := search_scan bus s (((k + 1 : Nat) : Int) + 1) f (d0 + s) hf
    rw [show iterM bus s (k + 1 + 1) d0 = if (stepM bus d0 s).2 = 0 then iterM bus s (k + 1) (stepM bus d0 s).1 else (0, (stepM bus d0 s).2) from rfl]
    simp only [stepM, hv, if_true, hsc]
    cases hx : scanM bus s f (d0 + s) with
    | none => rw [h1 hx]; simp [ans]
    | some d' =>
      obtain ⟨hv', f', hf', he⟩ := h2 d' hx
      rw [he, if_neg (by omega)]
      have e1 : ((k + 1 : Nat) : Int) + 1 - 1 = (k : Int) + 1 := by omega
      rw [e1]
      simpa using ih d' f' hv' hf'
theorem search_far (bus : Int → Bool) (s : Int) : ∀ (f : Nat) (d n : Int), ((s = 1 ∧ 73049 - d < n) ∨ (s = -1 ∧ d + 1 < n)) → searchM bus s f d n = none
  | 0, d, n, _ => rfl
  | f + 1, d, n, h => by
    cases hv : validM d with
    | false => simp [searchM, hv]
    | true =>
      have hb := valid_bd hv
      simp only [searchM, hv, if_true]
      split
      · rw [if_neg (by omega)]
        exact search_far bus s f (d + s) (n - 1) (by omega)
      · exact search_far bus s f (d + s) n (by omega)
theorem add_eq (bus : Int → Bool) (m n : Int) : addI bus m n = addR bus m n := by
  unfold addI addR
  cases hv : validM m with
  | false => simp
  | true =>
    have hb := valid_bd hv
    simp only [if_true]
    by_cases h0 : n = 0
    · subst h0
      simp [iterM]
    · rw [if_neg h0]
      by_cases h1 : 0 < n
      · rw [if_pos h1]
        by_cases h2 : 73048 < n
        · rw [if_pos (.inl h2), search_far bus 1 73050 (m + 1) n (.inl ⟨rfl, by omega⟩)]
          rfl
        · rw [if_neg (by omega), if_neg (by omega)]
          have := iter_search bus 1 (.inl rfl) (n.natAbs - 1) m 73050 hv (by unfold suff; omega)
          rw [show ((n.natAbs - 1 : Nat) : Int) + 1 = n from by omega, show n.natAbs - 1 + 1 = n.natAbs from by omega] at this
          exact this
      · rw [if_neg h1]
        by_cases h2 : n < -73048
        · rw [if_pos h2, if_pos (.inr h2)]
        · rw [if_neg h2, if_neg (by omega), if_pos (by omega)]
          have := iter_search bus (-1) (.inr rfl) (n.natAbs - 1) m 73050 hv (by unfold suff; omega)
          rw [show ((n.natAbs - 1 : Nat) : Int) + 1 = -n from by omega, show n.natAbs - 1 + 1 = n.natAbs from by omega] at this
          exact this
theorem l_addBusiness (wk hol : List Int) (a a' : Option Addr) (c c' : Nat) (m n : Int) (bn : n ≤ 9223372036854775807) {h : Heap} (hw : SlI h a wk) (hh : SlI h a' hol) (lw : wk.length ≤ 9223372036854775807) (lh : hol.length ≤ 9223372036854775807) (cw : wk.length ≤ c) (ch : hol.length ≤ c') :
    HCalls Try.prog 3 #[.agg #[.slice a wk.length c, .slice a' hol.length c'], .int .i64 m, .int .i64 n] h (Grow (.bool true) h) := by
  refine hcalls2 Try.func3 rfl (by decide +kernel) (by simp only [Try.ntmps3]; exact of_decide_eq_true rfl) ?_
  intro e hin
  have e0 := hin 0 _ rfl
  have e1 := hin 1 _ rfl
  have e2 := hin 2 _ rfl
  obtain ⟨x1, y1, s1⟩ : ∃ x y, addR (busM wk hol) m n = (x, y) := ⟨_, _, rfl⟩
  have r1 : addI (busM wk (srt hol)) m n = (x1, y1) := by rw [busM_srt, add_eq]; exact s1
  refine hx_seq ?_
  refine hx_region ?_
  refine WL.box2 (by simp only [ev_tmp, ev_const, ev_func, set_get, Nat.reduceEqDiff, reduceIte, Value.cells, e0, e1, e2]; rfl) ?_
  intro h1 B1 hx1 hlt1 hB1
  replace hw := hw.ext hx1
  replace hh := hh.ext hx1
  refine WL.qq (by simp only [ev_tmp, ev_const, ev_func, set_get, Nat.reduceEqDiff, reduceIte, qv_assign, e0, e1, e2, hB1.cell]; rfl) ?_
  refine WL.nil ?_
  refine th_norm ?_
  refine hx_seq ?_
  refine hx_seq ?_
  refine hx_region ?_
  refine WL.cg Try.call12 (by simp only [ev_tmp, ev_const, ev_func, set_get, Nat.reduceEqDiff, reduceIte, List.getElem?_toArray, List.getElem?_cons_zero, List.getElem?_cons_succ, List.map_toArray, List.map_cons, List.map_nil, Option.map_some, Option.bind_some, e0, e1, e2, hB1.cell]; exact c_known _) ?_
  intro h2 hx2
  replace hw := hw.ext hx2
  replace hh := hh.ext hx2
  replace hB1 := hB1.ext hx2
  refine WL.qq (by simp only [ev_tmp, ev_const, ev_func, set_get, Nat.reduceEqDiff, reduceIte, qv_unOp, unv_not, e0, e1, e2, hB1.cell]; rfl) ?_
  refine WL.qq (by simp only [ev_tmp, ev_const, ev_func, set_get, Nat.reduceEqDiff, reduceIte, qv_move, e0, e1, e2, hB1.cell]; rfl) ?_
  refine WL.cq (gd_at (t := 15) rfl (by simp only [ev_tmp, ev_const, ev_func, set_get, Nat.reduceEqDiff, reduceIte, e0, e1, e2, hB1.cell]; rfl)) (fun hg1_3 => by simp only [ev_tmp, ev_const, ev_func, set_get, Nat.reduceEqDiff, reduceIte, qv_fieldAddr, fa24_1, Nat.zero_add, Nat.reduceAdd, e0, e1, e2, hB1.cell, hg1_3, Bool.false_eq_true, Bool.true_eq_false, eq_self, if_true, if_false, true_and, and_true, false_and, and_false]; rfl) ?_
  refine WL.cq (gd_at (t := 15) rfl (by simp only [ev_tmp, ev_const, ev_func, set_get, Nat.reduceEqDiff, reduceIte, e0, e1, e2, hB1.cell]; rfl)) (fun hg1_4 => by simp only [ev_tmp, ev_const, ev_func, set_get, Nat.reduceEqDiff, reduceIte, qv_load, ld22, readN, List.getElem?_toArray, List.getElem?_cons_zero, List.getElem?_cons_succ, List.map_toArray, List.map_cons, List.map_nil, Option.map_some, Option.bind_some, Nat.zero_add, Nat.reduceAdd, e0, e1, e2, hB1.cell, hg1_4, Bool.false_eq_true, Bool.true_eq_false, eq_self, if_true, if_false, true_and, and_true, false_and, and_false]; rfl) ?_
  refine WL.cq (gd_at (t := 15) rfl (by simp only [ev_tmp, ev_const, ev_func, set_get, Nat.reduceEqDiff, reduceIte, e0, e1, e2, hB1.cell]; rfl)) (fun hg1_5 => by simp only [ev_tmp, ev_const, ev_func, set_get, Nat.reduceEqDiff, reduceIte, qv_len, ln22, List.getElem?_toArray, List.getElem?_cons_zero, List.getElem?_cons_succ, List.map_toArray, List.map_cons, List.map_nil, Option.map_some, Option.bind_some, e0, e1, e2, hB1.cell, hg1_5, Bool.false_eq_true, Bool.true_eq_false, eq_self, if_true, if_false, true_and, and_true, false_and, and_false]; rfl) ?_
  refine WL.cq (gd_at (t := 15) rfl (by simp only [ev_tmp, ev_const, ev_func, set_get, Nat.reduceEqDiff, reduceIte, e0, e1, e2, hB1.cell]; rfl)) (fun hg1_6 => by simp only [ev_tmp, ev_const, ev_func, set_get, Nat.reduceEqDiff, reduceIte, qv_binOp, binv_gtr, e0, e1, e2, hB1.cell, hg1_6, Bool.false_eq_true, Bool.true_eq_false, eq_self, if_true, if_false, true_and, and_true, false_and, and_false]; rfl) ?_
  refine WL.qq (by simp only [ev_tmp, ev_const, ev_func, set_get, Nat.reduceEqDiff, reduceIte, qv_pick, pk_and, pk_or, Bool.false_eq_true, Bool.true_eq_false, eq_self, if_true, if_false, true_and, and_true, false_and, and_false, e0, e1, e2, hB1.cell]; rfl) ?_
  refine WL.qq (by simp only [ev_tmp, ev_const, ev_func, set_get, Nat.reduceEqDiff, reduceIte, qv_move, e0, e1, e2, hB1.cell]; rfl) ?_
  refine WL.cq (gd_at (t := 21) rfl (by simp only [ev_tmp, ev_const, ev_func, set_get, Nat.reduceEqDiff, reduceIte, e0, e1, e2, hB1.cell]; rfl)) (fun hg1_9 => by simp only [ev_tmp, ev_const, ev_func, set_get, Nat.reduceEqDiff, reduceIte, qv_load, ld24, readN, List.getElem?_toArray, List.getElem?_cons_zero, List.getElem?_cons_succ, List.map_toArray, List.map_cons, List.map_nil, Option.map_some, Option.bind_some, Nat.zero_add, Nat.reduceAdd, e0, e1, e2, hB1.cell, hg1_9, Bool.false_eq_true, Bool.true_eq_false, eq_self, if_true, if_false, true_and, and_true, false_and, and_false]; rfl) ?_
  refine WL.ccg (gd_at (t := 21) rfl (by simp only [ev_tmp, ev_const, ev_func, set_get, Nat.reduceEqDiff, reduceIte, e0, e1, e2, hB1.cell]; rfl)) Try.call13 (fun hg1_10 => by simp only [ev_tmp, ev_const, ev_func, set_get, Nat.reduceEqDiff, reduceIte, List.getElem?_toArray, List.getElem?_cons_zero, List.getElem?_cons_succ, List.map_toArray, List.map_cons, List.map_nil, Option.map_some, Option.bind_some, e0, e1, e2, hB1.cell, hg1_10, Bool.false_eq_true, Bool.true_eq_false, eq_self, if_true, if_false, true_and, and_true, false_and, and_false]; exact c_rnew wk hol _ _ _ _ hw hh lw lh cw ch) ?_
  intro h3 hx3
  replace hw := hw.ext hx3
  replace hh := hh.ext hx3
  replace hB1 := hB1.ext hx3
  refine WL.cq (gd_at (t := 21) rfl (by simp only [ev_tmp, ev_const, ev_func, set_get, Nat.reduceEqDiff, reduceIte, e0, e1, e2, hB1.cell]; rfl)) (fun hg1_11 => by simp only [ev_tmp, ev_const, ev_func, set_get, Nat.reduceEqDiff, reduceIte, qv_binOp, binv_neq, eq3, Option.map_some, e0, e1, e2, hB1.cell, hg1_11, Bool.false_eq_true, Bool.true_eq_false, eq_self, if_true, if_false, true_and, and_true, false_and, and_false]; rfl) ?_
  refine WL.qq (by simp only [ev_tmp, ev_const, ev_func, set_get, Nat.reduceEqDiff, reduceIte, qv_pick, pk_and, pk_or, Bool.false_eq_true, Bool.true_eq_false, eq_self, if_true, if_false, true_and, and_true, false_and, and_false, e0, e1, e2, hB1.cell]; rfl) ?_
  refine WL.qq (by simp only [ev_tmp, ev_const, ev_func, set_get, Nat.reduceEqDiff, reduceIte, qv_move, e0, e1, e2, hB1.cell]; rfl) ?_
  refine WL.cq (gd_at (t := 26) rfl (by simp only [ev_tmp, ev_const, ev_func, set_get, Nat.reduceEqDiff, reduceIte, e0, e1, e2, hB1.cell]; rfl)) (fun hg1_14 => by simp only [ev_tmp, ev_const, ev_func, set_get, Nat.reduceEqDiff, reduceIte, qv_move, e0, e1, e2, hB1.cell, hg1_14, Bool.false_eq_true, Bool.true_eq_false, eq_self, if_true, if_false, true_and, and_true, false_and, and_false]; rfl) ?_
  refine WL.cq (gd_at (t := 26) rfl (by simp only [ev_tmp, ev_const, ev_func, set_get, Nat.reduceEqDiff, reduceIte, e0, e1, e2, hB1.cell]; rfl)) (fun hg1_15 => by simp only [ev_tmp, ev_const, ev_func, set_get, Nat.reduceEqDiff, reduceIte, qv_binOp, binv_lss, e0, e1, e2, hB1.cell, hg1_15, Bool.false_eq_true, Bool.true_eq_false, eq_self, if_true, if_false, true_and, and_true, false_and, and_false]; rfl) ?_
  refine WL.cq (gd_at (t := 26) rfl (by simp only [ev_tmp, ev_const, ev_func, set_get, Nat.reduceEqDiff, reduceIte, e0, e1, e2, hB1.cell]; rfl)) (fun hg1_16 => by simp only [ev_tmp, ev_const, ev_func, set_get, Nat.reduceEqDiff, reduceIte, qv_move, e0, e1, e2, hB1.cell, hg1_16, Bool.false_eq_true, Bool.true_eq_false, eq_self, if_true, if_false, true_and, and_true, false_and, and_false]; rfl) ?_
  refine WL.cq2 (t := 29) rfl (by simp only [ev_tmp, ev_const, ev_func, set_get, Nat.reduceEqDiff, reduceIte, e0, e1, e2, hB1.cell]; rfl) (fun hC1_17 hg1_17 => by simp only [ev_tmp, ev_const, ev_func, set_get, Nat.reduceEqDiff, reduceIte, qv_move, e0, e1, e2, hB1.cell, hC1_17, hg1_17, Bool.false_eq_true, Bool.true_eq_false, eq_self, if_true, if_false, true_and, and_true, false_and, and_false]; rfl) ?_
  refine WL.cq2 (t := 29) rfl (by simp only [ev_tmp, ev_const, ev_func, set_get, Nat.reduceEqDiff, reduceIte, e0, e1, e2, hB1.cell]; rfl) (fun hC1_18 hg1_18 => by simp only [ev_tmp, ev_const, ev_func, set_get, Nat.reduceEqDiff, reduceIte, qv_binOp, binv_gtr, e0, e1, e2, hB1.cell, hC1_18, hg1_18, Bool.false_eq_true, Bool.true_eq_false, eq_self, if_true, if_false, true_and, and_true, false_and, and_false]; rfl) ?_
  refine WL.cq (gd_at (t := 26) rfl (by simp only [ev_tmp, ev_const, ev_func, set_get, Nat.reduceEqDiff, reduceIte, e0, e1, e2, hB1.cell]; rfl)) (fun hg1_19 => by simp only [ev_tmp, ev_const, ev_func, set_get, Nat.reduceEqDiff, reduceIte, qv_pick, pk_and, pk_or, Bool.false_eq_true, Bool.true_eq_false, eq_self, if_true, if_false, true_and, and_true, false_and, and_false, e0, e1, e2, hB1.cell, hg1_19, Bool.false_eq_true, Bool.true_eq_false, eq_self, if_true, if_false, true_and, and_true, false_and, and_false]; rfl) ?_
  refine WL.cq (gd_at (t := 26) rfl (by simp only [ev_tmp, ev_const, ev_func, set_get, Nat.reduceEqDiff, reduceIte, e0, e1, e2, hB1.cell]; rfl)) (fun hg1_20 => by simp only [ev_tmp, ev_const, ev_func, set_get, Nat.reduceEqDiff, reduceIte, qv_move, e0, e1, e2, hB1.cell, hg1_20, Bool.false_eq_true, Bool.true_eq_false, eq_self, if_true, if_false, true_and, and_true, false_and, and_false]; rfl) ?_
  refine WL.cq2 (t := 33) rfl (by simp only [ev_tmp, ev_const, ev_func, set_get, Nat.reduceEqDiff, reduceIte, e0, e1, e2, hB1.cell]; rfl) (fun hC1_21 hg1_21 => by simp only [ev_tmp, ev_const, ev_func, set_get, Nat.reduceEqDiff, reduceIte, qv_move, e0, e1, e2, hB1.cell, hC1_21, hg1_21, Bool.false_eq_true, Bool.true_eq_false, eq_self, if_true, if_false, true_and, and_true, false_and, and_false]; rfl) ?_
  refine WL.cq2 (t := 33) rfl (by simp only [ev_tmp, ev_const, ev_func, set_get, Nat.reduceEqDiff, reduceIte, e0, e1, e2, hB1.cell]; rfl) (fun hC1_22 hg1_22 => by simp only [ev_tmp, ev_const, ev_func, set_get, Nat.reduceEqDiff, reduceIte, qv_binOp, binv_geq, e0, e1, e2, hB1.cell, hC1_22, hg1_22, Bool.false_eq_true, Bool.true_eq_false, eq_self, if_true, if_false, true_and, and_true, false_and, and_false]; rfl) ?_
  refine WL.cq (gd_at (t := 26) rfl (by simp only [ev_tmp, ev_const, ev_func, set_get, Nat.reduceEqDiff, reduceIte, e0, e1, e2, hB1.cell]; rfl)) (fun hg1_23 => by simp only [ev_tmp, ev_const, ev_func, set_get, Nat.reduceEqDiff, reduceIte, qv_pick, pk_and, pk_or, Bool.false_eq_true, Bool.true_eq_false, eq_self, if_true, if_false, true_and, and_true, false_and, and_false, e0, e1, e2, hB1.cell, hg1_23, Bool.false_eq_true, Bool.true_eq_false, eq_self, if_true, if_false, true_and, and_true, false_and, and_false]; rfl) ?_
  refine WL.cq (gd_at (t := 26) rfl (by simp only [ev_tmp, ev_const, ev_func, set_get, Nat.reduceEqDiff, reduceIte, e0, e1, e2, hB1.cell]; rfl)) (fun hg1_24 => by simp only [ev_tmp, ev_const, ev_func, set_get, Nat.reduceEqDiff, reduceIte, qv_move, e0, e1, e2, hB1.cell, hg1_24, Bool.false_eq_true, Bool.true_eq_false, eq_self, if_true, if_false, true_and, and_true, false_and, and_false]; rfl) ?_
  refine WL.cq2 (t := 37) rfl (by simp only [ev_tmp, ev_const, ev_func, set_get, Nat.reduceEqDiff, reduceIte, e0, e1, e2, hB1.cell]; rfl) (fun hC1_25 hg1_25 => by simp only [ev_tmp, ev_const, ev_func, set_get, Nat.reduceEqDiff, reduceIte, qv_move, e0, e1, e2, hB1.cell, hC1_25, hg1_25, Bool.false_eq_true, Bool.true_eq_false, eq_self, if_true, if_false, true_and, and_true, false_and, and_false]; rfl) ?_
  refine WL.cq2 (t := 37) rfl (by simp only [ev_tmp, ev_const, ev_func, set_get, Nat.reduceEqDiff, reduceIte, e0, e1, e2, hB1.cell]; rfl) (fun hC1_26 hg1_26 => by simp only [ev_tmp, ev_const, ev_func, set_get, Nat.reduceEqDiff, reduceIte, qv_binOp, binv_leq, e0, e1, e2, hB1.cell, hC1_26, hg1_26, Bool.false_eq_true, Bool.true_eq_false, eq_self, if_true, if_false, true_and, and_true, false_and, and_false]; rfl) ?_
  refine WL.cq (gd_at (t := 26) rfl (by simp only [ev_tmp, ev_const, ev_func, set_get, Nat.reduceEqDiff, reduceIte, e0, e1, e2, hB1.cell]; rfl)) (fun hg1_27 => by simp only [ev_tmp, ev_const, ev_func, set_get, Nat.reduceEqDiff, reduceIte, qv_pick, pk_and, pk_or, Bool.false_eq_true, Bool.true_eq_false, eq_self, if_true, if_false, true_and, and_true, false_and, and_false, e0, e1, e2, hB1.cell, hg1_27, Bool.false_eq_true, Bool.true_eq_false, eq_self, if_true, if_false, true_and, and_true, false_and, and_false]; rfl) ?_
  refine WL.qq (by simp only [ev_tmp, ev_const, ev_func, set_get, Nat.reduceEqDiff, reduceIte, qv_pick, pk_and, pk_or, Bool.false_eq_true, Bool.true_eq_false, eq_self, if_true, if_false, true_and, and_true, false_and, and_false, e0, e1, e2, hB1.cell]; rfl) ?_
  refine WL.nil ?_
  refine th_norm ?_
  refine hx_cond (by simp only [ev_tmp, ev_const, ev_func, set_get, Nat.reduceEqDiff, reduceIte, e0, e1, e2, hB1.cell]; rfl) (fun hct41 => ?_) (fun hct41 => ?_)
  ·
    try simp only [decide_eq_true_eq, decide_eq_false_iff_not, Bool.and_eq_true, Bool.and_eq_false_iff, Bool.or_eq_true, Bool.or_eq_false_iff, Bool.not_eq_true', Bool.not_eq_false', Bool.not_eq_true, Bool.not_eq_false] at hct41
    refine hx_seq ?_
    refine hx_region ?_
    refine WL.cg Try.call12 (by simp only [ev_tmp, ev_const, ev_func, set_get, Nat.reduceEqDiff, reduceIte, List.getElem?_toArray, List.getElem?_cons_zero, List.getElem?_cons_succ, List.map_toArray, List.map_cons, List.map_nil, Option.map_some, Option.bind_some, e0, e1, e2, hB1.cell]; exact c_known _) ?_
    intro h4 hx4
    replace hw := hw.ext hx4
    replace hh := hh.ext hx4
    replace hB1 := hB1.ext hx4
    refine WL.qq (by simp only [ev_tmp, ev_const, ev_func, set_get, Nat.reduceEqDiff, reduceIte, qv_assign, e0, e1, e2, hB1.cell]; rfl) ?_
    refine WL.nil ?_
    refine th_norm ?_
    refine hx_ret ?_
    refine th_ret ?_
    refine fin_ret [.tmp 6] rfl rfl (by simp only [ev_tmp, ev_const, ev_func, set_get, Nat.reduceEqDiff, reduceIte, resv, e0, e1, e2, hB1.cell]; rfl) ?_  -- ret 0 r2
    exact ⟨rfl, ((hx1).trans ((hx2).trans ((hx3).trans (hx4))))⟩
  ·
    try simp only [decide_eq_true_eq, decide_eq_false_iff_not, Bool.and_eq_true, Bool.and_eq_false_iff, Bool.or_eq_true, Bool.or_eq_false_iff, Bool.not_eq_true', Bool.not_eq_false', Bool.not_eq_true, Bool.not_eq_false] at hct41
    have hz : newM wk hol = 0 := by { have := hct41.1.2; simpa using this }
    refine hx_skip ?_
    refine th_norm ?_
    refine hx_seq ?_
    refine hx_region ?_
    refine WL.qq (by simp only [ev_tmp, ev_const, ev_func, set_get, Nat.reduceEqDiff, reduceIte, qv_load, ld24, readN, List.getElem?_toArray, List.getElem?_cons_zero, List.getElem?_cons_succ, List.map_toArray, List.map_cons, List.map_nil, Option.map_some, Option.bind_some, Nat.zero_add, Nat.reduceAdd, e0, e1, e2, hB1.cell]; rfl) ?_
    refine WL.ce Try.call14 (by simp only [ev_tmp, ev_const, ev_func, set_get, Nat.reduceEqDiff, reduceIte, List.getElem?_toArray, List.getElem?_cons_zero, List.getElem?_cons_succ, List.map_toArray, List.map_cons, List.map_nil, Option.map_some, Option.bind_some, e0, e1, e2, hB1.cell]; exact c_of_ok hz c c' hw hh lw) ?_
    rintro _ h5 ⟨hx5, p, rfl, hc⟩
    replace hw := hw.ext hx5
    replace hh := hh.ext hx5
    replace hB1 := hB1.ext hx5
    simp only [put_some]
    refine WL.qq (by simp only [ev_tmp, ev_const, ev_func, set_get, Nat.reduceEqDiff, reduceIte, qv_move, e0, e1, e2, hB1.cell]; rfl) ?_
    refine WL.qq (by simp only [ev_tmp, ev_const, ev_func, set_get, Nat.reduceEqDiff, reduceIte, qv_extract, List.getElem?_toArray, List.getElem?_cons_zero, List.getElem?_cons_succ, List.map_toArray, List.map_cons, List.map_nil, Option.map_some, Option.bind_some, e0, e1, e2, hB1.cell]; rfl) ?_
    refine WL.qq (by simp only [ev_tmp, ev_const, ev_func, set_get, Nat.reduceEqDiff, reduceIte, qv_extract, List.getElem?_toArray, List.getElem?_cons_zero, List.getElem?_cons_succ, List.map_toArray, List.map_cons, List.map_nil, Option.map_some, Option.bind_some, e0, e1, e2, hB1.cell]; rfl) ?_
    refine WL.qq (by simp only [ev_tmp, ev_const, ev_func, set_get, Nat.reduceEqDiff, reduceIte, qv_assign, e0, e1, e2, hB1.cell]; rfl) ?_
    refine WL.qq (by simp only [ev_tmp, ev_const, ev_func, set_get, Nat.reduceEqDiff, reduceIte, qv_assign, e0, e1, e2, hB1.cell]; rfl) ?_
    refine WL.nil ?_
    refine th_norm ?_
    refine hx_seq ?_
    refine hx_seq ?_
    refine hx_region ?_
    refine WL.qq (by simp only [ev_tmp, ev_const, ev_func, set_get, Nat.reduceEqDiff, reduceIte, qv_move, e0, e1, e2, hB1.cell]; rfl) ?_
    refine WL.qq (by simp only [ev_tmp, ev_const, ev_func, set_get, Nat.reduceEqDiff, reduceIte, qv_binOp, binv_neq, eq28, Option.map_some, e0, e1, e2, hB1.cell]; rfl) ?_
    refine WL.qq (by simp only [ev_tmp, ev_const, ev_func, set_get, Nat.reduceEqDiff, reduceIte, qv_move, e0, e1, e2, hB1.cell]; rfl) ?_
    refine WL.cq (gd_at (t := 50) rfl (by simp only [ev_tmp, ev_const, ev_func, set_get, Nat.reduceEqDiff, reduceIte, e0, e1, e2, hB1.cell]; rfl)) (fun hg4_3 => by simp only [ev_tmp, ev_const, ev_func, set_get, Nat.reduceEqDiff, reduceIte, qv_move, e0, e1, e2, hB1.cell, hg4_3, Bool.false_eq_true, Bool.true_eq_false, eq_self, if_true, if_false, true_and, and_true, false_and, and_false]; rfl) ?_
    refine WL.cq (gd_at (t := 50) rfl (by simp only [ev_tmp, ev_const, ev_func, set_get, Nat.reduceEqDiff, reduceIte, e0, e1, e2, hB1.cell]; rfl)) (fun hg4_4 => by simp only [ev_tmp, ev_const, ev_func, set_get, Nat.reduceEqDiff, reduceIte, qv_binOp, binv_eql, eqz27, eqn27, eqm27, Option.map_some, e0, e1, e2, hB1.cell, hg4_4, Bool.false_eq_true, Bool.true_eq_false, eq_self, if_true, if_false, true_and, and_true, false_and, and_false]; rfl) ?_
    refine WL.qq (by simp only [ev_tmp, ev_const, ev_func, set_get, Nat.reduceEqDiff, reduceIte, qv_pick, pk_and, pk_or, Bool.false_eq_true, Bool.true_eq_false, eq_self, if_true, if_false, true_and, and_true, false_and, and_false, e0, e1, e2, hB1.cell]; rfl) ?_
    refine WL.nil ?_
    refine th_norm ?_
    refine hx_cond (by simp only [ev_tmp, ev_const, ev_func, set_get, Nat.reduceEqDiff, reduceIte, e0, e1, e2, hB1.cell]; rfl) (fun hct53 => ?_) (fun hct53 => ?_)
    ·
      simp at hct53
    ·
      try simp only [decide_eq_true_eq, decide_eq_false_iff_not, Bool.and_eq_true, Bool.and_eq_false_iff, Bool.or_eq_true, Bool.or_eq_false_iff, Bool.not_eq_true', Bool.not_eq_false', Bool.not_eq_true, Bool.not_eq_false] at hct53
      refine hx_skip ?_
      refine th_norm ?_
      refine hx_seq ?_
      refine hx_region ?_
      refine WL.qq (by simp only [ev_tmp, ev_const, ev_func, set_get, Nat.reduceEqDiff, reduceIte, qv_move, e0, e1, e2, hB1.cell]; rfl) ?_
      refine WL.qq (by simp only [ev_tmp, ev_const, ev_func, set_get, Nat.reduceEqDiff, reduceIte, qv_move, e0, e1, e2, hB1.cell]; rfl) ?_
      refine WL.qq (by simp only [ev_tmp, ev_const, ev_func, set_get, Nat.reduceEqDiff, reduceIte, qv_move, e0, e1, e2, hB1.cell]; rfl) ?_
      refine WL.cg Try.call15 (by simp only [ev_tmp, ev_const, ev_func, set_get, Nat.reduceEqDiff, reduceIte, List.getElem?_toArray, List.getElem?_cons_zero, List.getElem?_cons_succ, List.map_toArray, List.map_cons, List.map_nil, Option.map_some, Option.bind_some, e0, e1, e2, hB1.cell]; exact pair_grow r1 (c_addBusiness p wk (srt hol) m n bn hc)) ?_
      intro h6 hx6
      replace hw := hw.ext hx6
      replace hh := hh.ext hx6
      replace hB1 := hB1.ext hx6
      replace hc := hc.ext hx6
      refine WL.qq (by simp only [ev_tmp, ev_const, ev_func, set_get, Nat.reduceEqDiff, reduceIte, qv_move, e0, e1, e2, hB1.cell]; rfl) ?_
      refine WL.qq (by simp only [ev_tmp, ev_const, ev_func, set_get, Nat.reduceEqDiff, reduceIte, qv_extract, List.getElem?_toArray, List.getElem?_cons_zero, List.getElem?_cons_succ, List.map_toArray, List.map_cons, List.map_nil, Option.map_some, Option.bind_some, e0, e1, e2, hB1.cell]; rfl) ?_
      refine WL.qq (by simp only [ev_tmp, ev_const, ev_func, set_get, Nat.reduceEqDiff, reduceIte, qv_extract, List.getElem?_toArray, List.getElem?_cons_zero, List.getElem?_cons_succ, List.map_toArray, List.map_cons, List.map_nil, Option.map_some, Option.bind_some, e0, e1, e2, hB1.cell]; rfl) ?_
      refine WL.qq (by simp only [ev_tmp, ev_const, ev_func, set_get, Nat.reduceEqDiff, reduceIte, qv_assign, e0, e1, e2, hB1.cell]; rfl) ?_
      refine WL.qq (by simp only [ev_tmp, ev_const, ev_func, set_get, Nat.reduceEqDiff, reduceIte, qv_assign, e0, e1, e2, hB1.cell]; rfl) ?_
      refine WL.nil ?_
      refine th_norm ?_
      refine hx_seq ?_
      refine hx_region ?_
      refine WL.qq (by simp only [ev_tmp, ev_const, ev_func, set_get, Nat.reduceEqDiff, reduceIte, qv_load, ld24, readN, List.getElem?_toArray, List.getElem?_cons_zero, List.getElem?_cons_succ, List.map_toArray, List.map_cons, List.map_nil, Option.map_some, Option.bind_some, Nat.zero_add, Nat.reduceAdd, e0, e1, e2, hB1.cell]; rfl) ?_
      refine WL.qq (by simp only [ev_tmp, ev_const, ev_func, set_get, Nat.reduceEqDiff, reduceIte, qv_move, e0, e1, e2, hB1.cell]; rfl) ?_
      refine WL.qq (by simp only [ev_tmp, ev_const, ev_func, set_get, Nat.reduceEqDiff, reduceIte, qv_move, e0, e1, e2, hB1.cell]; rfl) ?_
      refine WL.cg Try.call16 (by simp only [ev_tmp, ev_const, ev_func, set_get, Nat.reduceEqDiff, reduceIte, List.getElem?_toArray, List.getElem?_cons_zero, List.getElem?_cons_succ, List.map_toArray, List.map_cons, List.map_nil, Option.map_some, Option.bind_some, e0, e1, e2, hB1.cell]; exact pair_grow s1 (c_radd wk hol _ _ _ _ m n hw hh lw lh)) ?_
      intro h7 hx7
      replace hw := hw.ext hx7
      replace hh := hh.ext hx7
      replace hB1 := hB1.ext hx7
      replace hc := hc.ext hx7
      refine WL.qq (by simp only [ev_tmp, ev_const, ev_func, set_get, Nat.reduceEqDiff, reduceIte, qv_move, e0, e1, e2, hB1.cell]; rfl) ?_
      refine WL.qq (by simp only [ev_tmp, ev_const, ev_func, set_get, Nat.reduceEqDiff, reduceIte, qv_extract, List.getElem?_toArray, List.getElem?_cons_zero, List.getElem?_cons_succ, List.map_toArray, List.map_cons, List.map_nil, Option.map_some, Option.bind_some, e0, e1, e2, hB1.cell]; rfl) ?_
      refine WL.qq (by simp only [ev_tmp, ev_const, ev_func, set_get, Nat.reduceEqDiff, reduceIte, qv_extract, List.getElem?_toArray, List.getElem?_cons_zero, List.getElem?_cons_succ, List.map_toArray, List.map_cons, List.map_nil, Option.map_some, Option.bind_some, e0, e1, e2, hB1.cell]; rfl) ?_
      refine WL.qq (by simp only [ev_tmp, ev_const, ev_func, set_get, Nat.reduceEqDiff, reduceIte, qv_assign, e0, e1, e2, hB1.cell]; rfl) ?_
      refine WL.qq (by simp only [ev_tmp, ev_const, ev_func, set_get, Nat.reduceEqDiff, reduceIte, qv_assign, e0, e1, e2, hB1.cell]; rfl) ?_
      refine WL.nil ?_
      refine th_norm ?_
      refine hx_seq ?_
      refine hx_region ?_
      refine WL.qq (by simp only [ev_tmp, ev_const, ev_func, set_get, Nat.reduceEqDiff, reduceIte, qv_move, e0, e1, e2, hB1.cell]; rfl) ?_
      refine WL.qq (by simp only [ev_tmp, ev_const, ev_func, set_get, Nat.reduceEqDiff, reduceIte, qv_move, e0, e1, e2, hB1.cell]; rfl) ?_
      refine WL.qq (by simp only [ev_tmp, ev_const, ev_func, set_get, Nat.reduceEqDiff, reduceIte, qv_binOp, binv_eql, eq3, Option.map_some, e0, e1, e2, hB1.cell]; rfl) ?_
      refine WL.qq (by simp only [ev_tmp, ev_const, ev_func, set_get, Nat.reduceEqDiff, reduceIte, qv_move, e0, e1, e2, hB1.cell]; rfl) ?_
      refine WL.cq (gd_at (t := 71) rfl (by simp only [ev_tmp, ev_const, ev_func, set_get, Nat.reduceEqDiff, reduceIte, e0, e1, e2, hB1.cell]; rfl)) (fun hg8_4 => by simp only [ev_tmp, ev_const, ev_func, set_get, Nat.reduceEqDiff, reduceIte, qv_move, e0, e1, e2, hB1.cell, hg8_4, Bool.false_eq_true, Bool.true_eq_false, eq_self, if_true, if_false, true_and, and_true, false_and, and_false]; rfl) ?_
      refine WL.cq (gd_at (t := 71) rfl (by simp only [ev_tmp, ev_const, ev_func, set_get, Nat.reduceEqDiff, reduceIte, e0, e1, e2, hB1.cell]; rfl)) (fun hg8_5 => by simp only [ev_tmp, ev_const, ev_func, set_get, Nat.reduceEqDiff, reduceIte, qv_move, e0, e1, e2, hB1.cell, hg8_5, Bool.false_eq_true, Bool.true_eq_false, eq_self, if_true, if_false, true_and, and_true, false_and, and_false]; rfl) ?_
      refine WL.cq (gd_at (t := 71) rfl (by simp only [ev_tmp, ev_const, ev_func, set_get, Nat.reduceEqDiff, reduceIte, e0, e1, e2, hB1.cell]; rfl)) (fun hg8_6 => by simp only [ev_tmp, ev_const, ev_func, set_get, Nat.reduceEqDiff, reduceIte, qv_binOp, binv_eql, eq3, Option.map_some, e0, e1, e2, hB1.cell, hg8_6, Bool.false_eq_true, Bool.true_eq_false, eq_self, if_true, if_false, true_and, and_true, false_and, and_false]; rfl) ?_
      refine WL.qq (by simp only [ev_tmp, ev_const, ev_func, set_get, Nat.reduceEqDiff, reduceIte, qv_pick, pk_and, pk_or, Bool.false_eq_true, Bool.true_eq_false, eq_self, if_true, if_false, true_and, and_true, false_and, and_false, e0, e1, e2, hB1.cell]; rfl) ?_
      refine WL.qq (by simp only [ev_tmp, ev_const, ev_func, set_get, Nat.reduceEqDiff, reduceIte, qv_assign, e0, e1, e2, hB1.cell]; rfl) ?_
      refine WL.nil ?_
      refine th_norm ?_
      refine hx_ret ?_
      refine fin_ret [.tmp 6] rfl rfl (by simp only [ev_tmp, ev_const, ev_func, set_get, Nat.reduceEqDiff, reduceIte, resv, e0, e1, e2, hB1.cell]; rfl) ?_  -- ret 1 r8
      exact ⟨by simp [retOf], ((hx1).trans ((hx2).trans ((hx3).trans ((hx5).trans ((hx6).trans (hx7))))))⟩
end GL


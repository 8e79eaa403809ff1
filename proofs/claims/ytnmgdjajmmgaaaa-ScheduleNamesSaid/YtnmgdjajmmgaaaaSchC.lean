/- Schedule: the reference's Check and Valid; comparing points in time; Default. -/
import Derived.Test.YtnmgdjajmmgaaaaSchB
set_option linter.unusedSimpArgs false
set_option linter.unusedVariables false
set_option linter.unnecessarySimpa false
namespace GL
open Go Go.Proofs
set_option maxRecDepth 8000
theorem c_rclock (d m : Int) (h : Heap) : HCalls Try.prog 39 #[.agg #[.int .i64 d, .int .i64 m]] h (Grow (.bool (clockOk (d, m))) h) := by
  refine hcalls2 Try.func39 rfl (by decide +kernel) (by simp only [Try.ntmps39]; exact of_decide_eq_true rfl) ?_
  intro e hin
  have e0 := hin 0 _ rfl
  refine hx_seq ?_
  refine hx_region ?_
  refine WL.box2 (by simp only [ev_tmp, ev_const, ev_func, set_get, Nat.reduceEqDiff, reduceIte, Value.cells, e0]; rfl) ?_
  intro h1 B1 hx1 hlt1 hB1
  refine WL.qq (by simp only [ev_tmp, ev_const, ev_func, set_get, Nat.reduceEqDiff, reduceIte, qv_assign, e0, hB1.cell]; rfl) ?_
  refine WL.nil ?_
  refine th_norm ?_
  refine hx_seq ?_
  refine hx_region ?_
  refine WL.qq (by simp only [ev_tmp, ev_const, ev_func, set_get, Nat.reduceEqDiff, reduceIte, qv_fieldAddr, fa41_0, Nat.zero_add, Nat.reduceAdd, e0, hB1.cell]; rfl) ?_
  refine WL.qq (by simp only [ev_tmp, ev_const, ev_func, set_get, Nat.reduceEqDiff, reduceIte, qv_load, ld3, readN, List.getElem?_toArray, List.getElem?_cons_zero, List.getElem?_cons_succ, List.map_toArray, List.map_cons, List.map_nil, Option.map_some, Option.bind_some, Nat.zero_add, Nat.reduceAdd, e0, hB1.cell]; rfl) ?_
  refine WL.qq (by simp only [ev_tmp, ev_const, ev_func, set_get, Nat.reduceEqDiff, reduceIte, qv_binOp, binv_geq, e0, hB1.cell]; rfl) ?_
  refine WL.qq (by simp only [ev_tmp, ev_const, ev_func, set_get, Nat.reduceEqDiff, reduceIte, qv_move, e0, hB1.cell]; rfl) ?_
  refine WL.cq (gd_at (t := 6) rfl (by simp only [ev_tmp, ev_const, ev_func, set_get, Nat.reduceEqDiff, reduceIte, e0, hB1.cell]; rfl)) (fun hg1_4 => by simp only [ev_tmp, ev_const, ev_func, set_get, Nat.reduceEqDiff, reduceIte, qv_fieldAddr, fa41_0, Nat.zero_add, Nat.reduceAdd, e0, hB1.cell, hg1_4, Bool.false_eq_true, Bool.true_eq_false, eq_self, if_true, if_false, true_and, and_true, false_and, and_false]; rfl) ?_
  refine WL.cq (gd_at (t := 6) rfl (by simp only [ev_tmp, ev_const, ev_func, set_get, Nat.reduceEqDiff, reduceIte, e0, hB1.cell]; rfl)) (fun hg1_5 => by simp only [ev_tmp, ev_const, ev_func, set_get, Nat.reduceEqDiff, reduceIte, qv_load, ld3, readN, List.getElem?_toArray, List.getElem?_cons_zero, List.getElem?_cons_succ, List.map_toArray, List.map_cons, List.map_nil, Option.map_some, Option.bind_some, Nat.zero_add, Nat.reduceAdd, e0, hB1.cell, hg1_5, Bool.false_eq_true, Bool.true_eq_false, eq_self, if_true, if_false, true_and, and_true, false_and, and_false]; rfl) ?_
  refine WL.cq (gd_at (t := 6) rfl (by simp only [ev_tmp, ev_const, ev_func, set_get, Nat.reduceEqDiff, reduceIte, e0, hB1.cell]; rfl)) (fun hg1_6 => by simp only [ev_tmp, ev_const, ev_func, set_get, Nat.reduceEqDiff, reduceIte, qv_binOp, binv_leq, e0, hB1.cell, hg1_6, Bool.false_eq_true, Bool.true_eq_false, eq_self, if_true, if_false, true_and, and_true, false_and, and_false]; rfl) ?_
  refine WL.qq (by simp only [ev_tmp, ev_const, ev_func, set_get, Nat.reduceEqDiff, reduceIte, qv_pick, pk_and, pk_or, Bool.false_eq_true, Bool.true_eq_false, eq_self, if_true, if_false, true_and, and_true, false_and, and_false, e0, hB1.cell]; rfl) ?_
  refine WL.qq (by simp only [ev_tmp, ev_const, ev_func, set_get, Nat.reduceEqDiff, reduceIte, qv_move, e0, hB1.cell]; rfl) ?_
  refine WL.cq (gd_at (t := 11) rfl (by simp only [ev_tmp, ev_const, ev_func, set_get, Nat.reduceEqDiff, reduceIte, e0, hB1.cell]; rfl)) (fun hg1_9 => by simp only [ev_tmp, ev_const, ev_func, set_get, Nat.reduceEqDiff, reduceIte, qv_fieldAddr, fa41_1, Nat.zero_add, Nat.reduceAdd, e0, hB1.cell, hg1_9, Bool.false_eq_true, Bool.true_eq_false, eq_self, if_true, if_false, true_and, and_true, false_and, and_false]; rfl) ?_
  refine WL.cq (gd_at (t := 11) rfl (by simp only [ev_tmp, ev_const, ev_func, set_get, Nat.reduceEqDiff, reduceIte, e0, hB1.cell]; rfl)) (fun hg1_10 => by simp only [ev_tmp, ev_const, ev_func, set_get, Nat.reduceEqDiff, reduceIte, qv_load, ld3, readN, List.getElem?_toArray, List.getElem?_cons_zero, List.getElem?_cons_succ, List.map_toArray, List.map_cons, List.map_nil, Option.map_some, Option.bind_some, Nat.zero_add, Nat.reduceAdd, e0, hB1.cell, hg1_10, Bool.false_eq_true, Bool.true_eq_false, eq_self, if_true, if_false, true_and, and_true, false_and, and_false]; rfl) ?_
  refine WL.cq (gd_at (t := 11) rfl (by simp only [ev_tmp, ev_const, ev_func, set_get, Nat.reduceEqDiff, reduceIte, e0, hB1.cell]; rfl)) (fun hg1_11 => by simp only [ev_tmp, ev_const, ev_func, set_get, Nat.reduceEqDiff, reduceIte, qv_binOp, binv_geq, e0, hB1.cell, hg1_11, Bool.false_eq_true, Bool.true_eq_false, eq_self, if_true, if_false, true_and, and_true, false_and, and_false]; rfl) ?_
  refine WL.qq (by simp only [ev_tmp, ev_const, ev_func, set_get, Nat.reduceEqDiff, reduceIte, qv_pick, pk_and, pk_or, Bool.false_eq_true, Bool.true_eq_false, eq_self, if_true, if_false, true_and, and_true, false_and, and_false, e0, hB1.cell]; rfl) ?_
  refine WL.qq (by simp only [ev_tmp, ev_const, ev_func, set_get, Nat.reduceEqDiff, reduceIte, qv_move, e0, hB1.cell]; rfl) ?_
  refine WL.cq (gd_at (t := 16) rfl (by simp only [ev_tmp, ev_const, ev_func, set_get, Nat.reduceEqDiff, reduceIte, e0, hB1.cell]; rfl)) (fun hg1_14 => by simp only [ev_tmp, ev_const, ev_func, set_get, Nat.reduceEqDiff, reduceIte, qv_fieldAddr, fa41_1, Nat.zero_add, Nat.reduceAdd, e0, hB1.cell, hg1_14, Bool.false_eq_true, Bool.true_eq_false, eq_self, if_true, if_false, true_and, and_true, false_and, and_false]; rfl) ?_
  refine WL.cq (gd_at (t := 16) rfl (by simp only [ev_tmp, ev_const, ev_func, set_get, Nat.reduceEqDiff, reduceIte, e0, hB1.cell]; rfl)) (fun hg1_15 => by simp only [ev_tmp, ev_const, ev_func, set_get, Nat.reduceEqDiff, reduceIte, qv_load, ld3, readN, List.getElem?_toArray, List.getElem?_cons_zero, List.getElem?_cons_succ, List.map_toArray, List.map_cons, List.map_nil, Option.map_some, Option.bind_some, Nat.zero_add, Nat.reduceAdd, e0, hB1.cell, hg1_15, Bool.false_eq_true, Bool.true_eq_false, eq_self, if_true, if_false, true_and, and_true, false_and, and_false]; rfl) ?_
  refine WL.cq (gd_at (t := 16) rfl (by simp only [ev_tmp, ev_const, ev_func, set_get, Nat.reduceEqDiff, reduceIte, e0, hB1.cell]; rfl)) (fun hg1_16 => by simp only [ev_tmp, ev_const, ev_func, set_get, Nat.reduceEqDiff, reduceIte, qv_binOp, binv_leq, e0, hB1.cell, hg1_16, Bool.false_eq_true, Bool.true_eq_false, eq_self, if_true, if_false, true_and, and_true, false_and, and_false]; rfl) ?_
  refine WL.qq (by simp only [ev_tmp, ev_const, ev_func, set_get, Nat.reduceEqDiff, reduceIte, qv_pick, pk_and, pk_or, Bool.false_eq_true, Bool.true_eq_false, eq_self, if_true, if_false, true_and, and_true, false_and, and_false, e0, hB1.cell]; rfl) ?_
  refine WL.qq (by simp only [ev_tmp, ev_const, ev_func, set_get, Nat.reduceEqDiff, reduceIte, qv_assign, e0, hB1.cell]; rfl) ?_
  refine WL.nil ?_
  refine th_norm ?_
  refine hx_ret ?_
  refine fin_ret [.tmp 2] rfl rfl (by simp only [ev_tmp, ev_const, ev_func, set_get, Nat.reduceEqDiff, reduceIte, resv, e0, hB1.cell]; rfl) ?_  -- ret 0 r1
  exact ⟨by simp only [clockOk, validM]; by_cases q1 : 0 ≤ d <;> by_cases q2 : d ≤ 73048 <;> by_cases q3 : 0 ≤ m <;> by_cases q4 : m ≤ 1439 <;> simp [retOf, q1, q2, q3, q4], (hx1)⟩
def cmpC (a b : Int × Int) : Int := if a.1 < b.1 ∨ (a.1 = b.1 ∧ a.2 < b.2) then -1 else if a.1 = b.1 ∧ a.2 = b.2 then 0 else 1
theorem c_cmp (d m d' m' : Int) (h : Heap) : HCalls Try.prog 44 #[.agg #[.int .i64 d, .int .i64 m], .agg #[.int .i64 d', .int .i64 m']] h (Grow (.int .i64 (cmpC (d, m) (d', m'))) h) := by
  refine hcalls2 Try.func44 rfl (by decide +kernel) (by simp only [Try.ntmps44]; exact of_decide_eq_true rfl) ?_
  intro e hin
  have e0 := hin 0 _ rfl
  have e1 := hin 1 _ rfl
  refine hx_seq ?_
  refine hx_region ?_
  refine WL.box2 (by simp only [ev_tmp, ev_const, ev_func, set_get, Nat.reduceEqDiff, reduceIte, Value.cells, e0, e1]; rfl) ?_
  intro h1 B1 hx1 hlt1 hB1
  refine WL.box2 (by simp only [ev_tmp, ev_const, ev_func, set_get, Nat.reduceEqDiff, reduceIte, Value.cells, e0, e1, hB1.cell]; rfl) ?_
  intro h2 B2 hx2 hlt2 hB2
  replace hB1 := hB1.ext hx2
  refine WL.qq (by simp only [ev_tmp, ev_const, ev_func, set_get, Nat.reduceEqDiff, reduceIte, qv_assign, e0, e1, hB1.cell, hB2.cell]; rfl) ?_
  refine WL.nil ?_
  refine th_norm ?_
  refine hx_seq ?_
  refine hx_block ?_
  refine hx_seq ?_
  refine hx_region ?_
  refine WL.qq (by simp only [ev_tmp, ev_const, ev_func, set_get, Nat.reduceEqDiff, reduceIte, qv_fieldAddr, fa29_0, Nat.zero_add, Nat.reduceAdd, e0, e1, hB1.cell, hB2.cell]; rfl) ?_
  refine WL.qq (by simp only [ev_tmp, ev_const, ev_func, set_get, Nat.reduceEqDiff, reduceIte, qv_load, ld3, readN, List.getElem?_toArray, List.getElem?_cons_zero, List.getElem?_cons_succ, List.map_toArray, List.map_cons, List.map_nil, Option.map_some, Option.bind_some, Nat.zero_add, Nat.reduceAdd, e0, e1, hB1.cell, hB2.cell]; rfl) ?_
  refine WL.qq (by simp only [ev_tmp, ev_const, ev_func, set_get, Nat.reduceEqDiff, reduceIte, qv_fieldAddr, fa29_0, Nat.zero_add, Nat.reduceAdd, e0, e1, hB1.cell, hB2.cell]; rfl) ?_
  refine WL.qq (by simp only [ev_tmp, ev_const, ev_func, set_get, Nat.reduceEqDiff, reduceIte, qv_load, ld3, readN, List.getElem?_toArray, List.getElem?_cons_zero, List.getElem?_cons_succ, List.map_toArray, List.map_cons, List.map_nil, Option.map_some, Option.bind_some, Nat.zero_add, Nat.reduceAdd, e0, e1, hB1.cell, hB2.cell]; rfl) ?_
  refine WL.qq (by simp only [ev_tmp, ev_const, ev_func, set_get, Nat.reduceEqDiff, reduceIte, qv_binOp, binv_lss, e0, e1, hB1.cell, hB2.cell]; rfl) ?_
  refine WL.qq (by simp only [ev_tmp, ev_const, ev_func, set_get, Nat.reduceEqDiff, reduceIte, qv_move, e0, e1, hB1.cell, hB2.cell]; rfl) ?_
  refine WL.cq (gd_at (t := 11) rfl (by simp only [ev_tmp, ev_const, ev_func, set_get, Nat.reduceEqDiff, reduceIte, e0, e1, hB1.cell, hB2.cell]; rfl)) (fun hg1_6 => by simp only [ev_tmp, ev_const, ev_func, set_get, Nat.reduceEqDiff, reduceIte, qv_fieldAddr, fa29_0, Nat.zero_add, Nat.reduceAdd, e0, e1, hB1.cell, hB2.cell, hg1_6, Bool.false_eq_true, Bool.true_eq_false, eq_self, if_true, if_false, true_and, and_true, false_and, and_false]; rfl) ?_
  refine WL.cq (gd_at (t := 11) rfl (by simp only [ev_tmp, ev_const, ev_func, set_get, Nat.reduceEqDiff, reduceIte, e0, e1, hB1.cell, hB2.cell]; rfl)) (fun hg1_7 => by simp only [ev_tmp, ev_const, ev_func, set_get, Nat.reduceEqDiff, reduceIte, qv_load, ld3, readN, List.getElem?_toArray, List.getElem?_cons_zero, List.getElem?_cons_succ, List.map_toArray, List.map_cons, List.map_nil, Option.map_some, Option.bind_some, Nat.zero_add, Nat.reduceAdd, e0, e1, hB1.cell, hB2.cell, hg1_7, Bool.false_eq_true, Bool.true_eq_false, eq_self, if_true, if_false, true_and, and_true, false_and, and_false]; rfl) ?_
  refine WL.cq (gd_at (t := 11) rfl (by simp only [ev_tmp, ev_const, ev_func, set_get, Nat.reduceEqDiff, reduceIte, e0, e1, hB1.cell, hB2.cell]; rfl)) (fun hg1_8 => by simp only [ev_tmp, ev_const, ev_func, set_get, Nat.reduceEqDiff, reduceIte, qv_fieldAddr, fa29_0, Nat.zero_add, Nat.reduceAdd, e0, e1, hB1.cell, hB2.cell, hg1_8, Bool.false_eq_true, Bool.true_eq_false, eq_self, if_true, if_false, true_and, and_true, false_and, and_false]; rfl) ?_
  refine WL.cq (gd_at (t := 11) rfl (by simp only [ev_tmp, ev_const, ev_func, set_get, Nat.reduceEqDiff, reduceIte, e0, e1, hB1.cell, hB2.cell]; rfl)) (fun hg1_9 => by simp only [ev_tmp, ev_const, ev_func, set_get, Nat.reduceEqDiff, reduceIte, qv_load, ld3, readN, List.getElem?_toArray, List.getElem?_cons_zero, List.getElem?_cons_succ, List.map_toArray, List.map_cons, List.map_nil, Option.map_some, Option.bind_some, Nat.zero_add, Nat.reduceAdd, e0, e1, hB1.cell, hB2.cell, hg1_9, Bool.false_eq_true, Bool.true_eq_false, eq_self, if_true, if_false, true_and, and_true, false_and, and_false]; rfl) ?_
  refine WL.cq (gd_at (t := 11) rfl (by simp only [ev_tmp, ev_const, ev_func, set_get, Nat.reduceEqDiff, reduceIte, e0, e1, hB1.cell, hB2.cell]; rfl)) (fun hg1_10 => by simp only [ev_tmp, ev_const, ev_func, set_get, Nat.reduceEqDiff, reduceIte, qv_binOp, binv_eql, eq3, Option.map_some, e0, e1, hB1.cell, hB2.cell, hg1_10, Bool.false_eq_true, Bool.true_eq_false, eq_self, if_true, if_false, true_and, and_true, false_and, and_false]; rfl) ?_
  refine WL.cq (gd_at (t := 11) rfl (by simp only [ev_tmp, ev_const, ev_func, set_get, Nat.reduceEqDiff, reduceIte, e0, e1, hB1.cell, hB2.cell]; rfl)) (fun hg1_11 => by simp only [ev_tmp, ev_const, ev_func, set_get, Nat.reduceEqDiff, reduceIte, qv_move, e0, e1, hB1.cell, hB2.cell, hg1_11, Bool.false_eq_true, Bool.true_eq_false, eq_self, if_true, if_false, true_and, and_true, false_and, and_false]; rfl) ?_
  refine WL.cq2 (t := 17) rfl (by simp only [ev_tmp, ev_const, ev_func, set_get, Nat.reduceEqDiff, reduceIte, e0, e1, hB1.cell, hB2.cell]; rfl) (fun hC1_12 hg1_12 => by simp only [ev_tmp, ev_const, ev_func, set_get, Nat.reduceEqDiff, reduceIte, qv_fieldAddr, fa29_1, Nat.zero_add, Nat.reduceAdd, e0, e1, hB1.cell, hB2.cell, hC1_12, hg1_12, Bool.false_eq_true, Bool.true_eq_false, eq_self, if_true, if_false, true_and, and_true, false_and, and_false]; rfl) ?_
  refine WL.cq2 (t := 17) rfl (by simp only [ev_tmp, ev_const, ev_func, set_get, Nat.reduceEqDiff, reduceIte, e0, e1, hB1.cell, hB2.cell]; rfl) (fun hC1_13 hg1_13 => by simp only [ev_tmp, ev_const, ev_func, set_get, Nat.reduceEqDiff, reduceIte, qv_load, ld3, readN, List.getElem?_toArray, List.getElem?_cons_zero, List.getElem?_cons_succ, List.map_toArray, List.map_cons, List.map_nil, Option.map_some, Option.bind_some, Nat.zero_add, Nat.reduceAdd, e0, e1, hB1.cell, hB2.cell, hC1_13, hg1_13, Bool.false_eq_true, Bool.true_eq_false, eq_self, if_true, if_false, true_and, and_true, false_and, and_false]; rfl) ?_
  refine WL.cq2 (t := 17) rfl (by simp only [ev_tmp, ev_const, ev_func, set_get, Nat.reduceEqDiff, reduceIte, e0, e1, hB1.cell, hB2.cell]; rfl) (fun hC1_14 hg1_14 => by simp only [ev_tmp, ev_const, ev_func, set_get, Nat.reduceEqDiff, reduceIte, qv_fieldAddr, fa29_1, Nat.zero_add, Nat.reduceAdd, e0, e1, hB1.cell, hB2.cell, hC1_14, hg1_14, Bool.false_eq_true, Bool.true_eq_false, eq_self, if_true, if_false, true_and, and_true, false_and, and_false]; rfl) ?_
  refine WL.cq2 (t := 17) rfl (by simp only [ev_tmp, ev_const, ev_func, set_get, Nat.reduceEqDiff, reduceIte, e0, e1, hB1.cell, hB2.cell]; rfl) (fun hC1_15 hg1_15 => by simp only [ev_tmp, ev_const, ev_func, set_get, Nat.reduceEqDiff, reduceIte, qv_load, ld3, readN, List.getElem?_toArray, List.getElem?_cons_zero, List.getElem?_cons_succ, List.map_toArray, List.map_cons, List.map_nil, Option.map_some, Option.bind_some, Nat.zero_add, Nat.reduceAdd, e0, e1, hB1.cell, hB2.cell, hC1_15, hg1_15, Bool.false_eq_true, Bool.true_eq_false, eq_self, if_true, if_false, true_and, and_true, false_and, and_false]; rfl) ?_
  refine WL.cq2 (t := 17) rfl (by simp only [ev_tmp, ev_const, ev_func, set_get, Nat.reduceEqDiff, reduceIte, e0, e1, hB1.cell, hB2.cell]; rfl) (fun hC1_16 hg1_16 => by simp only [ev_tmp, ev_const, ev_func, set_get, Nat.reduceEqDiff, reduceIte, qv_binOp, binv_lss, e0, e1, hB1.cell, hB2.cell, hC1_16, hg1_16, Bool.false_eq_true, Bool.true_eq_false, eq_self, if_true, if_false, true_and, and_true, false_and, and_false]; rfl) ?_
  refine WL.cq (gd_at (t := 11) rfl (by simp only [ev_tmp, ev_const, ev_func, set_get, Nat.reduceEqDiff, reduceIte, e0, e1, hB1.cell, hB2.cell]; rfl)) (fun hg1_17 => by simp only [ev_tmp, ev_const, ev_func, set_get, Nat.reduceEqDiff, reduceIte, qv_pick, pk_and, pk_or, Bool.false_eq_true, Bool.true_eq_false, eq_self, if_true, if_false, true_and, and_true, false_and, and_false, e0, e1, hB1.cell, hB2.cell, hg1_17, Bool.false_eq_true, Bool.true_eq_false, eq_self, if_true, if_false, true_and, and_true, false_and, and_false]; rfl) ?_
  refine WL.qq (by simp only [ev_tmp, ev_const, ev_func, set_get, Nat.reduceEqDiff, reduceIte, qv_pick, pk_and, pk_or, Bool.false_eq_true, Bool.true_eq_false, eq_self, if_true, if_false, true_and, and_true, false_and, and_false, e0, e1, hB1.cell, hB2.cell]; rfl) ?_
  refine WL.qq (by simp only [ev_tmp, ev_const, ev_func, set_get, Nat.reduceEqDiff, reduceIte, qv_assign, e0, e1, hB1.cell, hB2.cell]; rfl) ?_
  refine WL.nil ?_
  refine th_norm ?_
  refine hx_cond (by simp only [ev_tmp, ev_const, ev_func, set_get, Nat.reduceEqDiff, reduceIte, e0, e1, hB1.cell, hB2.cell]; rfl) (fun hct5 => ?_) (fun hct5 => ?_)
  ·
    try simp only [decide_eq_true_eq, decide_eq_false_iff_not, Bool.and_eq_true, Bool.and_eq_false_iff, Bool.or_eq_true, Bool.or_eq_false_iff, Bool.not_eq_true', Bool.not_eq_false', Bool.not_eq_true, Bool.not_eq_false] at hct5
    refine hx_seq ?_
    refine hx_region ?_
    refine WL.qq (by simp only [ev_tmp, ev_const, ev_func, set_get, Nat.reduceEqDiff, reduceIte, qv_assign, e0, e1, hB1.cell, hB2.cell]; rfl) ?_
    refine WL.nil ?_
    refine th_norm ?_
    refine hx_ret ?_
    refine bl_ret ?_
    refine th_ret ?_
    refine fin_ret [.tmp 4] rfl rfl (by simp only [ev_tmp, ev_const, ev_func, set_get, Nat.reduceEqDiff, reduceIte, resv, e0, e1, hB1.cell, hB2.cell]; rfl) ?_  -- ret 0 r2
    exact ⟨by simp only [cmpC]; rw [if_pos (by omega)]; rfl, ((hx1).trans (hx2))⟩
  ·
    try simp only [decide_eq_true_eq, decide_eq_false_iff_not, Bool.and_eq_true, Bool.and_eq_false_iff, Bool.or_eq_true, Bool.or_eq_false_iff, Bool.not_eq_true', Bool.not_eq_false', Bool.not_eq_true, Bool.not_eq_false] at hct5
    refine hx_seq ?_
    refine hx_region ?_
    refine WL.qq (by simp only [ev_tmp, ev_const, ev_func, set_get, Nat.reduceEqDiff, reduceIte, qv_load, ld29, readN, List.getElem?_toArray, List.getElem?_cons_zero, List.getElem?_cons_succ, List.map_toArray, List.map_cons, List.map_nil, Option.map_some, Option.bind_some, Nat.zero_add, Nat.reduceAdd, e0, e1, hB1.cell, hB2.cell]; rfl) ?_
    refine WL.qq (by simp only [ev_tmp, ev_const, ev_func, set_get, Nat.reduceEqDiff, reduceIte, qv_load, ld29, readN, List.getElem?_toArray, List.getElem?_cons_zero, List.getElem?_cons_succ, List.map_toArray, List.map_cons, List.map_nil, Option.map_some, Option.bind_some, Nat.zero_add, Nat.reduceAdd, e0, e1, hB1.cell, hB2.cell]; rfl) ?_
    refine WL.qq (by simp only [ev_tmp, ev_const, ev_func, set_get, Nat.reduceEqDiff, reduceIte, qv_binOp, binv_eql, eqs29, Option.map_some, e0, e1, hB1.cell, hB2.cell]; rfl) ?_
    refine WL.qq (by simp only [ev_tmp, ev_const, ev_func, set_get, Nat.reduceEqDiff, reduceIte, qv_assign, e0, e1, hB1.cell, hB2.cell]; rfl) ?_
    refine WL.nil ?_
    refine th_norm ?_
    refine hx_cond (by simp only [ev_tmp, ev_const, ev_func, set_get, Nat.reduceEqDiff, reduceIte, e0, e1, hB1.cell, hB2.cell]; rfl) (fun hct25 => ?_) (fun hct25 => ?_)
    ·
      try simp only [decide_eq_true_eq, decide_eq_false_iff_not, Bool.and_eq_true, Bool.and_eq_false_iff, Bool.or_eq_true, Bool.or_eq_false_iff, Bool.not_eq_true', Bool.not_eq_false', Bool.not_eq_true, Bool.not_eq_false] at hct25
      simp at hct25
      refine hx_seq ?_
      refine hx_region ?_
      refine WL.qq (by simp only [ev_tmp, ev_const, ev_func, set_get, Nat.reduceEqDiff, reduceIte, qv_assign, e0, e1, hB1.cell, hB2.cell]; rfl) ?_
      refine WL.nil ?_
      refine th_norm ?_
      refine hx_ret ?_
      refine bl_ret ?_
      refine th_ret ?_
      refine fin_ret [.tmp 4] rfl rfl (by simp only [ev_tmp, ev_const, ev_func, set_get, Nat.reduceEqDiff, reduceIte, resv, e0, e1, hB1.cell, hB2.cell]; rfl) ?_  -- ret 1 r4
      exact ⟨by simp only [cmpC]; rw [if_neg (by omega), if_pos (by omega)]; rfl, ((hx1).trans (hx2))⟩
    ·
      try simp only [decide_eq_true_eq, decide_eq_false_iff_not, Bool.and_eq_true, Bool.and_eq_false_iff, Bool.or_eq_true, Bool.or_eq_false_iff, Bool.not_eq_true', Bool.not_eq_false', Bool.not_eq_true, Bool.not_eq_false] at hct25
      simp at hct25
      refine hx_skip ?_
      refine bl_norm ?_
      refine th_norm ?_
      refine hx_seq ?_
      refine hx_region ?_
      refine WL.qq (by simp only [ev_tmp, ev_const, ev_func, set_get, Nat.reduceEqDiff, reduceIte, qv_assign, e0, e1, hB1.cell, hB2.cell]; rfl) ?_
      refine WL.nil ?_
      refine th_norm ?_
      refine hx_ret ?_
      refine fin_ret [.tmp 4] rfl rfl (by simp only [ev_tmp, ev_const, ev_func, set_get, Nat.reduceEqDiff, reduceIte, resv, e0, e1, hB1.cell, hB2.cell]; rfl) ?_  -- ret 2 r5
      exact ⟨by simp only [cmpC]; rw [if_neg (by omega), if_neg (by omega)]; rfl, ((hx1).trans (hx2))⟩
theorem c_default (h : Heap) : HCalls Try.prog 36 #[] h (Grow (sch 150 300 420 960 1020 1080) h) := by
  refine hcalls2 Try.func36 rfl (by decide +kernel) (by simp only [Try.ntmps36]; exact of_decide_eq_true rfl) ?_
  intro e hin
  have hE : Ext h h := Ext.refl h
  refine hx_seq ?_
  refine hx_region ?_
  refine WL.alloc2 zr24 ?_
  intro h1 B1 hx1 hlt1 hB1
  have hb0_1 := Nat.le_trans hE.size hlt1
  replace hE := hE.trans hx1
  have hEo1 := hx1
  simp only [Value.cells] at hB1
  refine WL.nil ?_
  refine th_norm ?_
  refine hx_seq ?_
  refine hx_region ?_
  refine WL.qq (by refine qv_bld (by simp only [ev_tmp, ev_const, ev_func, set_get, Nat.reduceEqDiff, reduceIte, List.getElem?_toArray, List.getElem?_cons_zero, List.getElem?_cons_succ, List.map_toArray, List.map_cons, List.map_nil, Option.map_some, Option.bind_some, hB1.cell] <;> rfl) (by rw [bl22]; simp [Instr.fill, Value.cells]; rfl)) ?_
  refine WL.qq (by refine qv_bld (by simp only [ev_tmp, ev_const, ev_func, set_get, Nat.reduceEqDiff, reduceIte, List.getElem?_toArray, List.getElem?_cons_zero, List.getElem?_cons_succ, List.map_toArray, List.map_cons, List.map_nil, Option.map_some, Option.bind_some, hB1.cell] <;> rfl) (by rw [bl24]; simp [Instr.fill, Value.cells]; rfl)) ?_
  refine WL.store (by simp only [ev_tmp, ev_const, ev_func, set_get, Nat.reduceEqDiff, reduceIte, hB1.cell] <;> rfl) sz24 (by simp only [ev_tmp, ev_const, ev_func, set_get, Nat.reduceEqDiff, reduceIte, Value.cells, hB1.cell] <;> rfl) rfl hB1 (by first | decide | (simp; done) | (simp; omega)) (by simp [Value.oneCell']) ?_
  intro h2 hw2
  replace hE := hw2.ext hE hb0_1
  replace hEo1 := hw2.ext hEo1 hlt1
  replace hB1 := hw2.at_
  try simp only [splc, List.take_succ_cons, List.take_zero, List.take_nil, List.drop_succ_cons, List.drop_zero, List.drop_nil, List.cons_append, List.nil_append, List.length_cons, List.length_nil, Nat.zero_add, Nat.add_zero, Nat.reduceAdd, List.append_nil] at hB1
  refine WL.nil ?_
  refine th_norm ?_
  refine hx_ret ?_
  refine fin_ret [.cell 0 24] rfl rfl (by simp only [ev_tmp, ev_const, ev_func, set_get, Nat.reduceEqDiff, reduceIte, resv, ld24, readN, List.getElem?_toArray, List.getElem?_cons_zero, List.getElem?_cons_succ, List.map_toArray, List.map_cons, List.map_nil, Option.map_some, Option.bind_some, Nat.zero_add, Nat.reduceAdd, hB1.cell]; rfl) ?_  -- ret 0 r1
  exact ⟨rfl, hE⟩
theorem c_rcheck (s0 s1 s2 s3 s4 s5 : Int) (h : Heap) : HCalls Try.prog 17 #[sch s0 s1 s2 s3 s4 s5] h (Grow (.int .i64 (chkGo (-1) [s0, s1, s2, s3, s4, s5])) h) := by
  refine hcalls2 Try.func17 rfl (by decide +kernel) (by simp only [Try.ntmps17]; exact of_decide_eq_true rfl) ?_
  intro e hin
  have e0 := hin 0 _ rfl
  generalize hb : chkGo (-1) [s0, s1, s2, s3, s4, s5] = cc
  refine hx_seq ?_
  refine hx_region ?_
  refine WL.box2 (by simp only [ev_tmp, ev_const, ev_func, set_get, Nat.reduceEqDiff, reduceIte, Value.cells, e0]; rfl) ?_
  intro h1 B1 hx1 hlt1 hB1
  refine WL.qq (by simp only [ev_tmp, ev_const, ev_func, set_get, Nat.reduceEqDiff, reduceIte, qv_assign, e0, hB1.cell]; rfl) ?_
  refine WL.nil ?_
  refine th_norm ?_
  refine hx_seq ?_
  refine hx_seq ?_
  refine hx_region ?_
  refine WL.qq (by simp only [ev_tmp, ev_const, ev_func, set_get, Nat.reduceEqDiff, reduceIte, qv_assign, e0, hB1.cell]; rfl) ?_
  refine WL.nil ?_
  refine th_norm ?_
  refine hx_block ?_
  refine hx_loopS [2, 3, 4, 5, 6, 7, 8, 9, 10, 11, 12, 13, 14, 15, 16, 17, 18, 19, 20, 21, 22, 23, 24, 25, 26, 27, 28, 29, 30, 31] (fun k e => ∃ (i : Nat) (last : Int), 6 - i = k ∧ (i ≤ 6) ∧ (chkGo last ([s0, s1, s2, s3, s4, s5].drop i) = cc) ∧ ((i = 0 ∧ last = -1) ∨ (0 < i ∧ [s0, s1, s2, s3, s4, s5][i - 1]? = some last ∧ 0 ≤ last)) ∧ e 3 = .int .i64 i) _ ⟨0, -1, rfl, ?_, ?_, ?_, ?_⟩ ?_
  · omega
  · exact hb
  · exact .inl ⟨rfl, rfl⟩
  · simp only [ev_tmp, ev_const, ev_func, set_get, Nat.reduceEqDiff, reduceIte, e0, hB1.cell] <;> rfl
  ·
    rintro k e0L hfr0 ⟨i, last, rfl, hi, hg, hl, i3_0⟩
    have k1_0 := hfr0 1 rfl; simp only [ev_tmp, ev_const, ev_func, set_get, Nat.reduceEqDiff, reduceIte, e0, hB1.cell] at k1_0
    refine hx_seq ?_
    refine hx_seq ?_
    refine hx_region ?_
    refine WL.qq (by simp only [ev_tmp, ev_const, ev_func, set_get, Nat.reduceEqDiff, reduceIte, qv_move, k1_0, i3_0, hB1.cell]; rfl) ?_
    refine WL.qq (by simp only [ev_tmp, ev_const, ev_func, set_get, Nat.reduceEqDiff, reduceIte, qv_binOp, binv_lss, k1_0, i3_0, hB1.cell]; rfl) ?_
    refine WL.nil ?_
    refine th_norm ?_
    refine hx_cond (by simp only [ev_tmp, ev_const, ev_func, set_get, Nat.reduceEqDiff, reduceIte, k1_0, i3_0, hB1.cell]; rfl) (fun hct5 => ?_) (fun hct5 => ?_)
    ·
      try simp only [decide_eq_true_eq, decide_eq_false_iff_not, Bool.and_eq_true, Bool.and_eq_false_iff, Bool.or_eq_true, Bool.or_eq_false_iff, Bool.not_eq_true', Bool.not_eq_false', Bool.not_eq_true, Bool.not_eq_false] at hct5
      obtain ⟨m, hm⟩ : ∃ m, [s0, s1, s2, s3, s4, s5][i]? = some m := ⟨[s0, s1, s2, s3, s4, s5][i]'(by simp; omega), by simp⟩
      rw [drop_at hm, chkGo] at hg
      refine hx_skip ?_
      refine th_norm ?_
      refine hx_seq ?_
      refine hx_block ?_
      refine hx_seq ?_
      apply hx_draw2 Rel.same [] [] [] rfl (by decide +kernel) rfl
      refine LD.qq rfl rfl (by simp only [ev_tmp, ev_const, ev_func, set_get, Nat.reduceEqDiff, reduceIte, qv_move, k1_0, i3_0, hB1.cell]; rfl) ?_
      refine LD.qq rfl rfl (by simp only [ev_tmp, ev_const, ev_func, set_get, Nat.reduceEqDiff, reduceIte, qv_indexAddr, k1_0, i3_0, hB1.cell]; (try simp (disch := omega) only [ix86, Int.toNat_natCast]); rfl) ?_
      refine LD.qq rfl rfl (by simp only [ev_tmp, ev_const, ev_func, set_get, Nat.reduceEqDiff, reduceIte, k1_0, i3_0, hB1.cell, qv_load, ld3, Int.toNat_natCast, Nat.zero_add, at6 hm]; rfl) ?_
      refine LD.qq rfl rfl (by simp only [ev_tmp, ev_const, ev_func, set_get, Nat.reduceEqDiff, reduceIte, qv_binOp, binv_lss, k1_0, i3_0, hB1.cell]; rfl) ?_
      refine LD.qq rfl rfl (by simp only [ev_tmp, ev_const, ev_func, set_get, Nat.reduceEqDiff, reduceIte, qv_move, k1_0, i3_0, hB1.cell]; rfl) ?_
      refine LD.cq rfl rfl (gd_at (t := 12) rfl (by simp only [ev_tmp, ev_const, ev_func, set_get, Nat.reduceEqDiff, reduceIte, k1_0, i3_0, hB1.cell]; rfl)) (fun hg4_5 => by simp only [ev_tmp, ev_const, ev_func, set_get, Nat.reduceEqDiff, reduceIte, qv_move, k1_0, i3_0, hB1.cell, hg4_5, Bool.false_eq_true, Bool.true_eq_false, eq_self, if_true, if_false, true_and, and_true, false_and, and_false]; rfl) ?_
      refine LD.cq rfl rfl (gd_at (t := 12) rfl (by simp only [ev_tmp, ev_const, ev_func, set_get, Nat.reduceEqDiff, reduceIte, k1_0, i3_0, hB1.cell]; rfl)) (fun hg4_6 => by have hq0 := hg4_6; (try simp only [decide_eq_true_eq, decide_eq_false_iff_not, Bool.and_eq_true, Bool.and_eq_false_iff, Bool.or_eq_true, Bool.or_eq_false_iff, Bool.not_eq_true', Bool.not_eq_false', Bool.not_eq_true, Bool.not_eq_false] at hq0); simp only [ev_tmp, ev_const, ev_func, set_get, Nat.reduceEqDiff, reduceIte, qv_indexAddr, k1_0, i3_0, hB1.cell, hg4_6, Bool.false_eq_true, Bool.true_eq_false, eq_self, if_true, if_false, true_and, and_true, false_and, and_false]; (try simp (disch := omega) only [ix86, Int.toNat_natCast]); rfl) ?_
      refine LD.cq rfl rfl (gd_at (t := 12) rfl (by simp only [ev_tmp, ev_const, ev_func, set_get, Nat.reduceEqDiff, reduceIte, k1_0, i3_0, hB1.cell]; rfl)) (fun hg4_7 => by simp only [ev_tmp, ev_const, ev_func, set_get, Nat.reduceEqDiff, reduceIte, k1_0, i3_0, hB1.cell, qv_load, ld3, Int.toNat_natCast, Nat.zero_add, at6 hm, Bool.false_eq_true, Bool.true_eq_false, eq_self, if_true, if_false, true_and, and_true, false_and, and_false, hg4_7]; rfl) ?_
      refine LD.cq rfl rfl (gd_at (t := 12) rfl (by simp only [ev_tmp, ev_const, ev_func, set_get, Nat.reduceEqDiff, reduceIte, k1_0, i3_0, hB1.cell]; rfl)) (fun hg4_8 => by simp only [ev_tmp, ev_const, ev_func, set_get, Nat.reduceEqDiff, reduceIte, qv_binOp, binv_gtr, k1_0, i3_0, hB1.cell, hg4_8, Bool.false_eq_true, Bool.true_eq_false, eq_self, if_true, if_false, true_and, and_true, false_and, and_false]; rfl) ?_
      refine LD.qq rfl rfl (by simp only [ev_tmp, ev_const, ev_func, set_get, Nat.reduceEqDiff, reduceIte, qv_pick, pk_and, pk_or, Bool.false_eq_true, Bool.true_eq_false, eq_self, if_true, if_false, true_and, and_true, false_and, and_false, k1_0, i3_0, hB1.cell]; rfl) ?_
      refine LD.qq rfl rfl (by simp only [ev_tmp, ev_const, ev_func, set_get, Nat.reduceEqDiff, reduceIte, qv_move, k1_0, i3_0, hB1.cell]; rfl) ?_
      refine LD.cq rfl rfl (gd_at (t := 18) rfl (by simp only [ev_tmp, ev_const, ev_func, set_get, Nat.reduceEqDiff, reduceIte, k1_0, i3_0, hB1.cell]; rfl)) (fun hg4_11 => by simp only [ev_tmp, ev_const, ev_func, set_get, Nat.reduceEqDiff, reduceIte, qv_move, k1_0, i3_0, hB1.cell, hg4_11, Bool.false_eq_true, Bool.true_eq_false, eq_self, if_true, if_false, true_and, and_true, false_and, and_false]; rfl) ?_
      refine LD.cq rfl rfl (gd_at (t := 18) rfl (by simp only [ev_tmp, ev_const, ev_func, set_get, Nat.reduceEqDiff, reduceIte, k1_0, i3_0, hB1.cell]; rfl)) (fun hg4_12 => by simp only [ev_tmp, ev_const, ev_func, set_get, Nat.reduceEqDiff, reduceIte, qv_binOp, binv_gtr, k1_0, i3_0, hB1.cell, hg4_12, Bool.false_eq_true, Bool.true_eq_false, eq_self, if_true, if_false, true_and, and_true, false_and, and_false]; rfl) ?_
      refine LD.cq rfl rfl (gd_at (t := 18) rfl (by simp only [ev_tmp, ev_const, ev_func, set_get, Nat.reduceEqDiff, reduceIte, k1_0, i3_0, hB1.cell]; rfl)) (fun hg4_13 => by simp only [ev_tmp, ev_const, ev_func, set_get, Nat.reduceEqDiff, reduceIte, qv_move, k1_0, i3_0, hB1.cell, hg4_13, Bool.false_eq_true, Bool.true_eq_false, eq_self, if_true, if_false, true_and, and_true, false_and, and_false]; rfl) ?_
      refine LD.cq2 rfl rfl (t := 21) rfl (by simp only [ev_tmp, ev_const, ev_func, set_get, Nat.reduceEqDiff, reduceIte, k1_0, i3_0, hB1.cell]; rfl) (fun hC4_14 hg4_14 => by simp only [ev_tmp, ev_const, ev_func, set_get, Nat.reduceEqDiff, reduceIte, qv_move, k1_0, i3_0, hB1.cell, hC4_14, hg4_14, Bool.false_eq_true, Bool.true_eq_false, eq_self, if_true, if_false, true_and, and_true, false_and, and_false]; rfl) ?_
      refine LD.cq2 rfl rfl (t := 21) rfl (by simp only [ev_tmp, ev_const, ev_func, set_get, Nat.reduceEqDiff, reduceIte, k1_0, i3_0, hB1.cell]; rfl) (fun hC4_15 hg4_15 => by simp only [ev_tmp, ev_const, ev_func, set_get, Nat.reduceEqDiff, reduceIte, k1_0, i3_0, hB1.cell, qv_indexAddr, Bool.false_eq_true, Bool.true_eq_false, eq_self, if_true, if_false, true_and, and_true, false_and, and_false, hC4_15, hg4_15]; exact ix86 _ _ _ _ (by omega) (by omega)) ?_
      refine LD.cq2 rfl rfl (t := 21) rfl (by simp only [ev_tmp, ev_const, ev_func, set_get, Nat.reduceEqDiff, reduceIte, k1_0, i3_0, hB1.cell]; rfl) (fun hC4_16 hg4_16 => by simp only [ev_tmp, ev_const, ev_func, set_get, Nat.reduceEqDiff, reduceIte, k1_0, i3_0, hB1.cell, qv_load, ld3, Int.toNat_natCast, Nat.zero_add, at6 hm, Bool.false_eq_true, Bool.true_eq_false, eq_self, if_true, if_false, true_and, and_true, false_and, and_false, hC4_16, hg4_16]; rfl) ?_
      refine LD.cq2 rfl rfl (t := 21) rfl (by simp only [ev_tmp, ev_const, ev_func, set_get, Nat.reduceEqDiff, reduceIte, k1_0, i3_0, hB1.cell]; rfl) (fun hC4_17 hg4_17 => by simp only [ev_tmp, ev_const, ev_func, set_get, Nat.reduceEqDiff, reduceIte, qv_move, k1_0, i3_0, hB1.cell, hC4_17, hg4_17, Bool.false_eq_true, Bool.true_eq_false, eq_self, if_true, if_false, true_and, and_true, false_and, and_false]; rfl) ?_
      refine LD.cq2 rfl rfl (t := 21) rfl (by simp only [ev_tmp, ev_const, ev_func, set_get, Nat.reduceEqDiff, reduceIte, k1_0, i3_0, hB1.cell]; rfl) (fun hC4_18 hg4_18 => by have hq0 := hC4_18; (try simp only [decide_eq_true_eq, decide_eq_false_iff_not, Bool.and_eq_true, Bool.and_eq_false_iff, Bool.or_eq_true, Bool.or_eq_false_iff, Bool.not_eq_true', Bool.not_eq_false', Bool.not_eq_true, Bool.not_eq_false] at hq0); have hq1 := hg4_18; (try simp only [decide_eq_true_eq, decide_eq_false_iff_not, Bool.and_eq_true, Bool.and_eq_false_iff, Bool.or_eq_true, Bool.or_eq_false_iff, Bool.not_eq_true', Bool.not_eq_false', Bool.not_eq_true, Bool.not_eq_false] at hq1); simp only [ev_tmp, ev_const, ev_func, set_get, Nat.reduceEqDiff, reduceIte, qv_binOp, binv_sub, k1_0, i3_0, hB1.cell, hC4_18, hg4_18, Bool.false_eq_true, Bool.true_eq_false, eq_self, if_true, if_false, true_and, and_true, false_and, and_false]; (try simp (disch := omega) only [w64, w8, wu64]); rfl) ?_
      refine LD.cq2 rfl rfl (t := 21) rfl (by simp only [ev_tmp, ev_const, ev_func, set_get, Nat.reduceEqDiff, reduceIte, k1_0, i3_0, hB1.cell]; rfl) (fun hC4_19 hg4_19 => by have hp : 0 < i := (by simpa using hg4_19); simp only [ev_tmp, ev_const, ev_func, set_get, Nat.reduceEqDiff, reduceIte, k1_0, i3_0, hB1.cell, qv_indexAddr, Bool.false_eq_true, Bool.true_eq_false, eq_self, if_true, if_false, true_and, and_true, false_and, and_false, hC4_19, hg4_19]; exact ix86 _ _ _ _ (by omega) (by omega)) ?_
      refine LD.cq2 rfl rfl (t := 21) rfl (by simp only [ev_tmp, ev_const, ev_func, set_get, Nat.reduceEqDiff, reduceIte, k1_0, i3_0, hB1.cell]; rfl) (fun hC4_20 hg4_20 => by have hp : 0 < i := (by simpa using hg4_20); rcases hl with hl | hl; omega; simp only [ev_tmp, ev_const, ev_func, set_get, Nat.reduceEqDiff, reduceIte, k1_0, i3_0, hB1.cell, qv_load, ld3, show ((i : Int) - 1).toNat = i - 1 from by omega, Nat.zero_add, at6 hl.2.1, Bool.false_eq_true, Bool.true_eq_false, eq_self, if_true, if_false, true_and, and_true, false_and, and_false, hC4_20, hg4_20]; rfl) ?_
      refine LD.cq2 rfl rfl (t := 21) rfl (by simp only [ev_tmp, ev_const, ev_func, set_get, Nat.reduceEqDiff, reduceIte, k1_0, i3_0, hB1.cell]; rfl) (fun hC4_21 hg4_21 => by simp only [ev_tmp, ev_const, ev_func, set_get, Nat.reduceEqDiff, reduceIte, qv_binOp, binv_leq, k1_0, i3_0, hB1.cell, hC4_21, hg4_21, Bool.false_eq_true, Bool.true_eq_false, eq_self, if_true, if_false, true_and, and_true, false_and, and_false]; rfl) ?_
      refine LD.cq rfl rfl (gd_at (t := 18) rfl (by simp only [ev_tmp, ev_const, ev_func, set_get, Nat.reduceEqDiff, reduceIte, k1_0, i3_0, hB1.cell]; rfl)) (fun hg4_22 => by simp only [ev_tmp, ev_const, ev_func, set_get, Nat.reduceEqDiff, reduceIte, qv_pick, pk_and, pk_or, Bool.false_eq_true, Bool.true_eq_false, eq_self, if_true, if_false, true_and, and_true, false_and, and_false, k1_0, i3_0, hB1.cell, hg4_22, Bool.false_eq_true, Bool.true_eq_false, eq_self, if_true, if_false, true_and, and_true, false_and, and_false]; rfl) ?_
      refine LD.qq rfl rfl (by simp only [ev_tmp, ev_const, ev_func, set_get, Nat.reduceEqDiff, reduceIte, qv_pick, pk_and, pk_or, Bool.false_eq_true, Bool.true_eq_false, eq_self, if_true, if_false, true_and, and_true, false_and, and_false, k1_0, i3_0, hB1.cell]; rfl) ?_
      refine LD.nil ?_
      rintro _ rfl -
      refine WL.nil ?_
      refine th_norm ?_
      refine hx_cond (by simp only [ev_tmp, ev_const, ev_func, set_get, Nat.reduceEqDiff, reduceIte, k1_0, i3_0, hB1.cell]; rfl) (fun hct31 => ?_) (fun hct31 => ?_)
      ·
        try simp only [decide_eq_true_eq, decide_eq_false_iff_not, Bool.and_eq_true, Bool.and_eq_false_iff, Bool.or_eq_true, Bool.or_eq_false_iff, Bool.not_eq_true', Bool.not_eq_false', Bool.not_eq_true, Bool.not_eq_false] at hct31
        refine hx_seq ?_
        refine hx_region ?_
        refine WL.qq (by simp only [ev_tmp, ev_const, ev_func, set_get, Nat.reduceEqDiff, reduceIte, qv_assign, k1_0, i3_0, hB1.cell]; rfl) ?_
        refine WL.nil ?_
        refine th_norm ?_
        refine hx_ret ?_
        refine bl_ret ?_
        refine th_ret ?_
        refine th_ret ?_
        refine bl_ret ?_
        refine th_ret ?_
        refine fin_ret [.tmp 2] rfl rfl (by simp only [ev_tmp, ev_const, ev_func, set_get, Nat.reduceEqDiff, reduceIte, resv, k1_0, i3_0, hB1.cell]; rfl) ?_  -- ret 0 r5
        rw [if_pos (by omega)] at hg
        exact ⟨by rw [← hg]; rfl, (hx1)⟩
      ·
        try simp only [decide_eq_true_eq, decide_eq_false_iff_not, Bool.and_eq_true, Bool.and_eq_false_iff, Bool.or_eq_true, Bool.or_eq_false_iff, Bool.not_eq_true', Bool.not_eq_false', Bool.not_eq_true, Bool.not_eq_false] at hct31
        refine hx_skip ?_
        refine bl_norm ?_
        refine th_norm ?_
        refine hx_region ?_
        refine WL.qq (by simp only [ev_tmp, ev_const, ev_func, set_get, Nat.reduceEqDiff, reduceIte, qv_move, k1_0, i3_0, hB1.cell]; rfl) ?_
        refine WL.qq (by simp only [ev_tmp, ev_const, ev_func, set_get, Nat.reduceEqDiff, reduceIte, qv_binOp, binv_add, k1_0, i3_0, hB1.cell]; (try simp (disch := omega) only [w64, w8, wu64]); rfl) ?_
        refine WL.qq (by simp only [ev_tmp, ev_const, ev_func, set_get, Nat.reduceEqDiff, reduceIte, qv_assign, k1_0, i3_0, hB1.cell]; rfl) ?_
        refine WL.nil ?_
        refine th_norm ?_
        refine ⟨rfl, rfl, ?_, _, ?_, i + 1, m, rfl, ?_, ?_, ?_, ?_⟩  -- again 0 of loop 0
        · (repeat (first | exact Fr.refl _ _ | refine Fr.set rfl ?_ | refine Fr.put rfl ?_ | refine Fr.put0 ?_))
        · omega
        · omega
        · rw [if_neg (by omega)] at hg; exact hg
        · refine .inr ⟨by omega, hm, by omega⟩
        · simp only [ev_tmp, ev_const, ev_func, set_get, Nat.reduceEqDiff, reduceIte, k1_0, i3_0, hB1.cell] <;> first | rfl | (congr 1; omega)
    ·
      try simp only [decide_eq_true_eq, decide_eq_false_iff_not, Bool.and_eq_true, Bool.and_eq_false_iff, Bool.or_eq_true, Bool.or_eq_false_iff, Bool.not_eq_true', Bool.not_eq_false', Bool.not_eq_true, Bool.not_eq_false] at hct5
      refine hx_exit ?_
      refine th_exit ?_
      refine th_exit ?_
      refine bl_hit ?_
      refine th_norm ?_
      refine hx_seq ?_
      refine hx_region ?_
      refine WL.qq (by simp only [ev_tmp, ev_const, ev_func, set_get, Nat.reduceEqDiff, reduceIte, qv_assign, k1_0, i3_0, hB1.cell]; rfl) ?_
      refine WL.nil ?_
      refine th_norm ?_
      refine hx_ret ?_
      refine fin_ret [.tmp 2] rfl rfl (by simp only [ev_tmp, ev_const, ev_func, set_get, Nat.reduceEqDiff, reduceIte, resv, k1_0, i3_0, hB1.cell]; rfl) ?_  -- ret 1 r6
      have h6 : i = 6 := (by omega)
      subst h6
      simp only [List.drop, chkGo] at hg
      exact ⟨by rw [← hg]; rfl, (hx1)⟩
end GL


/- Calendar: the law on adjusting days. -/
import Derived.Test.YtafdegdodmelpaaCalS
import Derived.Test.YtafdegdodmelpaaGl16
set_option linter.unusedSimpArgs false
set_option linter.unusedVariables false
set_option linter.unnecessarySimpa false
namespace GL
open Go Go.Proofs
set_option maxRecDepth 8000
theorem civA_ok {n : Int} (hv : 0 ≤ n ∧ n ≤ 73048) : civA n = .tuple #[.agg #[.int .i64 (civM n).1, .int .i64 (civM n).2.1, .int .i64 (civM n).2.2], .int .i64 0] := by simp [civA, validM, hv]
noncomputable def smM (a b : Int) : Bool := decide ((civM a).1 = (civM b).1) && decide ((civM a).2.1 = (civM b).2.1)
theorem c_sameMonth (a b : Int) (ha : 0 ≤ a ∧ a ≤ 73048) (hb : 0 ≤ b ∧ b ≤ 73048) (h : Heap) : HCalls Try.prog 52 #[.int .i64 a, .int .i64 b] h (Grow (.bool (smM a b)) h) := by
  refine hcalls2 Try.func52 rfl (by decide +kernel) (by simp only [Try.ntmps52]; exact of_decide_eq_true rfl) ?_
  intro e hin
  have e0 := hin 0 _ rfl
  have e1 := hin 1 _ rfl
  refine hx_seq ?_
  refine hx_region ?_
  refine WL.qq (by simp only [ev_tmp, ev_const, ev_func, set_get, Nat.reduceEqDiff, reduceIte, qv_assign, e0, e1]; rfl) ?_
  refine WL.nil ?_
  refine th_norm ?_
  refine hx_seq ?_
  refine hx_region ?_
  refine WL.qq (by simp only [ev_tmp, ev_const, ev_func, set_get, Nat.reduceEqDiff, reduceIte, qv_move, e0, e1]; rfl) ?_
  refine WL.cg Try.call67 (by simp only [ev_tmp, ev_const, ev_func, set_get, Nat.reduceEqDiff, reduceIte, List.getElem?_toArray, List.getElem?_cons_zero, List.getElem?_cons_succ, List.map_toArray, List.map_cons, List.map_nil, Option.map_some, Option.bind_some, e0, e1]; exact (civA_ok ha ▸ c_toCivil a _)) ?_
  intro h1 hx1
  refine WL.qq (by simp only [ev_tmp, ev_const, ev_func, set_get, Nat.reduceEqDiff, reduceIte, qv_move, e0, e1]; rfl) ?_
  refine WL.qq (by simp only [ev_tmp, ev_const, ev_func, set_get, Nat.reduceEqDiff, reduceIte, qv_extract, List.getElem?_toArray, List.getElem?_cons_zero, List.getElem?_cons_succ, List.map_toArray, List.map_cons, List.map_nil, Option.map_some, Option.bind_some, e0, e1]; rfl) ?_
  refine WL.qq (by simp only [ev_tmp, ev_const, ev_func, set_get, Nat.reduceEqDiff, reduceIte, qv_extract, List.getElem?_toArray, List.getElem?_cons_zero, List.getElem?_cons_succ, List.map_toArray, List.map_cons, List.map_nil, Option.map_some, Option.bind_some, e0, e1]; rfl) ?_
  refine WL.allocSt zr86 sz86 (fun u => by simp only [ev_tmp, ev_const, ev_func, set_get, Nat.reduceEqDiff, reduceIte, Value.cells, e0, e1]; rfl) ⟨rfl, rfl⟩ (by simp [Value.oneCell']) ?_
  intro h2 B2 hx2 hlt2 hB2
  refine WL.qq (by simp only [ev_tmp, ev_const, ev_func, set_get, Nat.reduceEqDiff, reduceIte, qv_assign, e0, e1, hB2.cell]; rfl) ?_
  refine WL.nil ?_
  refine th_norm ?_
  refine hx_seq ?_
  refine hx_region ?_
  refine WL.qq (by simp only [ev_tmp, ev_const, ev_func, set_get, Nat.reduceEqDiff, reduceIte, qv_move, e0, e1, hB2.cell]; rfl) ?_
  refine WL.cg Try.call67 (by simp only [ev_tmp, ev_const, ev_func, set_get, Nat.reduceEqDiff, reduceIte, List.getElem?_toArray, List.getElem?_cons_zero, List.getElem?_cons_succ, List.map_toArray, List.map_cons, List.map_nil, Option.map_some, Option.bind_some, e0, e1, hB2.cell]; exact (civA_ok hb ▸ c_toCivil b _)) ?_
  intro h3 hx3
  replace hB2 := hB2.ext hx3
  refine WL.qq (by simp only [ev_tmp, ev_const, ev_func, set_get, Nat.reduceEqDiff, reduceIte, qv_move, e0, e1, hB2.cell]; rfl) ?_
  refine WL.qq (by simp only [ev_tmp, ev_const, ev_func, set_get, Nat.reduceEqDiff, reduceIte, qv_extract, List.getElem?_toArray, List.getElem?_cons_zero, List.getElem?_cons_succ, List.map_toArray, List.map_cons, List.map_nil, Option.map_some, Option.bind_some, e0, e1, hB2.cell]; rfl) ?_
  refine WL.qq (by simp only [ev_tmp, ev_const, ev_func, set_get, Nat.reduceEqDiff, reduceIte, qv_extract, List.getElem?_toArray, List.getElem?_cons_zero, List.getElem?_cons_succ, List.map_toArray, List.map_cons, List.map_nil, Option.map_some, Option.bind_some, e0, e1, hB2.cell]; rfl) ?_
  refine WL.allocSt zr86 sz86 (fun u => by simp only [ev_tmp, ev_const, ev_func, set_get, Nat.reduceEqDiff, reduceIte, Value.cells, e0, e1, hB2.cell]; rfl) ⟨rfl, rfl⟩ (by simp [Value.oneCell']) ?_
  intro h4 B4 hx4 hlt4 hB4
  replace hB2 := hB2.ext hx4
  refine WL.qq (by simp only [ev_tmp, ev_const, ev_func, set_get, Nat.reduceEqDiff, reduceIte, qv_assign, e0, e1, hB2.cell, hB4.cell]; rfl) ?_
  refine WL.nil ?_
  refine th_norm ?_
  refine hx_seq ?_
  refine hx_region ?_
  refine WL.qq (by simp only [ev_tmp, ev_const, ev_func, set_get, Nat.reduceEqDiff, reduceIte, qv_fieldAddr, fa86_0, Nat.zero_add, Nat.reduceAdd, e0, e1, hB2.cell, hB4.cell]; rfl) ?_
  refine WL.qq (by simp only [ev_tmp, ev_const, ev_func, set_get, Nat.reduceEqDiff, reduceIte, qv_load, ld3, readN, List.getElem?_toArray, List.getElem?_cons_zero, List.getElem?_cons_succ, List.map_toArray, List.map_cons, List.map_nil, Option.map_some, Option.bind_some, Nat.zero_add, Nat.reduceAdd, e0, e1, hB2.cell, hB4.cell]; rfl) ?_
  refine WL.qq (by simp only [ev_tmp, ev_const, ev_func, set_get, Nat.reduceEqDiff, reduceIte, qv_fieldAddr, fa86_0, Nat.zero_add, Nat.reduceAdd, e0, e1, hB2.cell, hB4.cell]; rfl) ?_
  refine WL.qq (by simp only [ev_tmp, ev_const, ev_func, set_get, Nat.reduceEqDiff, reduceIte, qv_load, ld3, readN, List.getElem?_toArray, List.getElem?_cons_zero, List.getElem?_cons_succ, List.map_toArray, List.map_cons, List.map_nil, Option.map_some, Option.bind_some, Nat.zero_add, Nat.reduceAdd, e0, e1, hB2.cell, hB4.cell]; rfl) ?_
  refine WL.qq (by simp only [ev_tmp, ev_const, ev_func, set_get, Nat.reduceEqDiff, reduceIte, qv_binOp, binv_eql, eq3, Option.map_some, e0, e1, hB2.cell, hB4.cell]; rfl) ?_
  refine WL.qq (by simp only [ev_tmp, ev_const, ev_func, set_get, Nat.reduceEqDiff, reduceIte, qv_move, e0, e1, hB2.cell, hB4.cell]; rfl) ?_
  refine WL.cq (gd_at (t := 24) rfl (by simp only [ev_tmp, ev_const, ev_func, set_get, Nat.reduceEqDiff, reduceIte, e0, e1, hB2.cell, hB4.cell]; rfl)) (fun hg3_6 => by simp only [ev_tmp, ev_const, ev_func, set_get, Nat.reduceEqDiff, reduceIte, qv_fieldAddr, fa86_1, Nat.zero_add, Nat.reduceAdd, e0, e1, hB2.cell, hB4.cell, hg3_6, Bool.false_eq_true, Bool.true_eq_false, eq_self, if_true, if_false, true_and, and_true, false_and, and_false]; rfl) ?_
  refine WL.cq (gd_at (t := 24) rfl (by simp only [ev_tmp, ev_const, ev_func, set_get, Nat.reduceEqDiff, reduceIte, e0, e1, hB2.cell, hB4.cell]; rfl)) (fun hg3_7 => by simp only [ev_tmp, ev_const, ev_func, set_get, Nat.reduceEqDiff, reduceIte, qv_load, ld3, readN, List.getElem?_toArray, List.getElem?_cons_zero, List.getElem?_cons_succ, List.map_toArray, List.map_cons, List.map_nil, Option.map_some, Option.bind_some, Nat.zero_add, Nat.reduceAdd, e0, e1, hB2.cell, hB4.cell, hg3_7, Bool.false_eq_true, Bool.true_eq_false, eq_self, if_true, if_false, true_and, and_true, false_and, and_false]; rfl) ?_
  refine WL.cq (gd_at (t := 24) rfl (by simp only [ev_tmp, ev_const, ev_func, set_get, Nat.reduceEqDiff, reduceIte, e0, e1, hB2.cell, hB4.cell]; rfl)) (fun hg3_8 => by simp only [ev_tmp, ev_const, ev_func, set_get, Nat.reduceEqDiff, reduceIte, qv_fieldAddr, fa86_1, Nat.zero_add, Nat.reduceAdd, e0, e1, hB2.cell, hB4.cell, hg3_8, Bool.false_eq_true, Bool.true_eq_false, eq_self, if_true, if_false, true_and, and_true, false_and, and_false]; rfl) ?_
  refine WL.cq (gd_at (t := 24) rfl (by simp only [ev_tmp, ev_const, ev_func, set_get, Nat.reduceEqDiff, reduceIte, e0, e1, hB2.cell, hB4.cell]; rfl)) (fun hg3_9 => by simp only [ev_tmp, ev_const, ev_func, set_get, Nat.reduceEqDiff, reduceIte, qv_load, ld3, readN, List.getElem?_toArray, List.getElem?_cons_zero, List.getElem?_cons_succ, List.map_toArray, List.map_cons, List.map_nil, Option.map_some, Option.bind_some, Nat.zero_add, Nat.reduceAdd, e0, e1, hB2.cell, hB4.cell, hg3_9, Bool.false_eq_true, Bool.true_eq_false, eq_self, if_true, if_false, true_and, and_true, false_and, and_false]; rfl) ?_
  refine WL.cq (gd_at (t := 24) rfl (by simp only [ev_tmp, ev_const, ev_func, set_get, Nat.reduceEqDiff, reduceIte, e0, e1, hB2.cell, hB4.cell]; rfl)) (fun hg3_10 => by simp only [ev_tmp, ev_const, ev_func, set_get, Nat.reduceEqDiff, reduceIte, qv_binOp, binv_eql, eq3, Option.map_some, e0, e1, hB2.cell, hB4.cell, hg3_10, Bool.false_eq_true, Bool.true_eq_false, eq_self, if_true, if_false, true_and, and_true, false_and, and_false]; rfl) ?_
  refine WL.qq (by simp only [ev_tmp, ev_const, ev_func, set_get, Nat.reduceEqDiff, reduceIte, qv_pick, pk_and, pk_or, Bool.false_eq_true, Bool.true_eq_false, eq_self, if_true, if_false, true_and, and_true, false_and, and_false, e0, e1, hB2.cell, hB4.cell]; rfl) ?_
  refine WL.qq (by simp only [ev_tmp, ev_const, ev_func, set_get, Nat.reduceEqDiff, reduceIte, qv_assign, e0, e1, hB2.cell, hB4.cell]; rfl) ?_
  refine WL.nil ?_
  refine th_norm ?_
  refine hx_ret ?_
  refine fin_ret [.tmp 4] rfl rfl (by simp only [ev_tmp, ev_const, ev_func, set_get, Nat.reduceEqDiff, reduceIte, resv, e0, e1, hB2.cell, hB4.cell]; rfl) ?_  -- ret 0 r3
  exact ⟨rfl, ((hx1).trans ((hx2).trans ((hx3).trans (hx4))))⟩
theorem c_rsameMonth (a b : Int) (ha : 0 ≤ a ∧ a ≤ 73048) (hb : 0 ≤ b ∧ b ≤ 73048) (h : Heap) : HCalls Try.prog 53 #[.int .i64 a, .int .i64 b] h (Grow (.bool (smM a b)) h) := by
  refine hcalls2 Try.func53 rfl (by decide +kernel) (by simp only [Try.ntmps53]; exact of_decide_eq_true rfl) ?_
  intro e hin
  have e0 := hin 0 _ rfl
  have e1 := hin 1 _ rfl
  have hE : Ext h h := Ext.refl h
  refine hx_seq ?_
  refine hx_region ?_
  refine WL.qq (by simp only [ev_tmp, ev_const, ev_func, set_get, Nat.reduceEqDiff, reduceIte, qv_assign, e0, e1]; rfl) ?_
  refine WL.nil ?_
  refine th_norm ?_
  refine hx_seq ?_
  refine hx_region ?_
  refine WL.qq (by simp only [ev_tmp, ev_const, ev_func, set_get, Nat.reduceEqDiff, reduceIte, qv_move, e0, e1]; rfl) ?_
  refine WL.cg Try.call49 (by simp only [ev_tmp, ev_const, ev_func, set_get, Nat.reduceEqDiff, reduceIte, List.getElem?_toArray, List.getElem?_cons_zero, List.getElem?_cons_succ, List.map_toArray, List.map_cons, List.map_nil, Option.map_some, Option.bind_some, e0, e1]; exact c_to a ha _) ?_
  intro h1 hx1
  replace hE := hE.trans hx1
  refine WL.qq (by simp only [ev_tmp, ev_const, ev_func, set_get, Nat.reduceEqDiff, reduceIte, qv_move, e0, e1]; rfl) ?_
  refine WL.cg Try.call49 (by simp only [ev_tmp, ev_const, ev_func, set_get, Nat.reduceEqDiff, reduceIte, List.getElem?_toArray, List.getElem?_cons_zero, List.getElem?_cons_succ, List.map_toArray, List.map_cons, List.map_nil, Option.map_some, Option.bind_some, e0, e1]; exact c_to b hb _) ?_
  intro h2 hx2
  replace hE := hE.trans hx2
  refine WL.alloc2 zr70 ?_
  intro h3 B3 hx3 hlt3 hB3
  have hb0_3 := Nat.le_trans hE.size hlt3
  replace hE := hE.trans hx3
  have hEo3 := hx3
  simp only [Value.cells] at hB3
  refine WL.alloc2 zr70 ?_
  intro h4 B4 hx4 hlt4 hB4
  have hne3_4 : B4 ≠ B3 := by have := (Array.getElem?_eq_some_iff.1 hB3).1; omega
  have hb0_4 := Nat.le_trans hE.size hlt4
  have hbo3_4 := Nat.le_trans hEo3.size hlt4
  have hB3_s4 := hB3
  replace hE := hE.trans hx4
  replace hEo3 := hEo3.trans hx4
  replace hB3 := hB3.ext hx4
  have hEo4 := hx4
  simp only [Value.cells] at hB4
  refine WL.store (by simp only [ev_tmp, ev_const, ev_func, set_get, Nat.reduceEqDiff, reduceIte, e0, e1, hB3.cell, hB4.cell] <;> rfl) sz70 (by simp only [ev_tmp, ev_const, ev_func, set_get, Nat.reduceEqDiff, reduceIte, Value.cells, e0, e1, hB3.cell, hB4.cell] <;> rfl) rfl hB3 (by first | decide | (simp; done) | (simp; omega)) (by simp [Value.oneCell']) ?_
  intro h5 hw5
  replace hE := hw5.ext hE hb0_3
  replace hEo3 := hw5.ext hEo3 hlt3
  replace hB4 := hB4.wr hw5 hne3_4
  replace hB3 := hw5.at_
  try simp only [splc, List.take_succ_cons, List.take_zero, List.take_nil, List.drop_succ_cons, List.drop_zero, List.drop_nil, List.cons_append, List.nil_append, List.length_cons, List.length_nil, Nat.zero_add, Nat.add_zero, Nat.reduceAdd, List.append_nil] at hB3
  refine WL.store (by simp only [ev_tmp, ev_const, ev_func, set_get, Nat.reduceEqDiff, reduceIte, e0, e1, hB3.cell, hB4.cell] <;> rfl) sz70 (by simp only [ev_tmp, ev_const, ev_func, set_get, Nat.reduceEqDiff, reduceIte, Value.cells, e0, e1, hB3.cell, hB4.cell] <;> rfl) rfl hB4 (by first | decide | (simp; done) | (simp; omega)) (by simp [Value.oneCell']) ?_
  intro h6 hw6
  replace hE := hw6.ext hE hb0_4
  replace hEo3 := hw6.ext hEo3 hbo3_4
  replace hB3 := hB3.wr hw6 (Ne.symm hne3_4)
  replace hB4 := hw6.at_
  try simp only [splc, List.take_succ_cons, List.take_zero, List.take_nil, List.drop_succ_cons, List.drop_zero, List.drop_nil, List.cons_append, List.nil_append, List.length_cons, List.length_nil, Nat.zero_add, Nat.add_zero, Nat.reduceAdd, List.append_nil] at hB4
  refine WL.nil ?_
  refine th_norm ?_
  refine hx_seq ?_
  refine hx_region ?_
  refine WL.qq (by simp only [ev_tmp, ev_const, ev_func, set_get, Nat.reduceEqDiff, reduceIte, qv_fieldAddr, fa70_0, Nat.zero_add, Nat.reduceAdd, e0, e1, hB3.cell, hB4.cell]; rfl) ?_
  refine WL.qq (by simp only [ev_tmp, ev_const, ev_func, set_get, Nat.reduceEqDiff, reduceIte, qv_load, ld3, readN, List.getElem?_toArray, List.getElem?_cons_zero, List.getElem?_cons_succ, List.map_toArray, List.map_cons, List.map_nil, Option.map_some, Option.bind_some, Nat.zero_add, Nat.reduceAdd, e0, e1, hB3.cell, hB4.cell]; rfl) ?_
  refine WL.qq (by simp only [ev_tmp, ev_const, ev_func, set_get, Nat.reduceEqDiff, reduceIte, qv_fieldAddr, fa70_0, Nat.zero_add, Nat.reduceAdd, e0, e1, hB3.cell, hB4.cell]; rfl) ?_
  refine WL.qq (by simp only [ev_tmp, ev_const, ev_func, set_get, Nat.reduceEqDiff, reduceIte, qv_load, ld3, readN, List.getElem?_toArray, List.getElem?_cons_zero, List.getElem?_cons_succ, List.map_toArray, List.map_cons, List.map_nil, Option.map_some, Option.bind_some, Nat.zero_add, Nat.reduceAdd, e0, e1, hB3.cell, hB4.cell]; rfl) ?_
  refine WL.qq (by simp only [ev_tmp, ev_const, ev_func, set_get, Nat.reduceEqDiff, reduceIte, qv_binOp, binv_eql, eq3, Option.map_some, e0, e1, hB3.cell, hB4.cell]; rfl) ?_
  refine WL.qq (by simp only [ev_tmp, ev_const, ev_func, set_get, Nat.reduceEqDiff, reduceIte, qv_move, e0, e1, hB3.cell, hB4.cell]; rfl) ?_
  refine WL.cq (gd_at (t := 16) rfl (by simp only [ev_tmp, ev_const, ev_func, set_get, Nat.reduceEqDiff, reduceIte, e0, e1, hB3.cell, hB4.cell]; rfl)) (fun hg2_6 => by simp only [ev_tmp, ev_const, ev_func, set_get, Nat.reduceEqDiff, reduceIte, qv_fieldAddr, fa70_1, Nat.zero_add, Nat.reduceAdd, e0, e1, hB3.cell, hB4.cell, hg2_6, Bool.false_eq_true, Bool.true_eq_false, eq_self, if_true, if_false, true_and, and_true, false_and, and_false]; rfl) ?_
  refine WL.cq (gd_at (t := 16) rfl (by simp only [ev_tmp, ev_const, ev_func, set_get, Nat.reduceEqDiff, reduceIte, e0, e1, hB3.cell, hB4.cell]; rfl)) (fun hg2_7 => by simp only [ev_tmp, ev_const, ev_func, set_get, Nat.reduceEqDiff, reduceIte, qv_load, ld3, readN, List.getElem?_toArray, List.getElem?_cons_zero, List.getElem?_cons_succ, List.map_toArray, List.map_cons, List.map_nil, Option.map_some, Option.bind_some, Nat.zero_add, Nat.reduceAdd, e0, e1, hB3.cell, hB4.cell, hg2_7, Bool.false_eq_true, Bool.true_eq_false, eq_self, if_true, if_false, true_and, and_true, false_and, and_false]; rfl) ?_
  refine WL.cq (gd_at (t := 16) rfl (by simp only [ev_tmp, ev_const, ev_func, set_get, Nat.reduceEqDiff, reduceIte, e0, e1, hB3.cell, hB4.cell]; rfl)) (fun hg2_8 => by simp only [ev_tmp, ev_const, ev_func, set_get, Nat.reduceEqDiff, reduceIte, qv_fieldAddr, fa70_1, Nat.zero_add, Nat.reduceAdd, e0, e1, hB3.cell, hB4.cell, hg2_8, Bool.false_eq_true, Bool.true_eq_false, eq_self, if_true, if_false, true_and, and_true, false_and, and_false]; rfl) ?_
  refine WL.cq (gd_at (t := 16) rfl (by simp only [ev_tmp, ev_const, ev_func, set_get, Nat.reduceEqDiff, reduceIte, e0, e1, hB3.cell, hB4.cell]; rfl)) (fun hg2_9 => by simp only [ev_tmp, ev_const, ev_func, set_get, Nat.reduceEqDiff, reduceIte, qv_load, ld3, readN, List.getElem?_toArray, List.getElem?_cons_zero, List.getElem?_cons_succ, List.map_toArray, List.map_cons, List.map_nil, Option.map_some, Option.bind_some, Nat.zero_add, Nat.reduceAdd, e0, e1, hB3.cell, hB4.cell, hg2_9, Bool.false_eq_true, Bool.true_eq_false, eq_self, if_true, if_false, true_and, and_true, false_and, and_false]; rfl) ?_
  refine WL.cq (gd_at (t := 16) rfl (by simp only [ev_tmp, ev_const, ev_func, set_get, Nat.reduceEqDiff, reduceIte, e0, e1, hB3.cell, hB4.cell]; rfl)) (fun hg2_10 => by simp only [ev_tmp, ev_const, ev_func, set_get, Nat.reduceEqDiff, reduceIte, qv_binOp, binv_eql, eq3, Option.map_some, e0, e1, hB3.cell, hB4.cell, hg2_10, Bool.false_eq_true, Bool.true_eq_false, eq_self, if_true, if_false, true_and, and_true, false_and, and_false]; rfl) ?_
  refine WL.qq (by simp only [ev_tmp, ev_const, ev_func, set_get, Nat.reduceEqDiff, reduceIte, qv_pick, pk_and, pk_or, Bool.false_eq_true, Bool.true_eq_false, eq_self, if_true, if_false, true_and, and_true, false_and, and_false, e0, e1, hB3.cell, hB4.cell]; rfl) ?_
  refine WL.qq (by simp only [ev_tmp, ev_const, ev_func, set_get, Nat.reduceEqDiff, reduceIte, qv_assign, e0, e1, hB3.cell, hB4.cell]; rfl) ?_
  refine WL.nil ?_
  refine th_norm ?_
  refine hx_ret ?_
  refine fin_ret [.tmp 4] rfl rfl (by simp only [ev_tmp, ev_const, ev_func, set_get, Nat.reduceEqDiff, reduceIte, resv, e0, e1, hB3.cell, hB4.cell]; rfl) ?_  -- ret 0 r2
  exact ⟨rfl, hE⟩
theorem scan_valid (bus : Int → Bool) (s : Int) : ∀ (f : Nat) (d d' : Int), scanM bus s f d = some d' → validM d' = true
  | 0, d, d', h => by simp [scanM] at h
  | f + 1, d, d', h => by
    simp only [scanM] at h
    split at h
    · rename_i hv
      split at h
      · cases h; exact hv
      · exact scan_valid bus s f _ _ h
    · cases h
theorem step_ok {bus : Int → Bool} {m s x y : Int} (h : stepM bus m s = (x, y)) (hy : y = 0) : 0 ≤ x ∧ x ≤ 73048 := by
  unfold stepM at h
  split at h
  · cases hs : scanM bus s 73050 (m + s) with
    | none => rw [hs] at h; cases h; omega
    | some d => rw [hs] at h; cases h; exact valid_bd (scan_valid _ _ _ _ _ hs)
  · cases h; omega
def dirM (r : Int) : Int := if r = 1 ∨ r = 3 then -1 else 1
theorem dir_cases (r : Int) : dirM r = 1 ∨ dirM r = -1 := by unfold dirM; split <;> simp
noncomputable def adjM (bus : Int → Bool) (m r : Int) : Int × Int :=
  if validM m = true then (if r < 0 ∨ 3 < r then (0, 11) else if bus m = true then (m, 0) else
    if 2 ≤ r ∧ ((stepM bus m (dirM r)).2 ≠ 0 ∨ smM (stepM bus m (dirM r)).1 m = false) then stepM bus m (- dirM r) else stepM bus m (dirM r)) else (0, 2)
theorem c_radjust (wk hol : List Int) (a a' : Option Addr) (c c' : Nat) (m r : Int) {x1 y1 x2 y2 : Int} {h : Heap} (hw : SlI h a wk) (hh : SlI h a' hol) (lw : wk.length ≤ 9223372036854775807) (lh : hol.length ≤ 9223372036854775807)
    (s1 : stepM (busM wk hol) m (dirM r) = (x1, y1)) (s2 : stepM (busM wk hol) m (- dirM r) = (x2, y2)) {u v : Int} (ha : adjM (busM wk hol) m r = (u, v)) :
    HCalls Try.prog 31 #[.agg #[.slice a wk.length c, .slice a' hol.length c'], .int .i64 m, .int .i64 r] h (Grow (.tuple #[.int .i64 u, .int .i64 v]) h) := by
  refine hcalls2 Try.func31 rfl (by decide +kernel) (by simp only [Try.ntmps31]; exact of_decide_eq_true rfl) ?_
  intro e hin
  have e0 := hin 0 _ rfl
  have e1 := hin 1 _ rfl
  have e2 := hin 2 _ rfl
  refine hx_seq ?_
  refine hx_region ?_
  refine WL.box2 (by simp only [ev_tmp, ev_const, ev_func, set_get, Nat.reduceEqDiff, reduceIte, Value.cells, e0, e1, e2]; rfl) ?_
  intro h1 B1 hx1 hlt1 hB1
  replace hw := hw.ext hx1
  replace hh := hh.ext hx1
  refine WL.qq (by simp only [ev_tmp, ev_const, ev_func, set_get, Nat.reduceEqDiff, reduceIte, qv_assign, e0, e1, e2, hB1.cell]; rfl) ?_
  refine WL.qq (by simp only [ev_tmp, ev_const, ev_func, set_get, Nat.reduceEqDiff, reduceIte, qv_assign, e0, e1, e2, hB1.cell]; rfl) ?_
  refine WL.nil ?_
  refine th_norm ?_
  refine hx_seq ?_
  refine hx_seq ?_
  refine hx_region ?_
  refine WL.qq (by simp only [ev_tmp, ev_const, ev_func, set_get, Nat.reduceEqDiff, reduceIte, qv_move, e0, e1, e2, hB1.cell]; rfl) ?_
  refine WL.ck Try.call37 (by simp only [ev_tmp, ev_const, ev_func, set_get, Nat.reduceEqDiff, reduceIte, List.getElem?_toArray, List.getElem?_cons_zero, List.getElem?_cons_succ, List.map_toArray, List.map_cons, List.map_nil, Option.map_some, Option.bind_some, e0, e1, e2, hB1.cell]; exact c_rvalid _ _) ?_
  refine WL.qq (by simp only [ev_tmp, ev_const, ev_func, set_get, Nat.reduceEqDiff, reduceIte, qv_unOp, unv_not, e0, e1, e2, hB1.cell]; rfl) ?_
  refine WL.nil ?_
  refine th_norm ?_
  refine hx_cond (by simp only [ev_tmp, ev_const, ev_func, set_get, Nat.reduceEqDiff, reduceIte, e0, e1, e2, hB1.cell]; rfl) (fun hct13 => ?_) (fun hct13 => ?_)
  ·
    try simp only [decide_eq_true_eq, decide_eq_false_iff_not, Bool.and_eq_true, Bool.and_eq_false_iff, Bool.or_eq_true, Bool.or_eq_false_iff, Bool.not_eq_true', Bool.not_eq_false', Bool.not_eq_true, Bool.not_eq_false] at hct13
    refine hx_seq ?_
    refine hx_region ?_
    refine WL.qq (by simp only [ev_tmp, ev_const, ev_func, set_get, Nat.reduceEqDiff, reduceIte, qv_assign, e0, e1, e2, hB1.cell]; rfl) ?_
    refine WL.qq (by simp only [ev_tmp, ev_const, ev_func, set_get, Nat.reduceEqDiff, reduceIte, qv_assign, e0, e1, e2, hB1.cell]; rfl) ?_
    refine WL.nil ?_
    refine th_norm ?_
    refine hx_ret ?_
    refine th_ret ?_
    refine fin_ret [.tmp 6, .tmp 7] rfl rfl (by simp only [ev_tmp, ev_const, ev_func, set_get, Nat.reduceEqDiff, reduceIte, resv, e0, e1, e2, hB1.cell]; rfl) ?_  -- ret 0 r2
    unfold adjM at ha; rw [if_neg (by simp [hct13])] at ha; cases ha; exact ⟨rfl, (hx1)⟩
  ·
    try simp only [decide_eq_true_eq, decide_eq_false_iff_not, Bool.and_eq_true, Bool.and_eq_false_iff, Bool.or_eq_true, Bool.or_eq_false_iff, Bool.not_eq_true', Bool.not_eq_false', Bool.not_eq_true, Bool.not_eq_false] at hct13
    have hv := valid_bd hct13
    unfold adjM at ha; rw [if_pos hct13, s1, s2] at ha
    refine hx_skip ?_
    refine th_norm ?_
    refine hx_seq ?_
    refine hx_seq ?_
    refine hx_region ?_
    refine WL.qq (by simp only [ev_tmp, ev_const, ev_func, set_get, Nat.reduceEqDiff, reduceIte, qv_move, e0, e1, e2, hB1.cell]; rfl) ?_
    refine WL.qq (by simp only [ev_tmp, ev_const, ev_func, set_get, Nat.reduceEqDiff, reduceIte, qv_binOp, binv_lss, e0, e1, e2, hB1.cell]; rfl) ?_
    refine WL.qq (by simp only [ev_tmp, ev_const, ev_func, set_get, Nat.reduceEqDiff, reduceIte, qv_move, e0, e1, e2, hB1.cell]; rfl) ?_
    refine WL.cq (gd_at (t := 16) rfl (by simp only [ev_tmp, ev_const, ev_func, set_get, Nat.reduceEqDiff, reduceIte, e0, e1, e2, hB1.cell]; rfl)) (fun hg3_3 => by simp only [ev_tmp, ev_const, ev_func, set_get, Nat.reduceEqDiff, reduceIte, qv_move, e0, e1, e2, hB1.cell, hg3_3, Bool.false_eq_true, Bool.true_eq_false, eq_self, if_true, if_false, true_and, and_true, false_and, and_false]; rfl) ?_
    refine WL.cq (gd_at (t := 16) rfl (by simp only [ev_tmp, ev_const, ev_func, set_get, Nat.reduceEqDiff, reduceIte, e0, e1, e2, hB1.cell]; rfl)) (fun hg3_4 => by simp only [ev_tmp, ev_const, ev_func, set_get, Nat.reduceEqDiff, reduceIte, qv_binOp, binv_gtr, e0, e1, e2, hB1.cell, hg3_4, Bool.false_eq_true, Bool.true_eq_false, eq_self, if_true, if_false, true_and, and_true, false_and, and_false]; rfl) ?_
    refine WL.qq (by simp only [ev_tmp, ev_const, ev_func, set_get, Nat.reduceEqDiff, reduceIte, qv_pick, pk_and, pk_or, Bool.false_eq_true, Bool.true_eq_false, eq_self, if_true, if_false, true_and, and_true, false_and, and_false, e0, e1, e2, hB1.cell]; rfl) ?_
    refine WL.nil ?_
    refine th_norm ?_
    refine hx_cond (by simp only [ev_tmp, ev_const, ev_func, set_get, Nat.reduceEqDiff, reduceIte, e0, e1, e2, hB1.cell]; rfl) (fun hct19 => ?_) (fun hct19 => ?_)
    ·
      try simp only [decide_eq_true_eq, decide_eq_false_iff_not, Bool.and_eq_true, Bool.and_eq_false_iff, Bool.or_eq_true, Bool.or_eq_false_iff, Bool.not_eq_true', Bool.not_eq_false', Bool.not_eq_true, Bool.not_eq_false] at hct19
      refine hx_seq ?_
      refine hx_region ?_
      refine WL.qq (by simp only [ev_tmp, ev_const, ev_func, set_get, Nat.reduceEqDiff, reduceIte, qv_assign, e0, e1, e2, hB1.cell]; rfl) ?_
      refine WL.qq (by simp only [ev_tmp, ev_const, ev_func, set_get, Nat.reduceEqDiff, reduceIte, qv_assign, e0, e1, e2, hB1.cell]; rfl) ?_
      refine WL.nil ?_
      refine th_norm ?_
      refine hx_ret ?_
      refine th_ret ?_
      refine fin_ret [.tmp 6, .tmp 7] rfl rfl (by simp only [ev_tmp, ev_const, ev_func, set_get, Nat.reduceEqDiff, reduceIte, resv, e0, e1, e2, hB1.cell]; rfl) ?_  -- ret 1 r4
      rw [if_pos (by omega)] at ha; cases ha; exact ⟨rfl, (hx1)⟩
    ·
      try simp only [decide_eq_true_eq, decide_eq_false_iff_not, Bool.and_eq_true, Bool.and_eq_false_iff, Bool.or_eq_true, Bool.or_eq_false_iff, Bool.not_eq_true', Bool.not_eq_false', Bool.not_eq_true, Bool.not_eq_false] at hct19
      rw [if_neg (by omega)] at ha
      refine hx_skip ?_
      refine th_norm ?_
      refine hx_seq ?_
      refine hx_seq ?_
      refine hx_region ?_
      refine WL.qq (by simp only [ev_tmp, ev_const, ev_func, set_get, Nat.reduceEqDiff, reduceIte, qv_load, ld24, readN, List.getElem?_toArray, List.getElem?_cons_zero, List.getElem?_cons_succ, List.map_toArray, List.map_cons, List.map_nil, Option.map_some, Option.bind_some, Nat.zero_add, Nat.reduceAdd, e0, e1, e2, hB1.cell]; rfl) ?_
      refine WL.qq (by simp only [ev_tmp, ev_const, ev_func, set_get, Nat.reduceEqDiff, reduceIte, qv_move, e0, e1, e2, hB1.cell]; rfl) ?_
      refine WL.cg Try.call22 (by simp only [ev_tmp, ev_const, ev_func, set_get, Nat.reduceEqDiff, reduceIte, List.getElem?_toArray, List.getElem?_cons_zero, List.getElem?_cons_succ, List.map_toArray, List.map_cons, List.map_nil, Option.map_some, Option.bind_some, e0, e1, e2, hB1.cell]; exact c_ris wk hol _ _ _ _ m hw hh lw lh) ?_
      intro h2 hx2
      replace hw := hw.ext hx2
      replace hh := hh.ext hx2
      replace hB1 := hB1.ext hx2
      refine WL.nil ?_
      refine th_norm ?_
      refine hx_cond (by simp only [ev_tmp, ev_const, ev_func, set_get, Nat.reduceEqDiff, reduceIte, e0, e1, e2, hB1.cell]; rfl) (fun hct22 => ?_) (fun hct22 => ?_)
      ·
        try simp only [decide_eq_true_eq, decide_eq_false_iff_not, Bool.and_eq_true, Bool.and_eq_false_iff, Bool.or_eq_true, Bool.or_eq_false_iff, Bool.not_eq_true', Bool.not_eq_false', Bool.not_eq_true, Bool.not_eq_false] at hct22
        refine hx_seq ?_
        refine hx_region ?_
        refine WL.qq (by simp only [ev_tmp, ev_const, ev_func, set_get, Nat.reduceEqDiff, reduceIte, qv_move, e0, e1, e2, hB1.cell]; rfl) ?_
        refine WL.qq (by simp only [ev_tmp, ev_const, ev_func, set_get, Nat.reduceEqDiff, reduceIte, qv_assign, e0, e1, e2, hB1.cell]; rfl) ?_
        refine WL.qq (by simp only [ev_tmp, ev_const, ev_func, set_get, Nat.reduceEqDiff, reduceIte, qv_assign, e0, e1, e2, hB1.cell]; rfl) ?_
        refine WL.nil ?_
        refine th_norm ?_
        refine hx_ret ?_
        refine th_ret ?_
        refine fin_ret [.tmp 6, .tmp 7] rfl rfl (by simp only [ev_tmp, ev_const, ev_func, set_get, Nat.reduceEqDiff, reduceIte, resv, e0, e1, e2, hB1.cell]; rfl) ?_  -- ret 2 r6
        rw [if_pos hct22] at ha; cases ha; exact ⟨rfl, ((hx1).trans (hx2))⟩
      ·
        try simp only [decide_eq_true_eq, decide_eq_false_iff_not, Bool.and_eq_true, Bool.and_eq_false_iff, Bool.or_eq_true, Bool.or_eq_false_iff, Bool.not_eq_true', Bool.not_eq_false', Bool.not_eq_true, Bool.not_eq_false] at hct22
        rw [if_neg (by simp [hct22])] at ha
        refine hx_skip ?_
        refine th_norm ?_
        refine hx_seq ?_
        refine hx_region ?_
        refine WL.qq (by simp only [ev_tmp, ev_const, ev_func, set_get, Nat.reduceEqDiff, reduceIte, qv_assign, e0, e1, e2, hB1.cell]; rfl) ?_
        refine WL.nil ?_
        refine th_norm ?_
        refine hx_cutS [8, 24, 25, 26, 27, 28, 29] (fun e => e 8 = .int .i64 (dirM r)) ?_ ?_
        ·
          refine hx_seq ?_
          refine hx_region ?_
          refine WL.qq (by simp only [ev_tmp, ev_const, ev_func, set_get, Nat.reduceEqDiff, reduceIte, qv_move, e0, e1, e2, hB1.cell]; rfl) ?_
          refine WL.qq (by simp only [ev_tmp, ev_const, ev_func, set_get, Nat.reduceEqDiff, reduceIte, qv_binOp, binv_eql, eq3, Option.map_some, e0, e1, e2, hB1.cell]; rfl) ?_
          refine WL.qq (by simp only [ev_tmp, ev_const, ev_func, set_get, Nat.reduceEqDiff, reduceIte, qv_move, e0, e1, e2, hB1.cell]; rfl) ?_
          refine WL.cq (gd_at (t := 26) rfl (by simp only [ev_tmp, ev_const, ev_func, set_get, Nat.reduceEqDiff, reduceIte, e0, e1, e2, hB1.cell]; rfl)) (fun hg8_3 => by simp only [ev_tmp, ev_const, ev_func, set_get, Nat.reduceEqDiff, reduceIte, qv_move, e0, e1, e2, hB1.cell, hg8_3, Bool.false_eq_true, Bool.true_eq_false, eq_self, if_true, if_false, true_and, and_true, false_and, and_false]; rfl) ?_
          refine WL.cq (gd_at (t := 26) rfl (by simp only [ev_tmp, ev_const, ev_func, set_get, Nat.reduceEqDiff, reduceIte, e0, e1, e2, hB1.cell]; rfl)) (fun hg8_4 => by simp only [ev_tmp, ev_const, ev_func, set_get, Nat.reduceEqDiff, reduceIte, qv_binOp, binv_eql, eq3, Option.map_some, e0, e1, e2, hB1.cell, hg8_4, Bool.false_eq_true, Bool.true_eq_false, eq_self, if_true, if_false, true_and, and_true, false_and, and_false]; rfl) ?_
          refine WL.qq (by simp only [ev_tmp, ev_const, ev_func, set_get, Nat.reduceEqDiff, reduceIte, qv_pick, pk_and, pk_or, Bool.false_eq_true, Bool.true_eq_false, eq_self, if_true, if_false, true_and, and_true, false_and, and_false, e0, e1, e2, hB1.cell]; rfl) ?_
          refine WL.nil ?_
          refine th_norm ?_
          refine hx_cond (by simp only [ev_tmp, ev_const, ev_func, set_get, Nat.reduceEqDiff, reduceIte, e0, e1, e2, hB1.cell]; rfl) (fun hct29 => ?_) (fun hct29 => ?_)
          ·
            try simp only [decide_eq_true_eq, decide_eq_false_iff_not, Bool.and_eq_true, Bool.and_eq_false_iff, Bool.or_eq_true, Bool.or_eq_false_iff, Bool.not_eq_true', Bool.not_eq_false', Bool.not_eq_true, Bool.not_eq_false] at hct29
            refine hx_region ?_
            refine WL.qq (by simp only [ev_tmp, ev_const, ev_func, set_get, Nat.reduceEqDiff, reduceIte, qv_assign, e0, e1, e2, hB1.cell]; rfl) ?_
            refine WL.nil ?_
            refine th_norm ?_
            refine ⟨rfl, rfl, ?_, ?_⟩  -- meet 0 of cut 8
            · (repeat (first | exact Fr.refl _ _ | refine Fr.set rfl ?_ | refine Fr.put rfl ?_ | refine Fr.put0 ?_ | refine Fr.trans ?_ (Fr.of hfc8 rfl)))
            · simp only [ev_tmp, ev_const, ev_func, set_get, Nat.reduceEqDiff, reduceIte, e0, e1, e2, hB1.cell] <;> first | (rw [show dirM r = -1 from if_pos (by omega)]) | (rw [show dirM r = 1 from if_neg (by omega)]) | rfl
          ·
            try simp only [decide_eq_true_eq, decide_eq_false_iff_not, Bool.and_eq_true, Bool.and_eq_false_iff, Bool.or_eq_true, Bool.or_eq_false_iff, Bool.not_eq_true', Bool.not_eq_false', Bool.not_eq_true, Bool.not_eq_false] at hct29
            refine hx_skip ?_
            refine th_norm ?_
            refine ⟨rfl, rfl, ?_, ?_⟩  -- meet 1 of cut 8
            · (repeat (first | exact Fr.refl _ _ | refine Fr.set rfl ?_ | refine Fr.put rfl ?_ | refine Fr.put0 ?_ | refine Fr.trans ?_ (Fr.of hfc8 rfl)))
            · simp only [ev_tmp, ev_const, ev_func, set_get, Nat.reduceEqDiff, reduceIte, e0, e1, e2, hB1.cell] <;> first | (rw [show dirM r = -1 from if_pos (by omega)]) | (rw [show dirM r = 1 from if_neg (by omega)]) | rfl
        ·
          rintro ec8 hfc8 i8_c8
          have k1_c8 := hfc8 1 rfl; simp only [ev_tmp, ev_const, ev_func, set_get, Nat.reduceEqDiff, reduceIte, e0, e1, e2, hB1.cell] at k1_c8
          have k2_c8 := hfc8 2 rfl; simp only [ev_tmp, ev_const, ev_func, set_get, Nat.reduceEqDiff, reduceIte, e0, e1, e2, hB1.cell] at k2_c8
          have k3_c8 := hfc8 3 rfl; simp only [ev_tmp, ev_const, ev_func, set_get, Nat.reduceEqDiff, reduceIte, e0, e1, e2, hB1.cell] at k3_c8
          have k6_c8 := hfc8 6 rfl; simp only [ev_tmp, ev_const, ev_func, set_get, Nat.reduceEqDiff, reduceIte, e0, e1, e2, hB1.cell] at k6_c8
          have k7_c8 := hfc8 7 rfl; simp only [ev_tmp, ev_const, ev_func, set_get, Nat.reduceEqDiff, reduceIte, e0, e1, e2, hB1.cell] at k7_c8
          refine hx_seq ?_
          refine hx_region ?_
          refine WL.qq (by simp only [ev_tmp, ev_const, ev_func, set_get, Nat.reduceEqDiff, reduceIte, qv_load, ld24, readN, List.getElem?_toArray, List.getElem?_cons_zero, List.getElem?_cons_succ, List.map_toArray, List.map_cons, List.map_nil, Option.map_some, Option.bind_some, Nat.zero_add, Nat.reduceAdd, k1_c8, k2_c8, k3_c8, k6_c8, k7_c8, i8_c8, hB1.cell]; rfl) ?_
          refine WL.qq (by simp only [ev_tmp, ev_const, ev_func, set_get, Nat.reduceEqDiff, reduceIte, qv_move, k1_c8, k2_c8, k3_c8, k6_c8, k7_c8, i8_c8, hB1.cell]; rfl) ?_
          refine WL.qq (by simp only [ev_tmp, ev_const, ev_func, set_get, Nat.reduceEqDiff, reduceIte, qv_move, k1_c8, k2_c8, k3_c8, k6_c8, k7_c8, i8_c8, hB1.cell]; rfl) ?_
          refine WL.cg Try.call18 (by simp only [ev_tmp, ev_const, ev_func, set_get, Nat.reduceEqDiff, reduceIte, List.getElem?_toArray, List.getElem?_cons_zero, List.getElem?_cons_succ, List.map_toArray, List.map_cons, List.map_nil, Option.map_some, Option.bind_some, k1_c8, k2_c8, k3_c8, k6_c8, k7_c8, i8_c8, hB1.cell]; exact pair_grow s1 (c_step wk hol _ _ _ _ m (dirM r) (dir_cases r) hw hh lw lh)) ?_
          intro h3 hx3
          replace hw := hw.ext hx3
          replace hh := hh.ext hx3
          replace hB1 := hB1.ext hx3
          refine WL.qq (by simp only [ev_tmp, ev_const, ev_func, set_get, Nat.reduceEqDiff, reduceIte, qv_move, k1_c8, k2_c8, k3_c8, k6_c8, k7_c8, i8_c8, hB1.cell]; rfl) ?_
          refine WL.qq (by simp only [ev_tmp, ev_const, ev_func, set_get, Nat.reduceEqDiff, reduceIte, qv_extract, List.getElem?_toArray, List.getElem?_cons_zero, List.getElem?_cons_succ, List.map_toArray, List.map_cons, List.map_nil, Option.map_some, Option.bind_some, k1_c8, k2_c8, k3_c8, k6_c8, k7_c8, i8_c8, hB1.cell]; rfl) ?_
          refine WL.qq (by simp only [ev_tmp, ev_const, ev_func, set_get, Nat.reduceEqDiff, reduceIte, qv_extract, List.getElem?_toArray, List.getElem?_cons_zero, List.getElem?_cons_succ, List.map_toArray, List.map_cons, List.map_nil, Option.map_some, Option.bind_some, k1_c8, k2_c8, k3_c8, k6_c8, k7_c8, i8_c8, hB1.cell]; rfl) ?_
          refine WL.qq (by simp only [ev_tmp, ev_const, ev_func, set_get, Nat.reduceEqDiff, reduceIte, qv_assign, k1_c8, k2_c8, k3_c8, k6_c8, k7_c8, i8_c8, hB1.cell]; rfl) ?_
          refine WL.qq (by simp only [ev_tmp, ev_const, ev_func, set_get, Nat.reduceEqDiff, reduceIte, qv_assign, k1_c8, k2_c8, k3_c8, k6_c8, k7_c8, i8_c8, hB1.cell]; rfl) ?_
          refine WL.nil ?_
          refine th_norm ?_
          refine hx_seq ?_
          refine hx_seq ?_
          refine hx_region ?_
          refine WL.qq (by simp only [ev_tmp, ev_const, ev_func, set_get, Nat.reduceEqDiff, reduceIte, qv_move, k1_c8, k2_c8, k3_c8, k6_c8, k7_c8, i8_c8, hB1.cell]; rfl) ?_
          refine WL.qq (by simp only [ev_tmp, ev_const, ev_func, set_get, Nat.reduceEqDiff, reduceIte, qv_binOp, binv_geq, k1_c8, k2_c8, k3_c8, k6_c8, k7_c8, i8_c8, hB1.cell]; rfl) ?_
          refine WL.qq (by simp only [ev_tmp, ev_const, ev_func, set_get, Nat.reduceEqDiff, reduceIte, qv_move, k1_c8, k2_c8, k3_c8, k6_c8, k7_c8, i8_c8, hB1.cell]; rfl) ?_
          refine WL.cq (gd_at (t := 39) rfl (by simp only [ev_tmp, ev_const, ev_func, set_get, Nat.reduceEqDiff, reduceIte, k1_c8, k2_c8, k3_c8, k6_c8, k7_c8, i8_c8, hB1.cell]; rfl)) (fun hg11_3 => by simp only [ev_tmp, ev_const, ev_func, set_get, Nat.reduceEqDiff, reduceIte, qv_move, k1_c8, k2_c8, k3_c8, k6_c8, k7_c8, i8_c8, hB1.cell, hg11_3, Bool.false_eq_true, Bool.true_eq_false, eq_self, if_true, if_false, true_and, and_true, false_and, and_false]; rfl) ?_
          refine WL.cq (gd_at (t := 39) rfl (by simp only [ev_tmp, ev_const, ev_func, set_get, Nat.reduceEqDiff, reduceIte, k1_c8, k2_c8, k3_c8, k6_c8, k7_c8, i8_c8, hB1.cell]; rfl)) (fun hg11_4 => by simp only [ev_tmp, ev_const, ev_func, set_get, Nat.reduceEqDiff, reduceIte, qv_binOp, binv_neq, eq3, Option.map_some, k1_c8, k2_c8, k3_c8, k6_c8, k7_c8, i8_c8, hB1.cell, hg11_4, Bool.false_eq_true, Bool.true_eq_false, eq_self, if_true, if_false, true_and, and_true, false_and, and_false]; rfl) ?_
          refine WL.cq (gd_at (t := 39) rfl (by simp only [ev_tmp, ev_const, ev_func, set_get, Nat.reduceEqDiff, reduceIte, k1_c8, k2_c8, k3_c8, k6_c8, k7_c8, i8_c8, hB1.cell]; rfl)) (fun hg11_5 => by simp only [ev_tmp, ev_const, ev_func, set_get, Nat.reduceEqDiff, reduceIte, qv_move, k1_c8, k2_c8, k3_c8, k6_c8, k7_c8, i8_c8, hB1.cell, hg11_5, Bool.false_eq_true, Bool.true_eq_false, eq_self, if_true, if_false, true_and, and_true, false_and, and_false]; rfl) ?_
          refine WL.cq2 (t := 42) rfl (by simp only [ev_tmp, ev_const, ev_func, set_get, Nat.reduceEqDiff, reduceIte, k1_c8, k2_c8, k3_c8, k6_c8, k7_c8, i8_c8, hB1.cell]; rfl) (fun hC11_6 hg11_6 => by simp only [ev_tmp, ev_const, ev_func, set_get, Nat.reduceEqDiff, reduceIte, qv_move, k1_c8, k2_c8, k3_c8, k6_c8, k7_c8, i8_c8, hB1.cell, hC11_6, hg11_6, Bool.false_eq_true, Bool.true_eq_false, eq_self, if_true, if_false, true_and, and_true, false_and, and_false]; rfl) ?_
          refine WL.cq2 (t := 42) rfl (by simp only [ev_tmp, ev_const, ev_func, set_get, Nat.reduceEqDiff, reduceIte, k1_c8, k2_c8, k3_c8, k6_c8, k7_c8, i8_c8, hB1.cell]; rfl) (fun hC11_7 hg11_7 => by simp only [ev_tmp, ev_const, ev_func, set_get, Nat.reduceEqDiff, reduceIte, qv_move, k1_c8, k2_c8, k3_c8, k6_c8, k7_c8, i8_c8, hB1.cell, hC11_7, hg11_7, Bool.false_eq_true, Bool.true_eq_false, eq_self, if_true, if_false, true_and, and_true, false_and, and_false]; rfl) ?_
          refine WL.ccg2 (t := 42) rfl (by simp only [ev_tmp, ev_const, ev_func, set_get, Nat.reduceEqDiff, reduceIte, k1_c8, k2_c8, k3_c8, k6_c8, k7_c8, i8_c8, hB1.cell]; rfl) Try.call53 (fun hC11_8 hg11_8 => by simp only [ev_tmp, ev_const, ev_func, set_get, Nat.reduceEqDiff, reduceIte, List.getElem?_toArray, List.getElem?_cons_zero, List.getElem?_cons_succ, List.map_toArray, List.map_cons, List.map_nil, Option.map_some, Option.bind_some, k1_c8, k2_c8, k3_c8, k6_c8, k7_c8, i8_c8, hB1.cell, hC11_8, hg11_8, Bool.false_eq_true, Bool.true_eq_false, eq_self, if_true, if_false, true_and, and_true, false_and, and_false]; exact c_rsameMonth x1 m (step_ok s1 (by simpa using hg11_8)) hv _) ?_
          intro h4 hx4
          replace hw := hw.ext hx4
          replace hh := hh.ext hx4
          replace hB1 := hB1.ext hx4
          refine WL.cq2 (t := 42) rfl (by simp only [ev_tmp, ev_const, ev_func, set_get, Nat.reduceEqDiff, reduceIte, k1_c8, k2_c8, k3_c8, k6_c8, k7_c8, i8_c8, hB1.cell]; rfl) (fun hC11_9 hg11_9 => by simp only [ev_tmp, ev_const, ev_func, set_get, Nat.reduceEqDiff, reduceIte, qv_unOp, unv_not, k1_c8, k2_c8, k3_c8, k6_c8, k7_c8, i8_c8, hB1.cell, hC11_9, hg11_9, Bool.false_eq_true, Bool.true_eq_false, eq_self, if_true, if_false, true_and, and_true, false_and, and_false]; rfl) ?_
          refine WL.cq (gd_at (t := 39) rfl (by simp only [ev_tmp, ev_const, ev_func, set_get, Nat.reduceEqDiff, reduceIte, k1_c8, k2_c8, k3_c8, k6_c8, k7_c8, i8_c8, hB1.cell]; rfl)) (fun hg11_10 => by simp only [ev_tmp, ev_const, ev_func, set_get, Nat.reduceEqDiff, reduceIte, qv_pick, pk_and, pk_or, Bool.false_eq_true, Bool.true_eq_false, eq_self, if_true, if_false, true_and, and_true, false_and, and_false, k1_c8, k2_c8, k3_c8, k6_c8, k7_c8, i8_c8, hB1.cell, hg11_10, Bool.false_eq_true, Bool.true_eq_false, eq_self, if_true, if_false, true_and, and_true, false_and, and_false]; rfl) ?_
          refine WL.qq (by simp only [ev_tmp, ev_const, ev_func, set_get, Nat.reduceEqDiff, reduceIte, qv_pick, pk_and, pk_or, Bool.false_eq_true, Bool.true_eq_false, eq_self, if_true, if_false, true_and, and_true, false_and, and_false, k1_c8, k2_c8, k3_c8, k6_c8, k7_c8, i8_c8, hB1.cell]; rfl) ?_
          refine WL.nil ?_
          refine th_norm ?_
          refine hx_cond (by simp only [ev_tmp, ev_const, ev_func, set_get, Nat.reduceEqDiff, reduceIte, k1_c8, k2_c8, k3_c8, k6_c8, k7_c8, i8_c8, hB1.cell]; rfl) (fun hct48 => ?_) (fun hct48 => ?_)
          ·
            try simp only [decide_eq_true_eq, decide_eq_false_iff_not, Bool.and_eq_true, Bool.and_eq_false_iff, Bool.or_eq_true, Bool.or_eq_false_iff, Bool.not_eq_true', Bool.not_eq_false', Bool.not_eq_true, Bool.not_eq_false] at hct48
            refine hx_seq ?_
            refine hx_region ?_
            refine WL.qq (by simp only [ev_tmp, ev_const, ev_func, set_get, Nat.reduceEqDiff, reduceIte, qv_load, ld24, readN, List.getElem?_toArray, List.getElem?_cons_zero, List.getElem?_cons_succ, List.map_toArray, List.map_cons, List.map_nil, Option.map_some, Option.bind_some, Nat.zero_add, Nat.reduceAdd, k1_c8, k2_c8, k3_c8, k6_c8, k7_c8, i8_c8, hB1.cell]; rfl) ?_
            refine WL.qq (by simp only [ev_tmp, ev_const, ev_func, set_get, Nat.reduceEqDiff, reduceIte, qv_move, k1_c8, k2_c8, k3_c8, k6_c8, k7_c8, i8_c8, hB1.cell]; rfl) ?_
            refine WL.qq (by simp only [ev_tmp, ev_const, ev_func, set_get, Nat.reduceEqDiff, reduceIte, qv_move, k1_c8, k2_c8, k3_c8, k6_c8, k7_c8, i8_c8, hB1.cell]; rfl) ?_
            refine WL.qq (by simp only [ev_tmp, ev_const, ev_func, set_get, Nat.reduceEqDiff, reduceIte, k1_c8, k2_c8, k3_c8, k6_c8, k7_c8, i8_c8, hB1.cell, qv_unOp, unv_neg]; rw [w64 (by have := dir_cases r; omega) (by have := dir_cases r; omega), Int.zero_sub]) ?_
            refine WL.cg Try.call18 (by simp only [ev_tmp, ev_const, ev_func, set_get, Nat.reduceEqDiff, reduceIte, List.getElem?_toArray, List.getElem?_cons_zero, List.getElem?_cons_succ, List.map_toArray, List.map_cons, List.map_nil, Option.map_some, Option.bind_some, k1_c8, k2_c8, k3_c8, k6_c8, k7_c8, i8_c8, hB1.cell]; exact pair_grow s2 (c_step wk hol _ _ _ _ m (- dirM r) (by have := dir_cases r; omega) hw hh lw lh)) ?_
            intro h5 hx5
            replace hw := hw.ext hx5
            replace hh := hh.ext hx5
            replace hB1 := hB1.ext hx5
            refine WL.qq (by simp only [ev_tmp, ev_const, ev_func, set_get, Nat.reduceEqDiff, reduceIte, qv_extract, List.getElem?_toArray, List.getElem?_cons_zero, List.getElem?_cons_succ, List.map_toArray, List.map_cons, List.map_nil, Option.map_some, Option.bind_some, k1_c8, k2_c8, k3_c8, k6_c8, k7_c8, i8_c8, hB1.cell]; rfl) ?_
            refine WL.qq (by simp only [ev_tmp, ev_const, ev_func, set_get, Nat.reduceEqDiff, reduceIte, qv_extract, List.getElem?_toArray, List.getElem?_cons_zero, List.getElem?_cons_succ, List.map_toArray, List.map_cons, List.map_nil, Option.map_some, Option.bind_some, k1_c8, k2_c8, k3_c8, k6_c8, k7_c8, i8_c8, hB1.cell]; rfl) ?_
            refine WL.qq (by simp only [ev_tmp, ev_const, ev_func, set_get, Nat.reduceEqDiff, reduceIte, qv_assign, k1_c8, k2_c8, k3_c8, k6_c8, k7_c8, i8_c8, hB1.cell]; rfl) ?_
            refine WL.qq (by simp only [ev_tmp, ev_const, ev_func, set_get, Nat.reduceEqDiff, reduceIte, qv_assign, k1_c8, k2_c8, k3_c8, k6_c8, k7_c8, i8_c8, hB1.cell]; rfl) ?_
            refine WL.nil ?_
            refine th_norm ?_
            refine hx_ret ?_
            refine th_ret ?_
            refine fin_ret [.tmp 6, .tmp 7] rfl rfl (by simp only [ev_tmp, ev_const, ev_func, set_get, Nat.reduceEqDiff, reduceIte, resv, k1_c8, k2_c8, k3_c8, k6_c8, k7_c8, i8_c8, hB1.cell]; rfl) ?_  -- ret 3 r12
            rw [if_pos (by simpa using hct48)] at ha; cases ha; exact ⟨rfl, ((hx1).trans ((hx2).trans ((hx3).trans ((hx4).trans (hx5)))))⟩
          ·
            try simp only [decide_eq_true_eq, decide_eq_false_iff_not, Bool.and_eq_true, Bool.and_eq_false_iff, Bool.or_eq_true, Bool.or_eq_false_iff, Bool.not_eq_true', Bool.not_eq_false', Bool.not_eq_true, Bool.not_eq_false] at hct48
            refine hx_skip ?_
            refine th_norm ?_
            refine hx_seq ?_
            refine hx_region ?_
            refine WL.qq (by simp only [ev_tmp, ev_const, ev_func, set_get, Nat.reduceEqDiff, reduceIte, qv_move, k1_c8, k2_c8, k3_c8, k6_c8, k7_c8, i8_c8, hB1.cell]; rfl) ?_
            refine WL.qq (by simp only [ev_tmp, ev_const, ev_func, set_get, Nat.reduceEqDiff, reduceIte, qv_move, k1_c8, k2_c8, k3_c8, k6_c8, k7_c8, i8_c8, hB1.cell]; rfl) ?_
            refine WL.qq (by simp only [ev_tmp, ev_const, ev_func, set_get, Nat.reduceEqDiff, reduceIte, qv_assign, k1_c8, k2_c8, k3_c8, k6_c8, k7_c8, i8_c8, hB1.cell]; rfl) ?_
            refine WL.qq (by simp only [ev_tmp, ev_const, ev_func, set_get, Nat.reduceEqDiff, reduceIte, qv_assign, k1_c8, k2_c8, k3_c8, k6_c8, k7_c8, i8_c8, hB1.cell]; rfl) ?_
            refine WL.nil ?_
            refine th_norm ?_
            refine hx_ret ?_
            refine fin_ret [.tmp 6, .tmp 7] rfl rfl (by simp only [ev_tmp, ev_const, ev_func, set_get, Nat.reduceEqDiff, reduceIte, resv, k1_c8, k2_c8, k3_c8, k6_c8, k7_c8, i8_c8, hB1.cell]; rfl) ?_  -- ret 4 r13
            have hq : r < 2 ∨ y1 = 0 ∧ smM x1 m = true := (by simpa using hct48)
            rw [if_neg (by rintro ⟨p1, p2⟩; rcases hq with q | q <;> rcases p2 with p2 | p2 <;> first | omega | (simp [q] at p2))] at ha; cases ha; exact ⟨rfl, ((hx1).trans ((hx2).trans ((hx3).trans (hx4))))⟩
def adjF (r : Int) : Nat := if r = 1 ∨ r = 3 then 19 else 17
def adjB (r : Int) : Nat := if r = 1 ∨ r = 3 then 17 else 19
theorem call_if (p : Prop) [Decidable p] (f g : Nat) (hf : ∀ args w, (callFunc f args).run Try.prog w = .ok (.enter f args) w) (hg : ∀ args w, (callFunc g args).run Try.prog w = .ok (.enter g args) w) :
    ∀ args w, (callFunc (if p then f else g) args).run Try.prog w = .ok (.enter (if p then f else g) args) w := by
  split
  · exact hf
  · exact hg
theorem c_adjF (p : Nat) (wk hs : List Int) (m r : Int) {h : Heap} (hc : IsCal h p wk hs) :
    HCalls Try.prog (adjF r) #[.pointer (some ⟨p, 0, none⟩), .int .i64 m] h (Grow (.tuple #[.int .i64 (stepM (busM wk hs) m (dirM r)).1, .int .i64 (stepM (busM wk hs) m (dirM r)).2]) h) := by
  unfold adjF dirM
  split
  · exact c_previous p wk hs m hc
  · exact c_next p wk hs m hc
theorem c_adjB (p : Nat) (wk hs : List Int) (m r : Int) {h : Heap} (hc : IsCal h p wk hs) :
    HCalls Try.prog (adjB r) #[.pointer (some ⟨p, 0, none⟩), .int .i64 m] h (Grow (.tuple #[.int .i64 (stepM (busM wk hs) m (- dirM r)).1, .int .i64 (stepM (busM wk hs) m (- dirM r)).2]) h) := by
  unfold adjB dirM
  split
  · exact c_next p wk hs m hc
  · exact c_previous p wk hs m hc
theorem call_adjF (r : Int) : ∀ args w, (callFunc (adjF r) args).run Try.prog w = .ok (.enter (adjF r) args) w := call_if _ _ _ Try.call19 Try.call17
theorem call_adjB (r : Int) : ∀ args w, (callFunc (adjB r) args).run Try.prog w = .ok (.enter (adjB r) args) w := call_if _ _ _ Try.call17 Try.call19
set_option maxHeartbeats 1000000 in
theorem c_adjust (p : Nat) (wk hs : List Int) (m r : Int) {x1 y1 x2 y2 : Int} {h : Heap} (hc : IsCal h p wk hs)
    (s1 : stepM (busM wk hs) m (dirM r) = (x1, y1)) (s2 : stepM (busM wk hs) m (- dirM r) = (x2, y2)) {u v : Int} (ha : adjM (busM wk hs) m r = (u, v)) :
    HCalls Try.prog 30 #[.pointer (some ⟨p, 0, none⟩), .int .i64 m, .int .i64 r] h (Grow (.tuple #[.int .i64 u, .int .i64 v]) h) := by
  refine hcalls2 Try.func30 rfl (by decide +kernel) (by simp only [Try.ntmps30]; exact of_decide_eq_true rfl) ?_
  intro e hin
  have e0 := hin 0 _ rfl
  have e1 := hin 1 _ rfl
  have e2 := hin 2 _ rfl
  refine hx_seq ?_
  refine hx_region ?_
  refine WL.qq (by simp only [ev_tmp, ev_const, ev_func, set_get, Nat.reduceEqDiff, reduceIte, qv_assign, e0, e1, e2]; rfl) ?_
  refine WL.qq (by simp only [ev_tmp, ev_const, ev_func, set_get, Nat.reduceEqDiff, reduceIte, qv_assign, e0, e1, e2]; rfl) ?_
  refine WL.nil ?_
  refine th_norm ?_
  refine hx_seq ?_
  refine hx_seq ?_
  refine hx_region ?_
  refine WL.qq (by simp only [ev_tmp, ev_const, ev_func, set_get, Nat.reduceEqDiff, reduceIte, qv_move, e0, e1, e2]; rfl) ?_
  refine WL.qq (by simp only [ev_tmp, ev_const, ev_func, set_get, Nat.reduceEqDiff, reduceIte, qv_move, e0, e1, e2]; rfl) ?_
  refine WL.lit2 #[(.int .i64 0)] Try.underlying22 sz3 zr3 (by decide) (by kernel_rfl) ⟨_, (by simp only [ev_tmp, ev_const, ev_func, set_get, Nat.reduceEqDiff, reduceIte, List.getElem?_toArray, List.getElem?_cons_zero, List.getElem?_cons_succ, List.map_toArray, List.map_cons, List.map_nil, Option.map_some, Option.bind_some, e0, e1, e2]; simp [Instr.fill, Value.cells]; rfl), rfl⟩ ?_
  intro h1 B1 hx1 hlt1 hB1
  replace hc := hc.ext hx1
  refine WL.ck Try.call39 (by simp only [ev_tmp, ev_const, ev_func, set_get, Nat.reduceEqDiff, reduceIte, List.getElem?_toArray, List.getElem?_cons_zero, List.getElem?_cons_succ, List.map_toArray, List.map_cons, List.map_nil, Option.map_some, Option.bind_some, e0, e1, e2, hB1.cell]; exact c_usable _ _ 1 [m] (SlI.one hB1) (by simp)) ?_
  refine WL.qq (by simp only [ev_tmp, ev_const, ev_func, set_get, Nat.reduceEqDiff, reduceIte, qv_assign, e0, e1, e2, hB1.cell]; rfl) ?_
  refine WL.nil ?_
  refine th_norm ?_
  refine hx_seq ?_
  refine hx_region ?_
  refine WL.qq (by simp only [ev_tmp, ev_const, ev_func, set_get, Nat.reduceEqDiff, reduceIte, qv_move, e0, e1, e2, hB1.cell]; rfl) ?_
  refine WL.qq (by simp only [ev_tmp, ev_const, ev_func, set_get, Nat.reduceEqDiff, reduceIte, qv_binOp, binv_neq, eq28, Option.map_some, e0, e1, e2, hB1.cell]; rfl) ?_
  refine WL.nil ?_
  refine th_norm ?_
  refine hx_cond (by simp only [ev_tmp, ev_const, ev_func, set_get, Nat.reduceEqDiff, reduceIte, e0, e1, e2, hB1.cell]; rfl) (fun hct19 => ?_) (fun hct19 => ?_)
  ·
    try simp only [decide_eq_true_eq, decide_eq_false_iff_not, Bool.and_eq_true, Bool.and_eq_false_iff, Bool.or_eq_true, Bool.or_eq_false_iff, Bool.not_eq_true', Bool.not_eq_false', Bool.not_eq_true, Bool.not_eq_false] at hct19
    have hv : validM m = false := by { rw [usableM_one] at hct19; cases hv : validM m <;> simp [hv] at hct19 ⊢ }
    refine hx_seq ?_
    refine hx_region ?_
    refine WL.qq (by simp only [ev_tmp, ev_const, ev_func, set_get, Nat.reduceEqDiff, reduceIte, qv_move, e0, e1, e2, hB1.cell]; rfl) ?_
    refine WL.qq (by simp only [ev_tmp, ev_const, ev_func, set_get, Nat.reduceEqDiff, reduceIte, qv_assign, e0, e1, e2, hB1.cell]; rfl) ?_
    refine WL.qq (by simp only [ev_tmp, ev_const, ev_func, set_get, Nat.reduceEqDiff, reduceIte, qv_assign, e0, e1, e2, hB1.cell]; rfl) ?_
    refine WL.nil ?_
    refine th_norm ?_
    refine hx_ret ?_
    refine th_ret ?_
    refine fin_ret [.tmp 6, .tmp 7] rfl rfl (by simp only [ev_tmp, ev_const, ev_func, set_get, Nat.reduceEqDiff, reduceIte, resv, e0, e1, e2, hB1.cell]; rfl) ?_  -- ret 0 r3
    unfold adjM at ha; rw [if_neg (by simp [hv])] at ha; cases ha; exact ⟨by rw [usableM_one, if_neg (by simp [hv])]; rfl, (hx1)⟩
  ·
    try simp only [decide_eq_true_eq, decide_eq_false_iff_not, Bool.and_eq_true, Bool.and_eq_false_iff, Bool.or_eq_true, Bool.or_eq_false_iff, Bool.not_eq_true', Bool.not_eq_false', Bool.not_eq_true, Bool.not_eq_false] at hct19
    have hv : validM m = true := by { rw [usableM_one] at hct19; cases hv : validM m <;> simp [hv] at hct19 ⊢ }
    have hvb := valid_bd hv
    unfold adjM at ha; rw [if_pos hv, s1, s2] at ha
    refine hx_skip ?_
    refine th_norm ?_
    refine hx_seq ?_
    refine hx_region ?_
    refine WL.qq (by simp only [ev_tmp, ev_const, ev_func, set_get, Nat.reduceEqDiff, reduceIte, qv_move, e0, e1, e2, hB1.cell]; rfl) ?_
    refine WL.qq (by simp only [ev_tmp, ev_const, ev_func, set_get, Nat.reduceEqDiff, reduceIte, qv_makeFunc, List.getElem?_toArray, List.getElem?_cons_zero, List.getElem?_cons_succ, List.map_toArray, List.map_cons, List.map_nil, Option.map_some, Option.bind_some, e0, e1, e2, hB1.cell]; rfl) ?_
    refine WL.qq (by simp only [ev_tmp, ev_const, ev_func, set_get, Nat.reduceEqDiff, reduceIte, qv_move, e0, e1, e2, hB1.cell]; rfl) ?_
    refine WL.qq (by simp only [ev_tmp, ev_const, ev_func, set_get, Nat.reduceEqDiff, reduceIte, qv_makeFunc, List.getElem?_toArray, List.getElem?_cons_zero, List.getElem?_cons_succ, List.map_toArray, List.map_cons, List.map_nil, Option.map_some, Option.bind_some, e0, e1, e2, hB1.cell]; rfl) ?_
    refine WL.qq (by simp only [ev_tmp, ev_const, ev_func, set_get, Nat.reduceEqDiff, reduceIte, qv_assign, e0, e1, e2, hB1.cell]; rfl) ?_
    refine WL.qq (by simp only [ev_tmp, ev_const, ev_func, set_get, Nat.reduceEqDiff, reduceIte, qv_assign, e0, e1, e2, hB1.cell]; rfl) ?_
    refine WL.nil ?_
    refine th_norm ?_
    refine hx_cutS [6, 7, 9, 10, 25, 26, 27, 28, 29, 30, 31, 32, 33] (fun e => (0 ≤ r ∧ r ≤ 3) ∧ e 9 = .func (.func (adjF r)) #[.pointer (some ⟨p, 0, none⟩)] #[] ∧ e 10 = .func (.func (adjB r)) #[.pointer (some ⟨p, 0, none⟩)] #[]) ?_ ?_
    ·
      refine hx_seq ?_
      refine hx_region ?_
      refine WL.qq (by simp only [ev_tmp, ev_const, ev_func, set_get, Nat.reduceEqDiff, reduceIte, qv_move, e0, e1, e2, hB1.cell]; rfl) ?_
      refine WL.nil ?_
      refine th_norm ?_
      refine hx_block ?_
      refine hx_seq ?_
      refine hx_seq ?_
      refine hx_region ?_
      refine WL.qq (by simp only [ev_tmp, ev_const, ev_func, set_get, Nat.reduceEqDiff, reduceIte, qv_binOp, binv_eql, eq3, Option.map_some, e0, e1, e2, hB1.cell]; rfl) ?_
      refine WL.qq (by simp only [ev_tmp, ev_const, ev_func, set_get, Nat.reduceEqDiff, reduceIte, qv_assign, e0, e1, e2, hB1.cell]; rfl) ?_
      refine WL.nil ?_
      refine th_norm ?_
      refine hx_cond (by simp only [ev_tmp, ev_const, ev_func, set_get, Nat.reduceEqDiff, reduceIte, e0, e1, e2, hB1.cell]; rfl) (fun hct26 => ?_) (fun hct26 => ?_)
      ·
        try simp only [decide_eq_true_eq, decide_eq_false_iff_not, Bool.and_eq_true, Bool.and_eq_false_iff, Bool.or_eq_true, Bool.or_eq_false_iff, Bool.not_eq_true', Bool.not_eq_false', Bool.not_eq_true, Bool.not_eq_false] at hct26
        refine hx_skip ?_
        refine th_norm ?_
        refine hx_cond (by simp only [ev_tmp, ev_const, ev_func, set_get, Nat.reduceEqDiff, reduceIte, e0, e1, e2, hB1.cell]; rfl) (fun hct26 => ?_) (fun hct26 => ?_)
        ·
          try simp only [decide_eq_true_eq, decide_eq_false_iff_not, Bool.and_eq_true, Bool.and_eq_false_iff, Bool.or_eq_true, Bool.or_eq_false_iff, Bool.not_eq_true', Bool.not_eq_false', Bool.not_eq_true, Bool.not_eq_false] at hct26
          refine hx_skip ?_
          refine bl_norm ?_
          refine th_norm ?_
          refine ⟨rfl, rfl, ?_, ?_, ?_, ?_⟩  -- meet 0 of cut 5
          · (repeat (first | exact Fr.refl _ _ | refine Fr.set rfl ?_ | refine Fr.put rfl ?_ | refine Fr.put0 ?_ | refine Fr.trans ?_ (Fr.of hfc5 rfl)))
          · omega
          · simp only [ev_tmp, ev_const, ev_func, set_get, Nat.reduceEqDiff, reduceIte, e0, e1, e2, hB1.cell] <;> first | (rw [show adjF r = 19 from if_pos (by omega)]) | (rw [show adjF r = 17 from if_neg (by omega)]) | (exfalso; omega)
          · simp only [ev_tmp, ev_const, ev_func, set_get, Nat.reduceEqDiff, reduceIte, e0, e1, e2, hB1.cell] <;> first | (rw [show adjB r = 17 from if_pos (by omega)]) | (rw [show adjB r = 19 from if_neg (by omega)]) | (exfalso; omega)
        ·
          try simp only [decide_eq_true_eq, decide_eq_false_iff_not, Bool.and_eq_true, Bool.and_eq_false_iff, Bool.or_eq_true, Bool.or_eq_false_iff, Bool.not_eq_true', Bool.not_eq_false', Bool.not_eq_true, Bool.not_eq_false] at hct26
          refine hx_seq ?_
          refine hx_seq ?_
          refine hx_region ?_
          refine WL.qq (by simp only [ev_tmp, ev_const, ev_func, set_get, Nat.reduceEqDiff, reduceIte, qv_binOp, binv_eql, eq3, Option.map_some, e0, e1, e2, hB1.cell]; rfl) ?_
          refine WL.qq (by simp only [ev_tmp, ev_const, ev_func, set_get, Nat.reduceEqDiff, reduceIte, qv_assign, e0, e1, e2, hB1.cell]; rfl) ?_
          refine WL.nil ?_
          refine th_norm ?_
          refine hx_cond (by simp only [ev_tmp, ev_const, ev_func, set_get, Nat.reduceEqDiff, reduceIte, e0, e1, e2, hB1.cell]; rfl) (fun hct29 => ?_) (fun hct29 => ?_)
          ·
            try simp only [decide_eq_true_eq, decide_eq_false_iff_not, Bool.and_eq_true, Bool.and_eq_false_iff, Bool.or_eq_true, Bool.or_eq_false_iff, Bool.not_eq_true', Bool.not_eq_false', Bool.not_eq_true, Bool.not_eq_false] at hct29
            refine hx_skip ?_
            refine th_norm ?_
            refine hx_cond (by simp only [ev_tmp, ev_const, ev_func, set_get, Nat.reduceEqDiff, reduceIte, e0, e1, e2, hB1.cell]; rfl) (fun hct29 => ?_) (fun hct29 => ?_)
            ·
              try simp only [decide_eq_true_eq, decide_eq_false_iff_not, Bool.and_eq_true, Bool.and_eq_false_iff, Bool.or_eq_true, Bool.or_eq_false_iff, Bool.not_eq_true', Bool.not_eq_false', Bool.not_eq_true, Bool.not_eq_false] at hct29
              refine hx_region ?_
              refine WL.qq (by simp only [ev_tmp, ev_const, ev_func, set_get, Nat.reduceEqDiff, reduceIte, qv_move, e0, e1, e2, hB1.cell]; rfl) ?_
              refine WL.qq (by simp only [ev_tmp, ev_const, ev_func, set_get, Nat.reduceEqDiff, reduceIte, qv_move, e0, e1, e2, hB1.cell]; rfl) ?_
              refine WL.qq (by simp only [ev_tmp, ev_const, ev_func, set_get, Nat.reduceEqDiff, reduceIte, qv_assign, e0, e1, e2, hB1.cell]; rfl) ?_
              refine WL.qq (by simp only [ev_tmp, ev_const, ev_func, set_get, Nat.reduceEqDiff, reduceIte, qv_assign, e0, e1, e2, hB1.cell]; rfl) ?_
              refine WL.nil ?_
              refine bl_norm ?_
              refine th_norm ?_
              refine ⟨rfl, rfl, ?_, ?_, ?_, ?_⟩  -- meet 1 of cut 5
              · (repeat (first | exact Fr.refl _ _ | refine Fr.set rfl ?_ | refine Fr.put rfl ?_ | refine Fr.put0 ?_ | refine Fr.trans ?_ (Fr.of hfc5 rfl)))
              · omega
              · simp only [ev_tmp, ev_const, ev_func, set_get, Nat.reduceEqDiff, reduceIte, e0, e1, e2, hB1.cell] <;> first | (rw [show adjF r = 19 from if_pos (by omega)]) | (rw [show adjF r = 17 from if_neg (by omega)]) | (exfalso; omega)
              · simp only [ev_tmp, ev_const, ev_func, set_get, Nat.reduceEqDiff, reduceIte, e0, e1, e2, hB1.cell] <;> first | (rw [show adjB r = 17 from if_pos (by omega)]) | (rw [show adjB r = 19 from if_neg (by omega)]) | (exfalso; omega)
            ·
              try simp only [decide_eq_true_eq, decide_eq_false_iff_not, Bool.and_eq_true, Bool.and_eq_false_iff, Bool.or_eq_true, Bool.or_eq_false_iff, Bool.not_eq_true', Bool.not_eq_false', Bool.not_eq_true, Bool.not_eq_false] at hct29
              refine hx_seq ?_
              refine hx_region ?_
              refine WL.qq (by simp only [ev_tmp, ev_const, ev_func, set_get, Nat.reduceEqDiff, reduceIte, qv_assign, e0, e1, e2, hB1.cell]; rfl) ?_
              refine WL.qq (by simp only [ev_tmp, ev_const, ev_func, set_get, Nat.reduceEqDiff, reduceIte, qv_assign, e0, e1, e2, hB1.cell]; rfl) ?_
              refine WL.nil ?_
              refine th_norm ?_
              refine hx_ret ?_
              refine bl_ret ?_
              refine th_ret ?_
              refine fin_ret [.tmp 6, .tmp 7] rfl rfl (by simp only [ev_tmp, ev_const, ev_func, set_get, Nat.reduceEqDiff, reduceIte, resv, e0, e1, e2, hB1.cell]; rfl) ?_  -- ret 1 r6
              first | (exfalso; omega) | (rw [if_pos (by omega)] at ha; cases ha; exact ⟨rfl, (hx1)⟩)
          ·
            try simp only [decide_eq_true_eq, decide_eq_false_iff_not, Bool.and_eq_true, Bool.and_eq_false_iff, Bool.or_eq_true, Bool.or_eq_false_iff, Bool.not_eq_true', Bool.not_eq_false', Bool.not_eq_true, Bool.not_eq_false] at hct29
            refine hx_region ?_
            refine WL.qq (by simp only [ev_tmp, ev_const, ev_func, set_get, Nat.reduceEqDiff, reduceIte, qv_binOp, binv_eql, eq3, Option.map_some, e0, e1, e2, hB1.cell]; rfl) ?_
            refine WL.qq (by simp only [ev_tmp, ev_const, ev_func, set_get, Nat.reduceEqDiff, reduceIte, qv_assign, e0, e1, e2, hB1.cell]; rfl) ?_
            refine WL.nil ?_
            refine th_norm ?_
            refine hx_cond (by simp only [ev_tmp, ev_const, ev_func, set_get, Nat.reduceEqDiff, reduceIte, e0, e1, e2, hB1.cell]; rfl) (fun hct29 => ?_) (fun hct29 => ?_)
            ·
              try simp only [decide_eq_true_eq, decide_eq_false_iff_not, Bool.and_eq_true, Bool.and_eq_false_iff, Bool.or_eq_true, Bool.or_eq_false_iff, Bool.not_eq_true', Bool.not_eq_false', Bool.not_eq_true, Bool.not_eq_false] at hct29
              refine hx_region ?_
              refine WL.qq (by simp only [ev_tmp, ev_const, ev_func, set_get, Nat.reduceEqDiff, reduceIte, qv_move, e0, e1, e2, hB1.cell]; rfl) ?_
              refine WL.qq (by simp only [ev_tmp, ev_const, ev_func, set_get, Nat.reduceEqDiff, reduceIte, qv_move, e0, e1, e2, hB1.cell]; rfl) ?_
              refine WL.qq (by simp only [ev_tmp, ev_const, ev_func, set_get, Nat.reduceEqDiff, reduceIte, qv_assign, e0, e1, e2, hB1.cell]; rfl) ?_
              refine WL.qq (by simp only [ev_tmp, ev_const, ev_func, set_get, Nat.reduceEqDiff, reduceIte, qv_assign, e0, e1, e2, hB1.cell]; rfl) ?_
              refine WL.nil ?_
              refine bl_norm ?_
              refine th_norm ?_
              refine ⟨rfl, rfl, ?_, ?_, ?_, ?_⟩  -- meet 2 of cut 5
              · (repeat (first | exact Fr.refl _ _ | refine Fr.set rfl ?_ | refine Fr.put rfl ?_ | refine Fr.put0 ?_ | refine Fr.trans ?_ (Fr.of hfc5 rfl)))
              · omega
              · simp only [ev_tmp, ev_const, ev_func, set_get, Nat.reduceEqDiff, reduceIte, e0, e1, e2, hB1.cell] <;> first | (rw [show adjF r = 19 from if_pos (by omega)]) | (rw [show adjF r = 17 from if_neg (by omega)]) | (exfalso; omega)
              · simp only [ev_tmp, ev_const, ev_func, set_get, Nat.reduceEqDiff, reduceIte, e0, e1, e2, hB1.cell] <;> first | (rw [show adjB r = 17 from if_pos (by omega)]) | (rw [show adjB r = 19 from if_neg (by omega)]) | (exfalso; omega)
            ·
              try simp only [decide_eq_true_eq, decide_eq_false_iff_not, Bool.and_eq_true, Bool.and_eq_false_iff, Bool.or_eq_true, Bool.or_eq_false_iff, Bool.not_eq_true', Bool.not_eq_false', Bool.not_eq_true, Bool.not_eq_false] at hct29
              refine hx_seq ?_
              refine hx_region ?_
              refine WL.qq (by simp only [ev_tmp, ev_const, ev_func, set_get, Nat.reduceEqDiff, reduceIte, qv_assign, e0, e1, e2, hB1.cell]; rfl) ?_
              refine WL.qq (by simp only [ev_tmp, ev_const, ev_func, set_get, Nat.reduceEqDiff, reduceIte, qv_assign, e0, e1, e2, hB1.cell]; rfl) ?_
              refine WL.nil ?_
              refine th_norm ?_
              refine hx_ret ?_
              refine bl_ret ?_
              refine th_ret ?_
              refine fin_ret [.tmp 6, .tmp 7] rfl rfl (by simp only [ev_tmp, ev_const, ev_func, set_get, Nat.reduceEqDiff, reduceIte, resv, e0, e1, e2, hB1.cell]; rfl) ?_  -- ret 2 r6
              first | (exfalso; omega) | (rw [if_pos (by omega)] at ha; cases ha; exact ⟨rfl, (hx1)⟩)
      ·
        try simp only [decide_eq_true_eq, decide_eq_false_iff_not, Bool.and_eq_true, Bool.and_eq_false_iff, Bool.or_eq_true, Bool.or_eq_false_iff, Bool.not_eq_true', Bool.not_eq_false', Bool.not_eq_true, Bool.not_eq_false] at hct26
        refine hx_region ?_
        refine WL.qq (by simp only [ev_tmp, ev_const, ev_func, set_get, Nat.reduceEqDiff, reduceIte, qv_binOp, binv_eql, eq3, Option.map_some, e0, e1, e2, hB1.cell]; rfl) ?_
        refine WL.qq (by simp only [ev_tmp, ev_const, ev_func, set_get, Nat.reduceEqDiff, reduceIte, qv_assign, e0, e1, e2, hB1.cell]; rfl) ?_
        refine WL.nil ?_
        refine th_norm ?_
        refine hx_cond (by simp only [ev_tmp, ev_const, ev_func, set_get, Nat.reduceEqDiff, reduceIte, e0, e1, e2, hB1.cell]; rfl) (fun hct26 => ?_) (fun hct26 => ?_)
        ·
          try simp only [decide_eq_true_eq, decide_eq_false_iff_not, Bool.and_eq_true, Bool.and_eq_false_iff, Bool.or_eq_true, Bool.or_eq_false_iff, Bool.not_eq_true', Bool.not_eq_false', Bool.not_eq_true, Bool.not_eq_false] at hct26
          refine hx_skip ?_
          refine bl_norm ?_
          refine th_norm ?_
          refine ⟨rfl, rfl, ?_, ?_, ?_, ?_⟩  -- meet 3 of cut 5
          · (repeat (first | exact Fr.refl _ _ | refine Fr.set rfl ?_ | refine Fr.put rfl ?_ | refine Fr.put0 ?_ | refine Fr.trans ?_ (Fr.of hfc5 rfl)))
          · omega
          · simp only [ev_tmp, ev_const, ev_func, set_get, Nat.reduceEqDiff, reduceIte, e0, e1, e2, hB1.cell] <;> first | (rw [show adjF r = 19 from if_pos (by omega)]) | (rw [show adjF r = 17 from if_neg (by omega)]) | (exfalso; omega)
          · simp only [ev_tmp, ev_const, ev_func, set_get, Nat.reduceEqDiff, reduceIte, e0, e1, e2, hB1.cell] <;> first | (rw [show adjB r = 17 from if_pos (by omega)]) | (rw [show adjB r = 19 from if_neg (by omega)]) | (exfalso; omega)
        ·
          try simp only [decide_eq_true_eq, decide_eq_false_iff_not, Bool.and_eq_true, Bool.and_eq_false_iff, Bool.or_eq_true, Bool.or_eq_false_iff, Bool.not_eq_true', Bool.not_eq_false', Bool.not_eq_true, Bool.not_eq_false] at hct26
          refine hx_seq ?_
          refine hx_seq ?_
          refine hx_region ?_
          refine WL.qq (by simp only [ev_tmp, ev_const, ev_func, set_get, Nat.reduceEqDiff, reduceIte, qv_binOp, binv_eql, eq3, Option.map_some, e0, e1, e2, hB1.cell]; rfl) ?_
          refine WL.qq (by simp only [ev_tmp, ev_const, ev_func, set_get, Nat.reduceEqDiff, reduceIte, qv_assign, e0, e1, e2, hB1.cell]; rfl) ?_
          refine WL.nil ?_
          refine th_norm ?_
          refine hx_cond (by simp only [ev_tmp, ev_const, ev_func, set_get, Nat.reduceEqDiff, reduceIte, e0, e1, e2, hB1.cell]; rfl) (fun hct29 => ?_) (fun hct29 => ?_)
          ·
            try simp only [decide_eq_true_eq, decide_eq_false_iff_not, Bool.and_eq_true, Bool.and_eq_false_iff, Bool.or_eq_true, Bool.or_eq_false_iff, Bool.not_eq_true', Bool.not_eq_false', Bool.not_eq_true, Bool.not_eq_false] at hct29
            refine hx_skip ?_
            refine th_norm ?_
            refine hx_cond (by simp only [ev_tmp, ev_const, ev_func, set_get, Nat.reduceEqDiff, reduceIte, e0, e1, e2, hB1.cell]; rfl) (fun hct29 => ?_) (fun hct29 => ?_)
            ·
              try simp only [decide_eq_true_eq, decide_eq_false_iff_not, Bool.and_eq_true, Bool.and_eq_false_iff, Bool.or_eq_true, Bool.or_eq_false_iff, Bool.not_eq_true', Bool.not_eq_false', Bool.not_eq_true, Bool.not_eq_false] at hct29
              refine hx_region ?_
              refine WL.qq (by simp only [ev_tmp, ev_const, ev_func, set_get, Nat.reduceEqDiff, reduceIte, qv_move, e0, e1, e2, hB1.cell]; rfl) ?_
              refine WL.qq (by simp only [ev_tmp, ev_const, ev_func, set_get, Nat.reduceEqDiff, reduceIte, qv_move, e0, e1, e2, hB1.cell]; rfl) ?_
              refine WL.qq (by simp only [ev_tmp, ev_const, ev_func, set_get, Nat.reduceEqDiff, reduceIte, qv_assign, e0, e1, e2, hB1.cell]; rfl) ?_
              refine WL.qq (by simp only [ev_tmp, ev_const, ev_func, set_get, Nat.reduceEqDiff, reduceIte, qv_assign, e0, e1, e2, hB1.cell]; rfl) ?_
              refine WL.nil ?_
              refine bl_norm ?_
              refine th_norm ?_
              refine ⟨rfl, rfl, ?_, ?_, ?_, ?_⟩  -- meet 4 of cut 5
              · (repeat (first | exact Fr.refl _ _ | refine Fr.set rfl ?_ | refine Fr.put rfl ?_ | refine Fr.put0 ?_ | refine Fr.trans ?_ (Fr.of hfc5 rfl)))
              · omega
              · simp only [ev_tmp, ev_const, ev_func, set_get, Nat.reduceEqDiff, reduceIte, e0, e1, e2, hB1.cell] <;> first | (rw [show adjF r = 19 from if_pos (by omega)]) | (rw [show adjF r = 17 from if_neg (by omega)]) | (exfalso; omega)
              · simp only [ev_tmp, ev_const, ev_func, set_get, Nat.reduceEqDiff, reduceIte, e0, e1, e2, hB1.cell] <;> first | (rw [show adjB r = 17 from if_pos (by omega)]) | (rw [show adjB r = 19 from if_neg (by omega)]) | (exfalso; omega)
            ·
              try simp only [decide_eq_true_eq, decide_eq_false_iff_not, Bool.and_eq_true, Bool.and_eq_false_iff, Bool.or_eq_true, Bool.or_eq_false_iff, Bool.not_eq_true', Bool.not_eq_false', Bool.not_eq_true, Bool.not_eq_false] at hct29
              refine hx_seq ?_
              refine hx_region ?_
              refine WL.qq (by simp only [ev_tmp, ev_const, ev_func, set_get, Nat.reduceEqDiff, reduceIte, qv_assign, e0, e1, e2, hB1.cell]; rfl) ?_
              refine WL.qq (by simp only [ev_tmp, ev_const, ev_func, set_get, Nat.reduceEqDiff, reduceIte, qv_assign, e0, e1, e2, hB1.cell]; rfl) ?_
              refine WL.nil ?_
              refine th_norm ?_
              refine hx_ret ?_
              refine bl_ret ?_
              refine th_ret ?_
              refine fin_ret [.tmp 6, .tmp 7] rfl rfl (by simp only [ev_tmp, ev_const, ev_func, set_get, Nat.reduceEqDiff, reduceIte, resv, e0, e1, e2, hB1.cell]; rfl) ?_  -- ret 3 r6
              first | (exfalso; omega) | (rw [if_pos (by omega)] at ha; cases ha; exact ⟨rfl, (hx1)⟩)
          ·
            try simp only [decide_eq_true_eq, decide_eq_false_iff_not, Bool.and_eq_true, Bool.and_eq_false_iff, Bool.or_eq_true, Bool.or_eq_false_iff, Bool.not_eq_true', Bool.not_eq_false', Bool.not_eq_true, Bool.not_eq_false] at hct29
            refine hx_region ?_
            refine WL.qq (by simp only [ev_tmp, ev_const, ev_func, set_get, Nat.reduceEqDiff, reduceIte, qv_binOp, binv_eql, eq3, Option.map_some, e0, e1, e2, hB1.cell]; rfl) ?_
            refine WL.qq (by simp only [ev_tmp, ev_const, ev_func, set_get, Nat.reduceEqDiff, reduceIte, qv_assign, e0, e1, e2, hB1.cell]; rfl) ?_
            refine WL.nil ?_
            refine th_norm ?_
            refine hx_cond (by simp only [ev_tmp, ev_const, ev_func, set_get, Nat.reduceEqDiff, reduceIte, e0, e1, e2, hB1.cell]; rfl) (fun hct29 => ?_) (fun hct29 => ?_)
            ·
              try simp only [decide_eq_true_eq, decide_eq_false_iff_not, Bool.and_eq_true, Bool.and_eq_false_iff, Bool.or_eq_true, Bool.or_eq_false_iff, Bool.not_eq_true', Bool.not_eq_false', Bool.not_eq_true, Bool.not_eq_false] at hct29
              refine hx_region ?_
              refine WL.qq (by simp only [ev_tmp, ev_const, ev_func, set_get, Nat.reduceEqDiff, reduceIte, qv_move, e0, e1, e2, hB1.cell]; rfl) ?_
              refine WL.qq (by simp only [ev_tmp, ev_const, ev_func, set_get, Nat.reduceEqDiff, reduceIte, qv_move, e0, e1, e2, hB1.cell]; rfl) ?_
              refine WL.qq (by simp only [ev_tmp, ev_const, ev_func, set_get, Nat.reduceEqDiff, reduceIte, qv_assign, e0, e1, e2, hB1.cell]; rfl) ?_
              refine WL.qq (by simp only [ev_tmp, ev_const, ev_func, set_get, Nat.reduceEqDiff, reduceIte, qv_assign, e0, e1, e2, hB1.cell]; rfl) ?_
              refine WL.nil ?_
              refine bl_norm ?_
              refine th_norm ?_
              refine ⟨rfl, rfl, ?_, ?_, ?_, ?_⟩  -- meet 5 of cut 5
              · (repeat (first | exact Fr.refl _ _ | refine Fr.set rfl ?_ | refine Fr.put rfl ?_ | refine Fr.put0 ?_ | refine Fr.trans ?_ (Fr.of hfc5 rfl)))
              · omega
              · simp only [ev_tmp, ev_const, ev_func, set_get, Nat.reduceEqDiff, reduceIte, e0, e1, e2, hB1.cell] <;> first | (rw [show adjF r = 19 from if_pos (by omega)]) | (rw [show adjF r = 17 from if_neg (by omega)]) | (exfalso; omega)
              · simp only [ev_tmp, ev_const, ev_func, set_get, Nat.reduceEqDiff, reduceIte, e0, e1, e2, hB1.cell] <;> first | (rw [show adjB r = 17 from if_pos (by omega)]) | (rw [show adjB r = 19 from if_neg (by omega)]) | (exfalso; omega)
            ·
              try simp only [decide_eq_true_eq, decide_eq_false_iff_not, Bool.and_eq_true, Bool.and_eq_false_iff, Bool.or_eq_true, Bool.or_eq_false_iff, Bool.not_eq_true', Bool.not_eq_false', Bool.not_eq_true, Bool.not_eq_false] at hct29
              refine hx_seq ?_
              refine hx_region ?_
              refine WL.qq (by simp only [ev_tmp, ev_const, ev_func, set_get, Nat.reduceEqDiff, reduceIte, qv_assign, e0, e1, e2, hB1.cell]; rfl) ?_
              refine WL.qq (by simp only [ev_tmp, ev_const, ev_func, set_get, Nat.reduceEqDiff, reduceIte, qv_assign, e0, e1, e2, hB1.cell]; rfl) ?_
              refine WL.nil ?_
              refine th_norm ?_
              refine hx_ret ?_
              refine bl_ret ?_
              refine th_ret ?_
              refine fin_ret [.tmp 6, .tmp 7] rfl rfl (by simp only [ev_tmp, ev_const, ev_func, set_get, Nat.reduceEqDiff, reduceIte, resv, e0, e1, e2, hB1.cell]; rfl) ?_  -- ret 4 r6
              first | (exfalso; omega) | (rw [if_pos (by omega)] at ha; cases ha; exact ⟨rfl, (hx1)⟩)
    ·
      rintro ec5 hfc5 ⟨hr, i9_c5, i10_c5⟩
      have k0_c5 := hfc5 0 rfl; simp only [ev_tmp, ev_const, ev_func, set_get, Nat.reduceEqDiff, reduceIte, e0, e1, e2, hB1.cell] at k0_c5
      have k1_c5 := hfc5 1 rfl; simp only [ev_tmp, ev_const, ev_func, set_get, Nat.reduceEqDiff, reduceIte, e0, e1, e2, hB1.cell] at k1_c5
      have k2_c5 := hfc5 2 rfl; simp only [ev_tmp, ev_const, ev_func, set_get, Nat.reduceEqDiff, reduceIte, e0, e1, e2, hB1.cell] at k2_c5
      rw [if_neg (by omega)] at ha
      refine hx_seq ?_
      refine hx_seq ?_
      refine hx_region ?_
      refine WL.qq (by simp only [ev_tmp, ev_const, ev_func, set_get, Nat.reduceEqDiff, reduceIte, qv_move, k0_c5, k1_c5, k2_c5, i9_c5, i10_c5, hB1.cell]; rfl) ?_
      refine WL.qq (by simp only [ev_tmp, ev_const, ev_func, set_get, Nat.reduceEqDiff, reduceIte, qv_move, k0_c5, k1_c5, k2_c5, i9_c5, i10_c5, hB1.cell]; rfl) ?_
      refine WL.ck Try.call20 (by simp only [ev_tmp, ev_const, ev_func, set_get, Nat.reduceEqDiff, reduceIte, List.getElem?_toArray, List.getElem?_cons_zero, List.getElem?_cons_succ, List.map_toArray, List.map_cons, List.map_nil, Option.map_some, Option.bind_some, k0_c5, k1_c5, k2_c5, i9_c5, i10_c5, hB1.cell]; exact c_isBusiness p wk hs m hc) ?_
      refine WL.nil ?_
      refine th_norm ?_
      refine hx_cond (by simp only [ev_tmp, ev_const, ev_func, set_get, Nat.reduceEqDiff, reduceIte, k0_c5, k1_c5, k2_c5, i9_c5, i10_c5, hB1.cell]; rfl) (fun hct36 => ?_) (fun hct36 => ?_)
      ·
        try simp only [decide_eq_true_eq, decide_eq_false_iff_not, Bool.and_eq_true, Bool.and_eq_false_iff, Bool.or_eq_true, Bool.or_eq_false_iff, Bool.not_eq_true', Bool.not_eq_false', Bool.not_eq_true, Bool.not_eq_false] at hct36
        refine hx_seq ?_
        refine hx_region ?_
        refine WL.qq (by simp only [ev_tmp, ev_const, ev_func, set_get, Nat.reduceEqDiff, reduceIte, qv_move, k0_c5, k1_c5, k2_c5, i9_c5, i10_c5, hB1.cell]; rfl) ?_
        refine WL.qq (by simp only [ev_tmp, ev_const, ev_func, set_get, Nat.reduceEqDiff, reduceIte, qv_assign, k0_c5, k1_c5, k2_c5, i9_c5, i10_c5, hB1.cell]; rfl) ?_
        refine WL.qq (by simp only [ev_tmp, ev_const, ev_func, set_get, Nat.reduceEqDiff, reduceIte, qv_assign, k0_c5, k1_c5, k2_c5, i9_c5, i10_c5, hB1.cell]; rfl) ?_
        refine WL.nil ?_
        refine th_norm ?_
        refine hx_ret ?_
        refine th_ret ?_
        refine fin_ret [.tmp 6, .tmp 7] rfl rfl (by simp only [ev_tmp, ev_const, ev_func, set_get, Nat.reduceEqDiff, reduceIte, resv, k0_c5, k1_c5, k2_c5, i9_c5, i10_c5, hB1.cell]; rfl) ?_  -- ret 5 r13
        rw [if_pos hct36] at ha; cases ha; exact ⟨rfl, (hx1)⟩
      ·
        try simp only [decide_eq_true_eq, decide_eq_false_iff_not, Bool.and_eq_true, Bool.and_eq_false_iff, Bool.or_eq_true, Bool.or_eq_false_iff, Bool.not_eq_true', Bool.not_eq_false', Bool.not_eq_true, Bool.not_eq_false] at hct36
        rw [if_neg (by simp [hct36])] at ha
        refine hx_skip ?_
        refine th_norm ?_
        refine hx_seq ?_
        refine hx_region ?_
        refine WL.qq (by simp only [ev_tmp, ev_const, ev_func, set_get, Nat.reduceEqDiff, reduceIte, qv_move, k0_c5, k1_c5, k2_c5, i9_c5, i10_c5, hB1.cell]; rfl) ?_
        refine WL.qq (by simp only [ev_tmp, ev_const, ev_func, set_get, Nat.reduceEqDiff, reduceIte, qv_move, k0_c5, k1_c5, k2_c5, i9_c5, i10_c5, hB1.cell]; rfl) ?_
        refine WL.cf (f := adjF r) (first := #[.pointer (some ⟨p, 0, none⟩)]) (cap := #[]) (by simp only [ev_tmp, ev_const, ev_func, set_get, Nat.reduceEqDiff, reduceIte, k0_c5, k1_c5, k2_c5, i9_c5, i10_c5, hB1.cell]) (call_adjF r) (by simp only [ev_tmp, ev_const, ev_func, set_get, Nat.reduceEqDiff, reduceIte, k0_c5, k1_c5, k2_c5, i9_c5, i10_c5, hB1.cell, List.map_toArray, List.map_cons, List.map_nil]; refine pair_grow s1 (c_adjF p wk hs m r hc)) ?_
        rintro _ hP ⟨rfl, hxP⟩
        simp only [put_some]
        replace hc := hc.ext hxP
        replace hB1 := hB1.ext hxP
        refine WL.qq (by simp only [ev_tmp, ev_const, ev_func, set_get, Nat.reduceEqDiff, reduceIte, qv_move, k0_c5, k1_c5, k2_c5, i9_c5, i10_c5, hB1.cell]; rfl) ?_
        refine WL.qq (by simp only [ev_tmp, ev_const, ev_func, set_get, Nat.reduceEqDiff, reduceIte, qv_extract, List.getElem?_toArray, List.getElem?_cons_zero, List.getElem?_cons_succ, List.map_toArray, List.map_cons, List.map_nil, Option.map_some, Option.bind_some, k0_c5, k1_c5, k2_c5, i9_c5, i10_c5, hB1.cell]; rfl) ?_
        refine WL.qq (by simp only [ev_tmp, ev_const, ev_func, set_get, Nat.reduceEqDiff, reduceIte, qv_extract, List.getElem?_toArray, List.getElem?_cons_zero, List.getElem?_cons_succ, List.map_toArray, List.map_cons, List.map_nil, Option.map_some, Option.bind_some, k0_c5, k1_c5, k2_c5, i9_c5, i10_c5, hB1.cell]; rfl) ?_
        refine WL.qq (by simp only [ev_tmp, ev_const, ev_func, set_get, Nat.reduceEqDiff, reduceIte, qv_assign, k0_c5, k1_c5, k2_c5, i9_c5, i10_c5, hB1.cell]; rfl) ?_
        refine WL.qq (by simp only [ev_tmp, ev_const, ev_func, set_get, Nat.reduceEqDiff, reduceIte, qv_assign, k0_c5, k1_c5, k2_c5, i9_c5, i10_c5, hB1.cell]; rfl) ?_
        refine WL.nil ?_
        refine th_norm ?_
        refine hx_seq ?_
        refine hx_region ?_
        refine WL.qq (by simp only [ev_tmp, ev_const, ev_func, set_get, Nat.reduceEqDiff, reduceIte, qv_move, k0_c5, k1_c5, k2_c5, i9_c5, i10_c5, hB1.cell]; rfl) ?_
        refine WL.qq (by simp only [ev_tmp, ev_const, ev_func, set_get, Nat.reduceEqDiff, reduceIte, qv_binOp, binv_eql, eq3, Option.map_some, k0_c5, k1_c5, k2_c5, i9_c5, i10_c5, hB1.cell]; rfl) ?_
        refine WL.qq (by simp only [ev_tmp, ev_const, ev_func, set_get, Nat.reduceEqDiff, reduceIte, qv_move, k0_c5, k1_c5, k2_c5, i9_c5, i10_c5, hB1.cell]; rfl) ?_
        refine WL.cq (gd_at (t := 46) rfl (by simp only [ev_tmp, ev_const, ev_func, set_get, Nat.reduceEqDiff, reduceIte, k0_c5, k1_c5, k2_c5, i9_c5, i10_c5, hB1.cell]; rfl)) (fun hg15_3 => by simp only [ev_tmp, ev_const, ev_func, set_get, Nat.reduceEqDiff, reduceIte, qv_move, k0_c5, k1_c5, k2_c5, i9_c5, i10_c5, hB1.cell, hg15_3, Bool.false_eq_true, Bool.true_eq_false, eq_self, if_true, if_false, true_and, and_true, false_and, and_false]; rfl) ?_
        refine WL.cq (gd_at (t := 46) rfl (by simp only [ev_tmp, ev_const, ev_func, set_get, Nat.reduceEqDiff, reduceIte, k0_c5, k1_c5, k2_c5, i9_c5, i10_c5, hB1.cell]; rfl)) (fun hg15_4 => by simp only [ev_tmp, ev_const, ev_func, set_get, Nat.reduceEqDiff, reduceIte, qv_binOp, binv_eql, eq3, Option.map_some, k0_c5, k1_c5, k2_c5, i9_c5, i10_c5, hB1.cell, hg15_4, Bool.false_eq_true, Bool.true_eq_false, eq_self, if_true, if_false, true_and, and_true, false_and, and_false]; rfl) ?_
        refine WL.qq (by simp only [ev_tmp, ev_const, ev_func, set_get, Nat.reduceEqDiff, reduceIte, qv_pick, pk_and, pk_or, Bool.false_eq_true, Bool.true_eq_false, eq_self, if_true, if_false, true_and, and_true, false_and, and_false, k0_c5, k1_c5, k2_c5, i9_c5, i10_c5, hB1.cell]; rfl) ?_
        refine WL.qq (by simp only [ev_tmp, ev_const, ev_func, set_get, Nat.reduceEqDiff, reduceIte, qv_assign, k0_c5, k1_c5, k2_c5, i9_c5, i10_c5, hB1.cell]; rfl) ?_
        refine WL.nil ?_
        refine th_norm ?_
        refine hx_seq ?_
        refine hx_seq ?_
        refine hx_region ?_
        refine WL.qq (by simp only [ev_tmp, ev_const, ev_func, set_get, Nat.reduceEqDiff, reduceIte, qv_move, k0_c5, k1_c5, k2_c5, i9_c5, i10_c5, hB1.cell]; rfl) ?_
        refine WL.qq (by simp only [ev_tmp, ev_const, ev_func, set_get, Nat.reduceEqDiff, reduceIte, qv_move, k0_c5, k1_c5, k2_c5, i9_c5, i10_c5, hB1.cell]; rfl) ?_
        refine WL.cq (gd_at (t := 51) rfl (by simp only [ev_tmp, ev_const, ev_func, set_get, Nat.reduceEqDiff, reduceIte, k0_c5, k1_c5, k2_c5, i9_c5, i10_c5, hB1.cell]; rfl)) (fun hg16_2 => by simp only [ev_tmp, ev_const, ev_func, set_get, Nat.reduceEqDiff, reduceIte, qv_move, k0_c5, k1_c5, k2_c5, i9_c5, i10_c5, hB1.cell, hg16_2, Bool.false_eq_true, Bool.true_eq_false, eq_self, if_true, if_false, true_and, and_true, false_and, and_false]; rfl) ?_
        refine WL.cq (gd_at (t := 51) rfl (by simp only [ev_tmp, ev_const, ev_func, set_get, Nat.reduceEqDiff, reduceIte, k0_c5, k1_c5, k2_c5, i9_c5, i10_c5, hB1.cell]; rfl)) (fun hg16_3 => by simp only [ev_tmp, ev_const, ev_func, set_get, Nat.reduceEqDiff, reduceIte, qv_binOp, binv_neq, eq28, Option.map_some, k0_c5, k1_c5, k2_c5, i9_c5, i10_c5, hB1.cell, hg16_3, Bool.false_eq_true, Bool.true_eq_false, eq_self, if_true, if_false, true_and, and_true, false_and, and_false]; rfl) ?_
        refine WL.cq (gd_at (t := 51) rfl (by simp only [ev_tmp, ev_const, ev_func, set_get, Nat.reduceEqDiff, reduceIte, k0_c5, k1_c5, k2_c5, i9_c5, i10_c5, hB1.cell]; rfl)) (fun hg16_4 => by simp only [ev_tmp, ev_const, ev_func, set_get, Nat.reduceEqDiff, reduceIte, qv_move, k0_c5, k1_c5, k2_c5, i9_c5, i10_c5, hB1.cell, hg16_4, Bool.false_eq_true, Bool.true_eq_false, eq_self, if_true, if_false, true_and, and_true, false_and, and_false]; rfl) ?_
        refine WL.cq2 (t := 54) rfl (by simp only [ev_tmp, ev_const, ev_func, set_get, Nat.reduceEqDiff, reduceIte, k0_c5, k1_c5, k2_c5, i9_c5, i10_c5, hB1.cell]; rfl) (fun hC16_5 hg16_5 => by simp only [ev_tmp, ev_const, ev_func, set_get, Nat.reduceEqDiff, reduceIte, qv_move, k0_c5, k1_c5, k2_c5, i9_c5, i10_c5, hB1.cell, hC16_5, hg16_5, Bool.false_eq_true, Bool.true_eq_false, eq_self, if_true, if_false, true_and, and_true, false_and, and_false]; rfl) ?_
        refine WL.cq2 (t := 54) rfl (by simp only [ev_tmp, ev_const, ev_func, set_get, Nat.reduceEqDiff, reduceIte, k0_c5, k1_c5, k2_c5, i9_c5, i10_c5, hB1.cell]; rfl) (fun hC16_6 hg16_6 => by simp only [ev_tmp, ev_const, ev_func, set_get, Nat.reduceEqDiff, reduceIte, qv_move, k0_c5, k1_c5, k2_c5, i9_c5, i10_c5, hB1.cell, hC16_6, hg16_6, Bool.false_eq_true, Bool.true_eq_false, eq_self, if_true, if_false, true_and, and_true, false_and, and_false]; rfl) ?_
        refine WL.ccg2 (t := 54) rfl (by simp only [ev_tmp, ev_const, ev_func, set_get, Nat.reduceEqDiff, reduceIte, k0_c5, k1_c5, k2_c5, i9_c5, i10_c5, hB1.cell]; rfl) Try.call52 (fun hC16_7 hg16_7 => by simp only [ev_tmp, ev_const, ev_func, set_get, Nat.reduceEqDiff, reduceIte, List.getElem?_toArray, List.getElem?_cons_zero, List.getElem?_cons_succ, List.map_toArray, List.map_cons, List.map_nil, Option.map_some, Option.bind_some, k0_c5, k1_c5, k2_c5, i9_c5, i10_c5, hB1.cell, hC16_7, hg16_7, Bool.false_eq_true, Bool.true_eq_false, eq_self, if_true, if_false, true_and, and_true, false_and, and_false]; exact c_sameMonth x1 m (step_ok s1 (by simpa using hg16_7)) hvb _) ?_
        intro h2 hx2
        replace hc := hc.ext hx2
        replace hB1 := hB1.ext hx2
        refine WL.cq2 (t := 54) rfl (by simp only [ev_tmp, ev_const, ev_func, set_get, Nat.reduceEqDiff, reduceIte, k0_c5, k1_c5, k2_c5, i9_c5, i10_c5, hB1.cell]; rfl) (fun hC16_8 hg16_8 => by simp only [ev_tmp, ev_const, ev_func, set_get, Nat.reduceEqDiff, reduceIte, qv_unOp, unv_not, k0_c5, k1_c5, k2_c5, i9_c5, i10_c5, hB1.cell, hC16_8, hg16_8, Bool.false_eq_true, Bool.true_eq_false, eq_self, if_true, if_false, true_and, and_true, false_and, and_false]; rfl) ?_
        refine WL.cq (gd_at (t := 51) rfl (by simp only [ev_tmp, ev_const, ev_func, set_get, Nat.reduceEqDiff, reduceIte, k0_c5, k1_c5, k2_c5, i9_c5, i10_c5, hB1.cell]; rfl)) (fun hg16_9 => by simp only [ev_tmp, ev_const, ev_func, set_get, Nat.reduceEqDiff, reduceIte, qv_pick, pk_and, pk_or, Bool.false_eq_true, Bool.true_eq_false, eq_self, if_true, if_false, true_and, and_true, false_and, and_false, k0_c5, k1_c5, k2_c5, i9_c5, i10_c5, hB1.cell, hg16_9, Bool.false_eq_true, Bool.true_eq_false, eq_self, if_true, if_false, true_and, and_true, false_and, and_false]; rfl) ?_
        refine WL.qq (by simp only [ev_tmp, ev_const, ev_func, set_get, Nat.reduceEqDiff, reduceIte, qv_pick, pk_and, pk_or, Bool.false_eq_true, Bool.true_eq_false, eq_self, if_true, if_false, true_and, and_true, false_and, and_false, k0_c5, k1_c5, k2_c5, i9_c5, i10_c5, hB1.cell]; rfl) ?_
        refine WL.nil ?_
        refine th_norm ?_
        refine hx_cond (by simp only [ev_tmp, ev_const, ev_func, set_get, Nat.reduceEqDiff, reduceIte, k0_c5, k1_c5, k2_c5, i9_c5, i10_c5, hB1.cell]; rfl) (fun hct60 => ?_) (fun hct60 => ?_)
        ·
          try simp only [decide_eq_true_eq, decide_eq_false_iff_not, Bool.and_eq_true, Bool.and_eq_false_iff, Bool.or_eq_true, Bool.or_eq_false_iff, Bool.not_eq_true', Bool.not_eq_false', Bool.not_eq_true, Bool.not_eq_false] at hct60
          have hq := hct60
          refine hx_seq ?_
          refine hx_region ?_
          refine WL.qq (by simp only [ev_tmp, ev_const, ev_func, set_get, Nat.reduceEqDiff, reduceIte, qv_move, k0_c5, k1_c5, k2_c5, i9_c5, i10_c5, hB1.cell]; rfl) ?_
          refine WL.qq (by simp only [ev_tmp, ev_const, ev_func, set_get, Nat.reduceEqDiff, reduceIte, qv_move, k0_c5, k1_c5, k2_c5, i9_c5, i10_c5, hB1.cell]; rfl) ?_
          refine WL.cf (f := adjB r) (first := #[.pointer (some ⟨p, 0, none⟩)]) (cap := #[]) (by simp only [ev_tmp, ev_const, ev_func, set_get, Nat.reduceEqDiff, reduceIte, k0_c5, k1_c5, k2_c5, i9_c5, i10_c5, hB1.cell]) (call_adjB r) (by simp only [ev_tmp, ev_const, ev_func, set_get, Nat.reduceEqDiff, reduceIte, k0_c5, k1_c5, k2_c5, i9_c5, i10_c5, hB1.cell, List.map_toArray, List.map_cons, List.map_nil]; refine pair_grow s2 (c_adjB p wk hs m r hc)) ?_
          rintro _ hQ ⟨rfl, hxQ⟩
          simp only [put_some]
          refine WL.qq (by simp only [ev_tmp, ev_const, ev_func, set_get, Nat.reduceEqDiff, reduceIte, qv_extract, List.getElem?_toArray, List.getElem?_cons_zero, List.getElem?_cons_succ, List.map_toArray, List.map_cons, List.map_nil, Option.map_some, Option.bind_some, k0_c5, k1_c5, k2_c5, i9_c5, i10_c5, hB1.cell]; rfl) ?_
          refine WL.qq (by simp only [ev_tmp, ev_const, ev_func, set_get, Nat.reduceEqDiff, reduceIte, qv_extract, List.getElem?_toArray, List.getElem?_cons_zero, List.getElem?_cons_succ, List.map_toArray, List.map_cons, List.map_nil, Option.map_some, Option.bind_some, k0_c5, k1_c5, k2_c5, i9_c5, i10_c5, hB1.cell]; rfl) ?_
          refine WL.qq (by simp only [ev_tmp, ev_const, ev_func, set_get, Nat.reduceEqDiff, reduceIte, qv_assign, k0_c5, k1_c5, k2_c5, i9_c5, i10_c5, hB1.cell]; rfl) ?_
          refine WL.qq (by simp only [ev_tmp, ev_const, ev_func, set_get, Nat.reduceEqDiff, reduceIte, qv_assign, k0_c5, k1_c5, k2_c5, i9_c5, i10_c5, hB1.cell]; rfl) ?_
          refine WL.nil ?_
          refine th_norm ?_
          refine hx_ret ?_
          refine th_ret ?_
          refine fin_ret [.tmp 6, .tmp 7] rfl rfl (by simp only [ev_tmp, ev_const, ev_func, set_get, Nat.reduceEqDiff, reduceIte, resv, k0_c5, k1_c5, k2_c5, i9_c5, i10_c5, hB1.cell]; rfl) ?_  -- ret 6 r17
          rw [if_pos ⟨by omega, by simpa using hct60.2⟩] at ha; cases ha; exact ⟨rfl, hx1.trans (hxP.trans (hx2.trans hxQ))⟩
        ·
          try simp only [decide_eq_true_eq, decide_eq_false_iff_not, Bool.and_eq_true, Bool.and_eq_false_iff, Bool.or_eq_true, Bool.or_eq_false_iff, Bool.not_eq_true', Bool.not_eq_false', Bool.not_eq_true, Bool.not_eq_false] at hct60
          refine hx_skip ?_
          refine th_norm ?_
          refine hx_seq ?_
          refine hx_region ?_
          refine WL.qq (by simp only [ev_tmp, ev_const, ev_func, set_get, Nat.reduceEqDiff, reduceIte, qv_move, k0_c5, k1_c5, k2_c5, i9_c5, i10_c5, hB1.cell]; rfl) ?_
          refine WL.qq (by simp only [ev_tmp, ev_const, ev_func, set_get, Nat.reduceEqDiff, reduceIte, qv_move, k0_c5, k1_c5, k2_c5, i9_c5, i10_c5, hB1.cell]; rfl) ?_
          refine WL.qq (by simp only [ev_tmp, ev_const, ev_func, set_get, Nat.reduceEqDiff, reduceIte, qv_assign, k0_c5, k1_c5, k2_c5, i9_c5, i10_c5, hB1.cell]; rfl) ?_
          refine WL.qq (by simp only [ev_tmp, ev_const, ev_func, set_get, Nat.reduceEqDiff, reduceIte, qv_assign, k0_c5, k1_c5, k2_c5, i9_c5, i10_c5, hB1.cell]; rfl) ?_
          refine WL.nil ?_
          refine th_norm ?_
          refine hx_ret ?_
          refine fin_ret [.tmp 6, .tmp 7] rfl rfl (by simp only [ev_tmp, ev_const, ev_func, set_get, Nat.reduceEqDiff, reduceIte, resv, k0_c5, k1_c5, k2_c5, i9_c5, i10_c5, hB1.cell]; rfl) ?_  -- ret 7 r18
          have hq : (¬ r = 2 ∧ ¬ r = 3) ∨ y1 = 0 ∧ smM x1 m = true := (by simpa using hct60)
          rw [if_neg (by rintro ⟨p1, p2⟩; rcases hq with q | q <;> rcases p2 with p2 | p2 <;> first | omega | (simp [q] at p2))] at ha; cases ha; exact ⟨rfl, hx1.trans (hxP.trans hx2)⟩
theorem l_adjust (wk hol : List Int) (a a' : Option Addr) (c c' : Nat) (m n : Int) {h : Heap} (hw : SlI h a wk) (hh : SlI h a' hol) (lw : wk.length ≤ 9223372036854775807) (lh : hol.length ≤ 9223372036854775807) (cw : wk.length ≤ c) (ch : hol.length ≤ c') :
    HCalls Try.prog 9 #[.agg #[.slice a wk.length c, .slice a' hol.length c'], .int .i64 m, .int .i64 n] h (Grow (.bool true) h) := by
  refine hcalls2 Try.func9 rfl (by decide +kernel) (by simp only [Try.ntmps9]; exact of_decide_eq_true rfl) ?_
  intro e hin
  have e0 := hin 0 _ rfl
  have e1 := hin 1 _ rfl
  have e2 := hin 2 _ rfl
  obtain ⟨x1, y1, s1⟩ : ∃ x y, stepM (busM wk hol) m (dirM n) = (x, y) := ⟨_, _, rfl⟩
  obtain ⟨x2, y2, s2⟩ : ∃ x y, stepM (busM wk hol) m (- dirM n) = (x, y) := ⟨_, _, rfl⟩
  obtain ⟨u, v, s3⟩ : ∃ x y, adjM (busM wk hol) m n = (x, y) := ⟨_, _, rfl⟩
  have r1 : stepM (busM wk (srt hol)) m (dirM n) = (x1, y1) := by rw [busM_srt]; exact s1
  have r2 : stepM (busM wk (srt hol)) m (- dirM n) = (x2, y2) := by rw [busM_srt]; exact s2
  have r3 : adjM (busM wk (srt hol)) m n = (u, v) := by rw [busM_srt]; exact s3
  refine hx_seq ?_
  refine hx_region ?_
  refine WL.box2 (by simp only [ev_tmp, ev_const, ev_func, set_get, Nat.reduceEqDiff, reduceIte, Value.cells, e0, e1, e2]; rfl) ?_
  intro h1 B1 hx1 hlt1 hB1
  replace hw := hw.ext hx1
  replace hh := hh.ext hx1
  refine WL.qq (by simp only [ev_tmp, ev_const, ev_func, set_get, Nat.reduceEqDiff, reduceIte, qv_assign, e0, e1, e2, hB1.cell]; rfl) ?_
  refine WL.nil ?_
  refine th_norm ?_
  refine hx_seq ?_
  refine hx_seq ?_
  refine hx_region ?_
  refine WL.cg Try.call12 (by simp only [ev_tmp, ev_const, ev_func, set_get, Nat.reduceEqDiff, reduceIte, List.getElem?_toArray, List.getElem?_cons_zero, List.getElem?_cons_succ, List.map_toArray, List.map_cons, List.map_nil, Option.map_some, Option.bind_some, e0, e1, e2, hB1.cell]; exact c_known _) ?_
  intro h2 hx2
  replace hw := hw.ext hx2
  replace hh := hh.ext hx2
  replace hB1 := hB1.ext hx2
  refine WL.qq (by simp only [ev_tmp, ev_const, ev_func, set_get, Nat.reduceEqDiff, reduceIte, qv_unOp, unv_not, e0, e1, e2, hB1.cell]; rfl) ?_
  refine WL.qq (by simp only [ev_tmp, ev_const, ev_func, set_get, Nat.reduceEqDiff, reduceIte, qv_move, e0, e1, e2, hB1.cell]; rfl) ?_
  refine WL.cq (gd_at (t := 15) rfl (by simp only [ev_tmp, ev_const, ev_func, set_get, Nat.reduceEqDiff, reduceIte, e0, e1, e2, hB1.cell]; rfl)) (fun hg1_3 => by simp only [ev_tmp, ev_const, ev_func, set_get, Nat.reduceEqDiff, reduceIte, qv_fieldAddr, fa24_1, Nat.zero_add, Nat.reduceAdd, e0, e1, e2, hB1.cell, hg1_3, Bool.false_eq_true, Bool.true_eq_false, eq_self, if_true, if_false, true_and, and_true, false_and, and_false]; rfl) ?_
  refine WL.cq (gd_at (t := 15) rfl (by simp only [ev_tmp, ev_const, ev_func, set_get, Nat.reduceEqDiff, reduceIte, e0, e1, e2, hB1.cell]; rfl)) (fun hg1_4 => by simp only [ev_tmp, ev_const, ev_func, set_get, Nat.reduceEqDiff, reduceIte, qv_load, ld22, readN, List.getElem?_toArray, List.getElem?_cons_zero, List.getElem?_cons_succ, List.map_toArray, List.map_cons, List.map_nil, Option.map_some, Option.bind_some, Nat.zero_add, Nat.reduceAdd, e0, e1, e2, hB1.cell, hg1_4, Bool.false_eq_true, Bool.true_eq_false, eq_self, if_true, if_false, true_and, and_true, false_and, and_false]; rfl) ?_
  refine WL.cq (gd_at (t := 15) rfl (by simp only [ev_tmp, ev_const, ev_func, set_get, Nat.reduceEqDiff, reduceIte, e0, e1, e2, hB1.cell]; rfl)) (fun hg1_5 => by simp only [ev_tmp, ev_const, ev_func, set_get, Nat.reduceEqDiff, reduceIte, qv_len, ln22, List.getElem?_toArray, List.getElem?_cons_zero, List.getElem?_cons_succ, List.map_toArray, List.map_cons, List.map_nil, Option.map_some, Option.bind_some, e0, e1, e2, hB1.cell, hg1_5, Bool.false_eq_true, Bool.true_eq_false, eq_self, if_true, if_false, true_and, and_true, false_and, and_false]; rfl) ?_
  refine WL.cq (gd_at (t := 15) rfl (by simp only [ev_tmp, ev_const, ev_func, set_get, Nat.reduceEqDiff, reduceIte, e0, e1, e2, hB1.cell]; rfl)) (fun hg1_6 => by simp only [ev_tmp, ev_const, ev_func, set_get, Nat.reduceEqDiff, reduceIte, qv_binOp, binv_gtr, e0, e1, e2, hB1.cell, hg1_6, Bool.false_eq_true, Bool.true_eq_false, eq_self, if_true, if_false, true_and, and_true, false_and, and_false]; rfl) ?_
  refine WL.qq (by simp only [ev_tmp, ev_const, ev_func, set_get, Nat.reduceEqDiff, reduceIte, qv_pick, pk_and, pk_or, Bool.false_eq_true, Bool.true_eq_false, eq_self, if_true, if_false, true_and, and_true, false_and, and_false, e0, e1, e2, hB1.cell]; rfl) ?_
  refine WL.qq (by simp only [ev_tmp, ev_const, ev_func, set_get, Nat.reduceEqDiff, reduceIte, qv_move, e0, e1, e2, hB1.cell]; rfl) ?_
  refine WL.cq (gd_at (t := 21) rfl (by simp only [ev_tmp, ev_const, ev_func, set_get, Nat.reduceEqDiff, reduceIte, e0, e1, e2, hB1.cell]; rfl)) (fun hg1_9 => by simp only [ev_tmp, ev_const, ev_func, set_get, Nat.reduceEqDiff, reduceIte, qv_load, ld24, readN, List.getElem?_toArray, List.getElem?_cons_zero, List.getElem?_cons_succ, List.map_toArray, List.map_cons, List.map_nil, Option.map_some, Option.bind_some, Nat.zero_add, Nat.reduceAdd, e0, e1, e2, hB1.cell, hg1_9, Bool.false_eq_true, Bool.true_eq_false, eq_self, if_true, if_false, true_and, and_true, false_and, and_false]; rfl) ?_
  refine WL.ccg (gd_at (t := 21) rfl (by simp only [ev_tmp, ev_const, ev_func, set_get, Nat.reduceEqDiff, reduceIte, e0, e1, e2, hB1.cell]; rfl)) Try.call13 (fun hg1_10 => by simp only [ev_tmp, ev_const, ev_func, set_get, Nat.reduceEqDiff, reduceIte, List.getElem?_toArray, List.getElem?_cons_zero, List.getElem?_cons_succ, List.map_toArray, List.map_cons, List.map_nil, Option.map_some, Option.bind_some, e0, e1, e2, hB1.cell, hg1_10, Bool.false_eq_true, Bool.true_eq_false, eq_self, if_true, if_false, true_and, and_true, false_and, and_false]; exact c_rnew wk hol _ _ _ _ hw hh lw lh cw ch) ?_
  intro h3 hx3
  replace hw := hw.ext hx3
  replace hh := hh.ext hx3
  replace hB1 := hB1.ext hx3
  refine WL.cq (gd_at (t := 21) rfl (by simp only [ev_tmp, ev_const, ev_func, set_get, Nat.reduceEqDiff, reduceIte, e0, e1, e2, hB1.cell]; rfl)) (fun hg1_11 => by simp only [ev_tmp, ev_const, ev_func, set_get, Nat.reduceEqDiff, reduceIte, qv_binOp, binv_neq, eq3, Option.map_some, e0, e1, e2, hB1.cell, hg1_11, Bool.false_eq_true, Bool.true_eq_false, eq_self, if_true, if_false, true_and, and_true, false_and, and_false]; rfl) ?_
  refine WL.qq (by simp only [ev_tmp, ev_const, ev_func, set_get, Nat.reduceEqDiff, reduceIte, qv_pick, pk_and, pk_or, Bool.false_eq_true, Bool.true_eq_false, eq_self, if_true, if_false, true_and, and_true, false_and, and_false, e0, e1, e2, hB1.cell]; rfl) ?_
  refine WL.nil ?_
  refine th_norm ?_
  refine hx_cond (by simp only [ev_tmp, ev_const, ev_func, set_get, Nat.reduceEqDiff, reduceIte, e0, e1, e2, hB1.cell]; rfl) (fun hct25 => ?_) (fun hct25 => ?_)
  ·
    try simp only [decide_eq_true_eq, decide_eq_false_iff_not, Bool.and_eq_true, Bool.and_eq_false_iff, Bool.or_eq_true, Bool.or_eq_false_iff, Bool.not_eq_true', Bool.not_eq_false', Bool.not_eq_true, Bool.not_eq_false] at hct25
    refine hx_seq ?_
    refine hx_region ?_
    refine WL.cg Try.call12 (by simp only [ev_tmp, ev_const, ev_func, set_get, Nat.reduceEqDiff, reduceIte, List.getElem?_toArray, List.getElem?_cons_zero, List.getElem?_cons_succ, List.map_toArray, List.map_cons, List.map_nil, Option.map_some, Option.bind_some, e0, e1, e2, hB1.cell]; exact c_known _) ?_
    intro h4 hx4
    replace hw := hw.ext hx4
    replace hh := hh.ext hx4
    replace hB1 := hB1.ext hx4
    refine WL.qq (by simp only [ev_tmp, ev_const, ev_func, set_get, Nat.reduceEqDiff, reduceIte, qv_assign, e0, e1, e2, hB1.cell]; rfl) ?_
    refine WL.nil ?_
    refine th_norm ?_
    refine hx_ret ?_
    refine th_ret ?_
    refine fin_ret [.tmp 6] rfl rfl (by simp only [ev_tmp, ev_const, ev_func, set_get, Nat.reduceEqDiff, reduceIte, resv, e0, e1, e2, hB1.cell]; rfl) ?_  -- ret 0 r2
    exact ⟨rfl, ((hx1).trans ((hx2).trans ((hx3).trans (hx4))))⟩
  ·
    try simp only [decide_eq_true_eq, decide_eq_false_iff_not, Bool.and_eq_true, Bool.and_eq_false_iff, Bool.or_eq_true, Bool.or_eq_false_iff, Bool.not_eq_true', Bool.not_eq_false', Bool.not_eq_true, Bool.not_eq_false] at hct25
    have hz : newM wk hol = 0 := by { simpa using hct25.2 }
    refine hx_skip ?_
    refine th_norm ?_
    refine hx_seq ?_
    refine hx_region ?_
    refine WL.qq (by simp only [ev_tmp, ev_const, ev_func, set_get, Nat.reduceEqDiff, reduceIte, qv_load, ld24, readN, List.getElem?_toArray, List.getElem?_cons_zero, List.getElem?_cons_succ, List.map_toArray, List.map_cons, List.map_nil, Option.map_some, Option.bind_some, Nat.zero_add, Nat.reduceAdd, e0, e1, e2, hB1.cell]; rfl) ?_
    refine WL.ce Try.call14 (by simp only [ev_tmp, ev_const, ev_func, set_get, Nat.reduceEqDiff, reduceIte, List.getElem?_toArray, List.getElem?_cons_zero, List.getElem?_cons_succ, List.map_toArray, List.map_cons, List.map_nil, Option.map_some, Option.bind_some, e0, e1, e2, hB1.cell]; exact c_of_ok hz c c' hw hh lw) ?_
    rintro _ h5 ⟨hx5, p, rfl, hc⟩
    replace hw := hw.ext hx5
    replace hh := hh.ext hx5
    replace hB1 := hB1.ext hx5
    simp only [put_some]
    refine WL.qq (by simp only [ev_tmp, ev_const, ev_func, set_get, Nat.reduceEqDiff, reduceIte, qv_move, e0, e1, e2, hB1.cell]; rfl) ?_
    refine WL.qq (by simp only [ev_tmp, ev_const, ev_func, set_get, Nat.reduceEqDiff, reduceIte, qv_extract, List.getElem?_toArray, List.getElem?_cons_zero, List.getElem?_cons_succ, List.map_toArray, List.map_cons, List.map_nil, Option.map_some, Option.bind_some, e0, e1, e2, hB1.cell]; rfl) ?_
    refine WL.qq (by simp only [ev_tmp, ev_const, ev_func, set_get, Nat.reduceEqDiff, reduceIte, qv_extract, List.getElem?_toArray, List.getElem?_cons_zero, List.getElem?_cons_succ, List.map_toArray, List.map_cons, List.map_nil, Option.map_some, Option.bind_some, e0, e1, e2, hB1.cell]; rfl) ?_
    refine WL.qq (by simp only [ev_tmp, ev_const, ev_func, set_get, Nat.reduceEqDiff, reduceIte, qv_assign, e0, e1, e2, hB1.cell]; rfl) ?_
    refine WL.qq (by simp only [ev_tmp, ev_const, ev_func, set_get, Nat.reduceEqDiff, reduceIte, qv_assign, e0, e1, e2, hB1.cell]; rfl) ?_
    refine WL.nil ?_
    refine th_norm ?_
    refine hx_seq ?_
    refine hx_seq ?_
    refine hx_region ?_
    refine WL.qq (by simp only [ev_tmp, ev_const, ev_func, set_get, Nat.reduceEqDiff, reduceIte, qv_move, e0, e1, e2, hB1.cell]; rfl) ?_
    refine WL.qq (by simp only [ev_tmp, ev_const, ev_func, set_get, Nat.reduceEqDiff, reduceIte, qv_binOp, binv_neq, eq28, Option.map_some, e0, e1, e2, hB1.cell]; rfl) ?_
    refine WL.qq (by simp only [ev_tmp, ev_const, ev_func, set_get, Nat.reduceEqDiff, reduceIte, qv_move, e0, e1, e2, hB1.cell]; rfl) ?_
    refine WL.cq (gd_at (t := 34) rfl (by simp only [ev_tmp, ev_const, ev_func, set_get, Nat.reduceEqDiff, reduceIte, e0, e1, e2, hB1.cell]; rfl)) (fun hg4_3 => by simp only [ev_tmp, ev_const, ev_func, set_get, Nat.reduceEqDiff, reduceIte, qv_move, e0, e1, e2, hB1.cell, hg4_3, Bool.false_eq_true, Bool.true_eq_false, eq_self, if_true, if_false, true_and, and_true, false_and, and_false]; rfl) ?_
    refine WL.cq (gd_at (t := 34) rfl (by simp only [ev_tmp, ev_const, ev_func, set_get, Nat.reduceEqDiff, reduceIte, e0, e1, e2, hB1.cell]; rfl)) (fun hg4_4 => by simp only [ev_tmp, ev_const, ev_func, set_get, Nat.reduceEqDiff, reduceIte, qv_binOp, binv_eql, eqz27, eqn27, eqm27, Option.map_some, e0, e1, e2, hB1.cell, hg4_4, Bool.false_eq_true, Bool.true_eq_false, eq_self, if_true, if_false, true_and, and_true, false_and, and_false]; rfl) ?_
    refine WL.qq (by simp only [ev_tmp, ev_const, ev_func, set_get, Nat.reduceEqDiff, reduceIte, qv_pick, pk_and, pk_or, Bool.false_eq_true, Bool.true_eq_false, eq_self, if_true, if_false, true_and, and_true, false_and, and_false, e0, e1, e2, hB1.cell]; rfl) ?_
    refine WL.nil ?_
    refine th_norm ?_
    refine hx_cond (by simp only [ev_tmp, ev_const, ev_func, set_get, Nat.reduceEqDiff, reduceIte, e0, e1, e2, hB1.cell]; rfl) (fun hct37 => ?_) (fun hct37 => ?_)
    ·
      simp at hct37
    ·
      try simp only [decide_eq_true_eq, decide_eq_false_iff_not, Bool.and_eq_true, Bool.and_eq_false_iff, Bool.or_eq_true, Bool.or_eq_false_iff, Bool.not_eq_true', Bool.not_eq_false', Bool.not_eq_true, Bool.not_eq_false] at hct37
      refine hx_skip ?_
      refine th_norm ?_
      refine hx_seq ?_
      refine hx_region ?_
      refine WL.qq (by simp only [ev_tmp, ev_const, ev_func, set_get, Nat.reduceEqDiff, reduceIte, qv_move, e0, e1, e2, hB1.cell]; rfl) ?_
      refine WL.qq (by simp only [ev_tmp, ev_const, ev_func, set_get, Nat.reduceEqDiff, reduceIte, qv_move, e0, e1, e2, hB1.cell]; rfl) ?_
      refine WL.qq (by simp only [ev_tmp, ev_const, ev_func, set_get, Nat.reduceEqDiff, reduceIte, qv_move, e0, e1, e2, hB1.cell]; rfl) ?_
      refine WL.cg Try.call30 (by simp only [ev_tmp, ev_const, ev_func, set_get, Nat.reduceEqDiff, reduceIte, List.getElem?_toArray, List.getElem?_cons_zero, List.getElem?_cons_succ, List.map_toArray, List.map_cons, List.map_nil, Option.map_some, Option.bind_some, e0, e1, e2, hB1.cell]; exact c_adjust p wk (srt hol) m n hc r1 r2 r3) ?_
      intro h6 hx6
      replace hw := hw.ext hx6
      replace hh := hh.ext hx6
      replace hB1 := hB1.ext hx6
      replace hc := hc.ext hx6
      refine WL.qq (by simp only [ev_tmp, ev_const, ev_func, set_get, Nat.reduceEqDiff, reduceIte, qv_move, e0, e1, e2, hB1.cell]; rfl) ?_
      refine WL.qq (by simp only [ev_tmp, ev_const, ev_func, set_get, Nat.reduceEqDiff, reduceIte, qv_extract, List.getElem?_toArray, List.getElem?_cons_zero, List.getElem?_cons_succ, List.map_toArray, List.map_cons, List.map_nil, Option.map_some, Option.bind_some, e0, e1, e2, hB1.cell]; rfl) ?_
      refine WL.qq (by simp only [ev_tmp, ev_const, ev_func, set_get, Nat.reduceEqDiff, reduceIte, qv_extract, List.getElem?_toArray, List.getElem?_cons_zero, List.getElem?_cons_succ, List.map_toArray, List.map_cons, List.map_nil, Option.map_some, Option.bind_some, e0, e1, e2, hB1.cell]; rfl) ?_
      refine WL.qq (by simp only [ev_tmp, ev_const, ev_func, set_get, Nat.reduceEqDiff, reduceIte, qv_assign, e0, e1, e2, hB1.cell]; rfl) ?_
      refine WL.qq (by simp only [ev_tmp, ev_const, ev_func, set_get, Nat.reduceEqDiff, reduceIte, qv_assign, e0, e1, e2, hB1.cell]; rfl) ?_
      refine WL.nil ?_
      refine th_norm ?_
      refine hx_seq ?_
      refine hx_region ?_
      refine WL.qq (by simp only [ev_tmp, ev_const, ev_func, set_get, Nat.reduceEqDiff, reduceIte, qv_load, ld24, readN, List.getElem?_toArray, List.getElem?_cons_zero, List.getElem?_cons_succ, List.map_toArray, List.map_cons, List.map_nil, Option.map_some, Option.bind_some, Nat.zero_add, Nat.reduceAdd, e0, e1, e2, hB1.cell]; rfl) ?_
      refine WL.qq (by simp only [ev_tmp, ev_const, ev_func, set_get, Nat.reduceEqDiff, reduceIte, qv_move, e0, e1, e2, hB1.cell]; rfl) ?_
      refine WL.qq (by simp only [ev_tmp, ev_const, ev_func, set_get, Nat.reduceEqDiff, reduceIte, qv_move, e0, e1, e2, hB1.cell]; rfl) ?_
      refine WL.cg Try.call31 (by simp only [ev_tmp, ev_const, ev_func, set_get, Nat.reduceEqDiff, reduceIte, List.getElem?_toArray, List.getElem?_cons_zero, List.getElem?_cons_succ, List.map_toArray, List.map_cons, List.map_nil, Option.map_some, Option.bind_some, e0, e1, e2, hB1.cell]; exact c_radjust wk hol _ _ _ _ m n hw hh lw lh s1 s2 s3) ?_
      intro h7 hx7
      replace hw := hw.ext hx7
      replace hh := hh.ext hx7
      replace hB1 := hB1.ext hx7
      replace hc := hc.ext hx7
      refine WL.qq (by simp only [ev_tmp, ev_const, ev_func, set_get, Nat.reduceEqDiff, reduceIte, qv_move, e0, e1, e2, hB1.cell]; rfl) ?_
      refine WL.qq (by simp only [ev_tmp, ev_const, ev_func, set_get, Nat.reduceEqDiff, reduceIte, qv_extract, List.getElem?_toArray, List.getElem?_cons_zero, List.getElem?_cons_succ, List.map_toArray, List.map_cons, List.map_nil, Option.map_some, Option.bind_some, e0, e1, e2, hB1.cell]; rfl) ?_
      refine WL.qq (by simp only [ev_tmp, ev_const, ev_func, set_get, Nat.reduceEqDiff, reduceIte, qv_extract, List.getElem?_toArray, List.getElem?_cons_zero, List.getElem?_cons_succ, List.map_toArray, List.map_cons, List.map_nil, Option.map_some, Option.bind_some, e0, e1, e2, hB1.cell]; rfl) ?_
      refine WL.qq (by simp only [ev_tmp, ev_const, ev_func, set_get, Nat.reduceEqDiff, reduceIte, qv_assign, e0, e1, e2, hB1.cell]; rfl) ?_
      refine WL.qq (by simp only [ev_tmp, ev_const, ev_func, set_get, Nat.reduceEqDiff, reduceIte, qv_assign, e0, e1, e2, hB1.cell]; rfl) ?_
      refine WL.nil ?_
      refine th_norm ?_
      refine hx_seq ?_
      refine hx_region ?_
      refine WL.qq (by simp only [ev_tmp, ev_const, ev_func, set_get, Nat.reduceEqDiff, reduceIte, qv_move, e0, e1, e2, hB1.cell]; rfl) ?_
      refine WL.qq (by simp only [ev_tmp, ev_const, ev_func, set_get, Nat.reduceEqDiff, reduceIte, qv_move, e0, e1, e2, hB1.cell]; rfl) ?_
      refine WL.qq (by simp only [ev_tmp, ev_const, ev_func, set_get, Nat.reduceEqDiff, reduceIte, qv_binOp, binv_eql, eq3, Option.map_some, e0, e1, e2, hB1.cell]; rfl) ?_
      refine WL.qq (by simp only [ev_tmp, ev_const, ev_func, set_get, Nat.reduceEqDiff, reduceIte, qv_move, e0, e1, e2, hB1.cell]; rfl) ?_
      refine WL.cq (gd_at (t := 55) rfl (by simp only [ev_tmp, ev_const, ev_func, set_get, Nat.reduceEqDiff, reduceIte, e0, e1, e2, hB1.cell]; rfl)) (fun hg8_4 => by simp only [ev_tmp, ev_const, ev_func, set_get, Nat.reduceEqDiff, reduceIte, qv_move, e0, e1, e2, hB1.cell, hg8_4, Bool.false_eq_true, Bool.true_eq_false, eq_self, if_true, if_false, true_and, and_true, false_and, and_false]; rfl) ?_
      refine WL.cq (gd_at (t := 55) rfl (by simp only [ev_tmp, ev_const, ev_func, set_get, Nat.reduceEqDiff, reduceIte, e0, e1, e2, hB1.cell]; rfl)) (fun hg8_5 => by simp only [ev_tmp, ev_const, ev_func, set_get, Nat.reduceEqDiff, reduceIte, qv_move, e0, e1, e2, hB1.cell, hg8_5, Bool.false_eq_true, Bool.true_eq_false, eq_self, if_true, if_false, true_and, and_true, false_and, and_false]; rfl) ?_
      refine WL.cq (gd_at (t := 55) rfl (by simp only [ev_tmp, ev_const, ev_func, set_get, Nat.reduceEqDiff, reduceIte, e0, e1, e2, hB1.cell]; rfl)) (fun hg8_6 => by simp only [ev_tmp, ev_const, ev_func, set_get, Nat.reduceEqDiff, reduceIte, qv_binOp, binv_eql, eq3, Option.map_some, e0, e1, e2, hB1.cell, hg8_6, Bool.false_eq_true, Bool.true_eq_false, eq_self, if_true, if_false, true_and, and_true, false_and, and_false]; rfl) ?_
      refine WL.qq (by simp only [ev_tmp, ev_const, ev_func, set_get, Nat.reduceEqDiff, reduceIte, qv_pick, pk_and, pk_or, Bool.false_eq_true, Bool.true_eq_false, eq_self, if_true, if_false, true_and, and_true, false_and, and_false, e0, e1, e2, hB1.cell]; rfl) ?_
      refine WL.qq (by simp only [ev_tmp, ev_const, ev_func, set_get, Nat.reduceEqDiff, reduceIte, qv_assign, e0, e1, e2, hB1.cell]; rfl) ?_
      refine WL.nil ?_
      refine th_norm ?_
      refine hx_ret ?_
      refine fin_ret [.tmp 6] rfl rfl (by simp only [ev_tmp, ev_const, ev_func, set_get, Nat.reduceEqDiff, reduceIte, resv, e0, e1, e2, hB1.cell]; rfl) ?_  -- ret 1 r8
      exact ⟨by simp [retOf], ((hx1).trans ((hx2).trans ((hx3).trans ((hx5).trans ((hx6).trans (hx7))))))⟩
end GL


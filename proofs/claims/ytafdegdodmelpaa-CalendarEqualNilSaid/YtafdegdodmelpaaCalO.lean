/- Calendar: the reference's civil dates; year fractions. -/
import Derived.Test.YtafdegdodmelpaaCalN
set_option linter.unusedSimpArgs false
set_option linter.unusedVariables false
set_option linter.unnecessarySimpa false
namespace GL
open Go Go.Proofs
set_option maxRecDepth 8000
theorem c_to (n : Int) (hv : 0 ≤ n ∧ n ≤ 73048) (h : Heap) : HCalls Try.prog 49 #[.int .i64 n] h (Grow (.agg #[.int .i64 (civM n).1, .int .i64 (civM n).2.1, .int .i64 (civM n).2.2]) h) := by
  refine hcalls2 Try.func49 rfl (by decide +kernel) (by simp only [Try.ntmps49]; exact of_decide_eq_true rfl) ?_
  intro e hin
  have e0 := hin 0 _ rfl
  have hE : Ext h h := Ext.refl h
  refine hx_seq ?_
  refine hx_region ?_
  refine WL.alloc2 zr70 ?_
  intro h1 B1 hx1 hlt1 hB1
  have hb0_1 := Nat.le_trans hE.size hlt1
  replace hE := hE.trans hx1
  have hEo1 := hx1
  simp only [Value.cells] at hB1
  refine WL.nil ?_
  refine th_norm ?_
  refine hx_seq ?_
  refine hx_region ?_
  refine WL.qq (by refine qv_bld (by simp only [ev_tmp, ev_const, ev_func, set_get, Nat.reduceEqDiff, reduceIte, List.getElem?_toArray, List.getElem?_cons_zero, List.getElem?_cons_succ, List.map_toArray, List.map_cons, List.map_nil, Option.map_some, Option.bind_some, e0, hB1.cell] <;> rfl) (by rw [bl70]; simp [Instr.fill, Value.cells]; rfl)) ?_
  refine WL.allocSt zr70 sz70 (fun u => by simp only [ev_tmp, ev_const, ev_func, set_get, Nat.reduceEqDiff, reduceIte, Value.cells, e0, hB1.cell]; rfl) ⟨rfl, rfl⟩ (by simp [Value.oneCell']) ?_
  intro h2 B2 hx2 hlt2 hB2
  have hne1_2 : B2 ≠ B1 := by have := (Array.getElem?_eq_some_iff.1 hB1).1; omega
  have hb0_2 := Nat.le_trans hE.size hlt2
  have hbo1_2 := Nat.le_trans hEo1.size hlt2
  have hB1_s2 := hB1
  replace hE := hE.trans hx2
  replace hEo1 := hEo1.trans hx2
  replace hB1 := hB1.ext hx2
  have hEo2 := hx2
  refine WL.nil ?_
  refine th_norm ?_
  refine hx_seq ?_
  refine hx_block ?_
  refine hx_loopG [0, 4, 6, 7, 8, 9, 10, 11, 12, 13, 14, 15, 16, 17, 18] (fun k e hL0 => ∃ (y : Int) (r : Int), (2300 - y).toNat = k ∧ (2000 ≤ y ∧ y ≤ 2199) ∧ (r = n - ysM y) ∧ (0 ≤ r ∧ r ≤ 73048) ∧ (Ext h hL0) ∧ (Has hL0 B1 (.cells #[.int .i64 0, .int .i64 0, .int .i64 0] 70)) ∧ (Has hL0 B2 (.cells #[.int .i64 y, .int .i64 1, .int .i64 1] 70)) ∧ e 0 = .int .i64 r) _ ⟨2000, n, rfl, ?_, ?_, ?_, ?_, ?_, ?_, ?_⟩ ?_
  · first | assumption | omega | (rw [ys_2000]; omega) | rfl
  · first | assumption | omega | (rw [ys_2000]; omega) | rfl
  · first | assumption | omega | (rw [ys_2000]; omega) | rfl
  · first | assumption | omega | (rw [ys_2000]; omega) | rfl
  · first | assumption | omega | (rw [ys_2000]; omega) | rfl
  · first | assumption | omega | (rw [ys_2000]; omega) | rfl
  · simp only [ev_tmp, ev_const, ev_func, set_get, Nat.reduceEqDiff, reduceIte, e0, hB1.cell, hB2.cell] <;> rfl
  ·
    rintro k e0L hL0 hfr0 ⟨y, r, rfl, hy, hr, hr0, hE, hB1, hB2, i0_0⟩
    have k2_0 := hfr0 2 rfl; simp only [ev_tmp, ev_const, ev_func, set_get, Nat.reduceEqDiff, reduceIte, e0, hB1.cell, hB2.cell] at k2_0
    have k3_0 := hfr0 3 rfl; simp only [ev_tmp, ev_const, ev_func, set_get, Nat.reduceEqDiff, reduceIte, e0, hB1.cell, hB2.cell] at k3_0
    have hst := ys_step y hy.1
    have hyl := ylen_bd y
    refine hx_block ?_
    refine hx_seq ?_
    refine hx_region ?_
    refine WL.qq (by simp only [ev_tmp, ev_const, ev_func, set_get, Nat.reduceEqDiff, reduceIte, qv_assign, k2_0, k3_0, i0_0, hB1.cell, hB2.cell]; rfl) ?_
    refine WL.nil ?_
    refine th_norm ?_
    refine hx_cutS [4, 6, 7, 8] (fun e => e 4 = .int .i64 (ylenM y)) ?_ ?_
    ·
      refine hx_seq ?_
      refine hx_region ?_
      refine WL.qq (by simp only [ev_tmp, ev_const, ev_func, set_get, Nat.reduceEqDiff, reduceIte, qv_fieldAddr, fa70_0, Nat.zero_add, Nat.reduceAdd, k2_0, k3_0, i0_0, hB1.cell, hB2.cell]; rfl) ?_
      refine WL.qq (by simp only [ev_tmp, ev_const, ev_func, set_get, Nat.reduceEqDiff, reduceIte, qv_load, ld3, readN, List.getElem?_toArray, List.getElem?_cons_zero, List.getElem?_cons_succ, List.map_toArray, List.map_cons, List.map_nil, Option.map_some, Option.bind_some, Nat.zero_add, Nat.reduceAdd, k2_0, k3_0, i0_0, hB1.cell, hB2.cell]; rfl) ?_
      refine WL.ck Try.call70 (by simp only [ev_tmp, ev_const, ev_func, set_get, Nat.reduceEqDiff, reduceIte, List.getElem?_toArray, List.getElem?_cons_zero, List.getElem?_cons_succ, List.map_toArray, List.map_cons, List.map_nil, Option.map_some, Option.bind_some, k2_0, k3_0, i0_0, hB1.cell, hB2.cell]; exact c_leap _ (by omega) _) ?_
      refine WL.nil ?_
      refine th_norm ?_
      refine hx_cond (by simp only [ev_tmp, ev_const, ev_func, set_get, Nat.reduceEqDiff, reduceIte, k2_0, k3_0, i0_0, hB1.cell, hB2.cell]; rfl) (fun hct8 => ?_) (fun hct8 => ?_)
      ·
        try simp only [decide_eq_true_eq, decide_eq_false_iff_not, Bool.and_eq_true, Bool.and_eq_false_iff, Bool.or_eq_true, Bool.or_eq_false_iff, Bool.not_eq_true', Bool.not_eq_false', Bool.not_eq_true, Bool.not_eq_false] at hct8
        refine hx_region ?_
        refine WL.qq (by simp only [ev_tmp, ev_const, ev_func, set_get, Nat.reduceEqDiff, reduceIte, qv_assign, k2_0, k3_0, i0_0, hB1.cell, hB2.cell]; rfl) ?_
        refine WL.nil ?_
        refine th_norm ?_
        refine ⟨rfl, rfl, ?_, ?_⟩  -- meet 0 of cut 3
        · (repeat (first | exact Fr.refl _ _ | refine Fr.set rfl ?_ | refine Fr.put rfl ?_ | refine Fr.put0 ?_ | refine Fr.trans ?_ (Fr.of hfr0 rfl) | refine Fr.trans ?_ (Fr.of hfc3 rfl)))
        · simp only [ev_tmp, ev_const, ev_func, set_get, Nat.reduceEqDiff, reduceIte, k2_0, k3_0, i0_0, hB1.cell, hB2.cell] <;> simp [ylenM, hct8]
      ·
        try simp only [decide_eq_true_eq, decide_eq_false_iff_not, Bool.and_eq_true, Bool.and_eq_false_iff, Bool.or_eq_true, Bool.or_eq_false_iff, Bool.not_eq_true', Bool.not_eq_false', Bool.not_eq_true, Bool.not_eq_false] at hct8
        refine hx_skip ?_
        refine th_norm ?_
        refine ⟨rfl, rfl, ?_, ?_⟩  -- meet 1 of cut 3
        · (repeat (first | exact Fr.refl _ _ | refine Fr.set rfl ?_ | refine Fr.put rfl ?_ | refine Fr.put0 ?_ | refine Fr.trans ?_ (Fr.of hfr0 rfl) | refine Fr.trans ?_ (Fr.of hfc3 rfl)))
        · simp only [ev_tmp, ev_const, ev_func, set_get, Nat.reduceEqDiff, reduceIte, k2_0, k3_0, i0_0, hB1.cell, hB2.cell] <;> simp [ylenM, hct8]
    ·
      rintro ec3 hfc3 i4_c3
      have k0_c3 := hfc3 0 rfl; simp only [ev_tmp, ev_const, ev_func, set_get, Nat.reduceEqDiff, reduceIte, k2_0, k3_0, i0_0, hB1.cell, hB2.cell] at k0_c3
      have k2_c3 := hfc3 2 rfl; simp only [ev_tmp, ev_const, ev_func, set_get, Nat.reduceEqDiff, reduceIte, k2_0, k3_0, i0_0, hB1.cell, hB2.cell] at k2_c3
      have k3_c3 := hfc3 3 rfl; simp only [ev_tmp, ev_const, ev_func, set_get, Nat.reduceEqDiff, reduceIte, k2_0, k3_0, i0_0, hB1.cell, hB2.cell] at k3_c3
      refine hx_seq ?_
      refine hx_seq ?_
      refine hx_region ?_
      refine WL.qq (by simp only [ev_tmp, ev_const, ev_func, set_get, Nat.reduceEqDiff, reduceIte, qv_move, k0_c3, k2_c3, k3_c3, i4_c3, hB1.cell, hB2.cell]; rfl) ?_
      refine WL.qq (by simp only [ev_tmp, ev_const, ev_func, set_get, Nat.reduceEqDiff, reduceIte, qv_move, k0_c3, k2_c3, k3_c3, i4_c3, hB1.cell, hB2.cell]; rfl) ?_
      refine WL.qq (by simp only [ev_tmp, ev_const, ev_func, set_get, Nat.reduceEqDiff, reduceIte, qv_binOp, binv_lss, k0_c3, k2_c3, k3_c3, i4_c3, hB1.cell, hB2.cell]; rfl) ?_
      refine WL.nil ?_
      refine th_norm ?_
      refine hx_cond (by simp only [ev_tmp, ev_const, ev_func, set_get, Nat.reduceEqDiff, reduceIte, k0_c3, k2_c3, k3_c3, i4_c3, hB1.cell, hB2.cell]; rfl) (fun hct11 => ?_) (fun hct11 => ?_)
      ·
        try simp only [decide_eq_true_eq, decide_eq_false_iff_not, Bool.and_eq_true, Bool.and_eq_false_iff, Bool.or_eq_true, Bool.or_eq_false_iff, Bool.not_eq_true', Bool.not_eq_false', Bool.not_eq_true, Bool.not_eq_false] at hct11
        have hyr := yr_eq (n := n) hy.1 (by omega) (by omega)
        have hrem : r < remM 12 y 1 := by { rw [rem_year y hy.1 hy.2]; omega }
        refine hx_exit ?_
        refine th_exit ?_
        refine bl_miss rfl ?_
        refine th_exit ?_
        refine bl_hit ?_
        refine th_norm ?_
        refine hx_seq ?_
        refine hx_block ?_
        refine hx_loopG [0, 19, 20, 21, 22, 23, 24, 25, 26, 27, 28, 29, 30, 31, 32, 33, 34, 35, 36] (fun k e hL1 => ∃ (f : Nat) (m : Int) (q : Int), f = k ∧ (1 ≤ m ∧ f + m = 13) ∧ (0 ≤ q ∧ q ≤ 366) ∧ (moM f y m q = moM 12 y 1 (n - ysM y)) ∧ (q < remM f y m) ∧ (Ext h hL1) ∧ (Has hL1 B1 (.cells #[.int .i64 0, .int .i64 0, .int .i64 0] 70)) ∧ (Has hL1 B2 (.cells #[.int .i64 y, .int .i64 m, .int .i64 1] 70)) ∧ e 0 = .int .i64 q) _ ⟨12, 1, r, rfl, ?_, ?_, ?_, ?_, ?_, ?_, ?_, ?_⟩ ?_
        · first | assumption | omega | (rw [hr])
        · first | assumption | omega | (rw [hr])
        · first | assumption | omega | (rw [hr])
        · first | assumption | omega | (rw [hr])
        · first | assumption | omega | (rw [hr])
        · first | assumption | omega | (rw [hr])
        · first | assumption | omega | (rw [hr])
        · simp only [ev_tmp, ev_const, ev_func, set_get, Nat.reduceEqDiff, reduceIte, k0_c3, k2_c3, k3_c3, i4_c3, hB1.cell, hB2.cell] <;> rfl
        ·
          rintro k e1L hL1 hfr1 ⟨f, m, q, rfl, hm, hq, hmo, hre, hE, hB1, hB2, i0_1⟩
          have k2_1 := hfr1 2 rfl; simp only [ev_tmp, ev_const, ev_func, set_get, Nat.reduceEqDiff, reduceIte, k0_c3, k2_c3, k3_c3, i4_c3, hB1.cell, hB2.cell] at k2_1
          have k3_1 := hfr1 3 rfl; simp only [ev_tmp, ev_const, ev_func, set_get, Nat.reduceEqDiff, reduceIte, k0_c3, k2_c3, k3_c3, i4_c3, hB1.cell, hB2.cell] at k3_1
          have hf : ∃ g, f = g + 1 := by { cases f with | zero => (simp [remM] at hre; omega) | succ g => exact ⟨g, rfl⟩ }
          obtain ⟨g, rfl⟩ := hf
          have hll := len_bd y m hy.1 hy.2 hm.1 (by omega)
          refine hx_seq ?_
          refine hx_seq ?_
          refine hx_region ?_
          refine WL.qq (by simp only [ev_tmp, ev_const, ev_func, set_get, Nat.reduceEqDiff, reduceIte, qv_move, k2_1, k3_1, i0_1, hB1.cell, hB2.cell]; rfl) ?_
          refine WL.qq (by simp only [ev_tmp, ev_const, ev_func, set_get, Nat.reduceEqDiff, reduceIte, qv_fieldAddr, fa70_0, Nat.zero_add, Nat.reduceAdd, k2_1, k3_1, i0_1, hB1.cell, hB2.cell]; rfl) ?_
          refine WL.qq (by simp only [ev_tmp, ev_const, ev_func, set_get, Nat.reduceEqDiff, reduceIte, qv_load, ld3, readN, List.getElem?_toArray, List.getElem?_cons_zero, List.getElem?_cons_succ, List.map_toArray, List.map_cons, List.map_nil, Option.map_some, Option.bind_some, Nat.zero_add, Nat.reduceAdd, k2_1, k3_1, i0_1, hB1.cell, hB2.cell]; rfl) ?_
          refine WL.qq (by simp only [ev_tmp, ev_const, ev_func, set_get, Nat.reduceEqDiff, reduceIte, qv_fieldAddr, fa70_1, Nat.zero_add, Nat.reduceAdd, k2_1, k3_1, i0_1, hB1.cell, hB2.cell]; rfl) ?_
          refine WL.qq (by simp only [ev_tmp, ev_const, ev_func, set_get, Nat.reduceEqDiff, reduceIte, qv_load, ld3, readN, List.getElem?_toArray, List.getElem?_cons_zero, List.getElem?_cons_succ, List.map_toArray, List.map_cons, List.map_nil, Option.map_some, Option.bind_some, Nat.zero_add, Nat.reduceAdd, k2_1, k3_1, i0_1, hB1.cell, hB2.cell]; rfl) ?_
          refine WL.ck Try.call71 (by simp only [ev_tmp, ev_const, ev_func, set_get, Nat.reduceEqDiff, reduceIte, List.getElem?_toArray, List.getElem?_cons_zero, List.getElem?_cons_succ, List.map_toArray, List.map_cons, List.map_nil, Option.map_some, Option.bind_some, k2_1, k3_1, i0_1, hB1.cell, hB2.cell]; exact c_length _ _ _) ?_
          refine WL.qq (by simp only [ev_tmp, ev_const, ev_func, set_get, Nat.reduceEqDiff, reduceIte, qv_binOp, binv_geq, k2_1, k3_1, i0_1, hB1.cell, hB2.cell]; rfl) ?_
          refine WL.nil ?_
          refine th_norm ?_
          refine hx_cond (by simp only [ev_tmp, ev_const, ev_func, set_get, Nat.reduceEqDiff, reduceIte, k2_1, k3_1, i0_1, hB1.cell, hB2.cell]; rfl) (fun hct25 => ?_) (fun hct25 => ?_)
          ·
            try simp only [decide_eq_true_eq, decide_eq_false_iff_not, Bool.and_eq_true, Bool.and_eq_false_iff, Bool.or_eq_true, Bool.or_eq_false_iff, Bool.not_eq_true', Bool.not_eq_false', Bool.not_eq_true, Bool.not_eq_false] at hct25
            refine hx_skip ?_
            refine th_norm ?_
            refine hx_block ?_
            refine hx_seq ?_
            refine hx_region ?_
            refine WL.qq (by simp only [ev_tmp, ev_const, ev_func, set_get, Nat.reduceEqDiff, reduceIte, qv_move, k2_1, k3_1, i0_1, hB1.cell, hB2.cell]; rfl) ?_
            refine WL.qq (by simp only [ev_tmp, ev_const, ev_func, set_get, Nat.reduceEqDiff, reduceIte, qv_fieldAddr, fa70_0, Nat.zero_add, Nat.reduceAdd, k2_1, k3_1, i0_1, hB1.cell, hB2.cell]; rfl) ?_
            refine WL.qq (by simp only [ev_tmp, ev_const, ev_func, set_get, Nat.reduceEqDiff, reduceIte, qv_load, ld3, readN, List.getElem?_toArray, List.getElem?_cons_zero, List.getElem?_cons_succ, List.map_toArray, List.map_cons, List.map_nil, Option.map_some, Option.bind_some, Nat.zero_add, Nat.reduceAdd, k2_1, k3_1, i0_1, hB1.cell, hB2.cell]; rfl) ?_
            refine WL.qq (by simp only [ev_tmp, ev_const, ev_func, set_get, Nat.reduceEqDiff, reduceIte, qv_fieldAddr, fa70_1, Nat.zero_add, Nat.reduceAdd, k2_1, k3_1, i0_1, hB1.cell, hB2.cell]; rfl) ?_
            refine WL.qq (by simp only [ev_tmp, ev_const, ev_func, set_get, Nat.reduceEqDiff, reduceIte, qv_load, ld3, readN, List.getElem?_toArray, List.getElem?_cons_zero, List.getElem?_cons_succ, List.map_toArray, List.map_cons, List.map_nil, Option.map_some, Option.bind_some, Nat.zero_add, Nat.reduceAdd, k2_1, k3_1, i0_1, hB1.cell, hB2.cell]; rfl) ?_
            refine WL.ck Try.call71 (by simp only [ev_tmp, ev_const, ev_func, set_get, Nat.reduceEqDiff, reduceIte, List.getElem?_toArray, List.getElem?_cons_zero, List.getElem?_cons_succ, List.map_toArray, List.map_cons, List.map_nil, Option.map_some, Option.bind_some, k2_1, k3_1, i0_1, hB1.cell, hB2.cell]; exact c_length _ _ _) ?_
            refine WL.qq (by simp only [ev_tmp, ev_const, ev_func, set_get, Nat.reduceEqDiff, reduceIte, qv_binOp, binv_sub, k2_1, k3_1, i0_1, hB1.cell, hB2.cell]; (try simp (disch := omega) only [w64, w8, wu64]); rfl) ?_
            refine WL.qq (by simp only [ev_tmp, ev_const, ev_func, set_get, Nat.reduceEqDiff, reduceIte, qv_assign, k2_1, k3_1, i0_1, hB1.cell, hB2.cell]; rfl) ?_
            refine WL.nil ?_
            refine th_norm ?_
            refine hx_region ?_
            refine WL.qq (by simp only [ev_tmp, ev_const, ev_func, set_get, Nat.reduceEqDiff, reduceIte, qv_fieldAddr, fa70_1, Nat.zero_add, Nat.reduceAdd, k2_1, k3_1, i0_1, hB1.cell, hB2.cell]; rfl) ?_
            refine WL.qq (by simp only [ev_tmp, ev_const, ev_func, set_get, Nat.reduceEqDiff, reduceIte, qv_load, ld3, readN, List.getElem?_toArray, List.getElem?_cons_zero, List.getElem?_cons_succ, List.map_toArray, List.map_cons, List.map_nil, Option.map_some, Option.bind_some, Nat.zero_add, Nat.reduceAdd, k2_1, k3_1, i0_1, hB1.cell, hB2.cell]; rfl) ?_
            refine WL.qq (by simp only [ev_tmp, ev_const, ev_func, set_get, Nat.reduceEqDiff, reduceIte, qv_binOp, binv_add, k2_1, k3_1, i0_1, hB1.cell, hB2.cell]; (try simp (disch := omega) only [w64, w8, wu64]); rfl) ?_
            refine WL.qq (by simp only [ev_tmp, ev_const, ev_func, set_get, Nat.reduceEqDiff, reduceIte, qv_fieldAddr, fa70_1, Nat.zero_add, Nat.reduceAdd, k2_1, k3_1, i0_1, hB1.cell, hB2.cell]; rfl) ?_
            refine WL.store (by simp only [ev_tmp, ev_const, ev_func, set_get, Nat.reduceEqDiff, reduceIte, k2_1, k3_1, i0_1, hB1.cell, hB2.cell] <;> rfl) sz3 (by simp only [ev_tmp, ev_const, ev_func, set_get, Nat.reduceEqDiff, reduceIte, Value.cells, k2_1, k3_1, i0_1, hB1.cell, hB2.cell] <;> rfl) rfl hB2 (by first | decide | (simp; done) | (simp; omega)) (by simp [Value.oneCell']) ?_
            intro h3 hw3
            replace hE := hw3.ext hE hb0_2
            replace hB1 := hB1.wr hw3 (Ne.symm hne1_2)
            replace hB2 := hw3.at_
            try simp only [splc, List.take_succ_cons, List.take_zero, List.take_nil, List.drop_succ_cons, List.drop_zero, List.drop_nil, List.cons_append, List.nil_append, List.length_cons, List.length_nil, Nat.zero_add, Nat.add_zero, Nat.reduceAdd, List.append_nil] at hB2
            refine WL.nil ?_
            refine bl_norm ?_
            refine th_norm ?_
            refine ⟨rfl, ?_, _, ?_, g, m + 1, q - lenM y m, rfl, ?_, ?_, ?_, ?_, ?_, ?_, ?_, ?_⟩  -- again 0 of loop 1
            · (repeat (first | exact Fr.refl _ _ | refine Fr.set rfl ?_ | refine Fr.put rfl ?_ | refine Fr.put0 ?_ | refine Fr.trans ?_ (Fr.of hfc3 rfl)))
            · omega
            · first | assumption | omega | (rw [← hmo]; simp only [moM]; rw [if_neg (by omega)]) | (simp only [remM] at hre; omega)
            · first | assumption | omega | (rw [← hmo]; simp only [moM]; rw [if_neg (by omega)]) | (simp only [remM] at hre; omega)
            · first | assumption | omega | (rw [← hmo]; simp only [moM]; rw [if_neg (by omega)]) | (simp only [remM] at hre; omega)
            · first | assumption | omega | (rw [← hmo]; simp only [moM]; rw [if_neg (by omega)]) | (simp only [remM] at hre; omega)
            · first | assumption | omega | (rw [← hmo]; simp only [moM]; rw [if_neg (by omega)]) | (simp only [remM] at hre; omega)
            · first | assumption | omega | (rw [← hmo]; simp only [moM]; rw [if_neg (by omega)]) | (simp only [remM] at hre; omega)
            · first | assumption | omega | (rw [← hmo]; simp only [moM]; rw [if_neg (by omega)]) | (simp only [remM] at hre; omega)
            · simp only [ev_tmp, ev_const, ev_func, set_get, Nat.reduceEqDiff, reduceIte, k2_1, k3_1, i0_1, hB1.cell, hB2.cell] <;> first | rfl | (congr 1; omega)
          ·
            try simp only [decide_eq_true_eq, decide_eq_false_iff_not, Bool.and_eq_true, Bool.and_eq_false_iff, Bool.or_eq_true, Bool.or_eq_false_iff, Bool.not_eq_true', Bool.not_eq_false', Bool.not_eq_true, Bool.not_eq_false] at hct25
            have hfin := moM_stop (g + 1) y m q (by omega)
            refine hx_exit ?_
            refine th_exit ?_
            refine th_exit ?_
            refine bl_hit ?_
            refine th_norm ?_
            refine hx_seq ?_
            refine hx_region ?_
            refine WL.qq (by simp only [ev_tmp, ev_const, ev_func, set_get, Nat.reduceEqDiff, reduceIte, qv_move, k2_1, k3_1, i0_1, hB1.cell, hB2.cell]; rfl) ?_
            refine WL.qq (by simp only [ev_tmp, ev_const, ev_func, set_get, Nat.reduceEqDiff, reduceIte, qv_binOp, binv_add, k2_1, k3_1, i0_1, hB1.cell, hB2.cell]; (try simp (disch := omega) only [w64, w8, wu64]); rfl) ?_
            refine WL.qq (by simp only [ev_tmp, ev_const, ev_func, set_get, Nat.reduceEqDiff, reduceIte, qv_fieldAddr, fa70_2, Nat.zero_add, Nat.reduceAdd, k2_1, k3_1, i0_1, hB1.cell, hB2.cell]; rfl) ?_
            refine WL.store (by simp only [ev_tmp, ev_const, ev_func, set_get, Nat.reduceEqDiff, reduceIte, k2_1, k3_1, i0_1, hB1.cell, hB2.cell] <;> rfl) sz3 (by simp only [ev_tmp, ev_const, ev_func, set_get, Nat.reduceEqDiff, reduceIte, Value.cells, k2_1, k3_1, i0_1, hB1.cell, hB2.cell] <;> rfl) rfl hB2 (by first | decide | (simp; done) | (simp; omega)) (by simp [Value.oneCell']) ?_
            intro h4 hw4
            replace hE := hw4.ext hE hb0_2
            replace hB1 := hB1.wr hw4 (Ne.symm hne1_2)
            replace hB2 := hw4.at_
            try simp only [splc, List.take_succ_cons, List.take_zero, List.take_nil, List.drop_succ_cons, List.drop_zero, List.drop_nil, List.cons_append, List.nil_append, List.length_cons, List.length_nil, Nat.zero_add, Nat.add_zero, Nat.reduceAdd, List.append_nil] at hB2
            refine WL.nil ?_
            refine th_norm ?_
            refine hx_seq ?_
            refine hx_region ?_
            refine WL.qq (by simp only [ev_tmp, ev_const, ev_func, set_get, Nat.reduceEqDiff, reduceIte, qv_load, ld70, readN, List.getElem?_toArray, List.getElem?_cons_zero, List.getElem?_cons_succ, List.map_toArray, List.map_cons, List.map_nil, Option.map_some, Option.bind_some, Nat.zero_add, Nat.reduceAdd, k2_1, k3_1, i0_1, hB1.cell, hB2.cell]; rfl) ?_
            refine WL.store (by simp only [ev_tmp, ev_const, ev_func, set_get, Nat.reduceEqDiff, reduceIte, k2_1, k3_1, i0_1, hB1.cell, hB2.cell] <;> rfl) sz70 (by simp only [ev_tmp, ev_const, ev_func, set_get, Nat.reduceEqDiff, reduceIte, Value.cells, k2_1, k3_1, i0_1, hB1.cell, hB2.cell] <;> rfl) rfl hB1 (by first | decide | (simp; done) | (simp; omega)) (by simp [Value.oneCell']) ?_
            intro h5 hw5
            replace hE := hw5.ext hE hb0_1
            replace hB2 := hB2.wr hw5 hne1_2
            replace hB1 := hw5.at_
            try simp only [splc, List.take_succ_cons, List.take_zero, List.take_nil, List.drop_succ_cons, List.drop_zero, List.drop_nil, List.cons_append, List.nil_append, List.length_cons, List.length_nil, Nat.zero_add, Nat.add_zero, Nat.reduceAdd, List.append_nil] at hB1
            refine WL.nil ?_
            refine th_norm ?_
            refine hx_ret ?_
            refine fin_ret [.cell 2 70] rfl rfl (by simp only [ev_tmp, ev_const, ev_func, set_get, Nat.reduceEqDiff, reduceIte, resv, ld70, readN, List.getElem?_toArray, List.getElem?_cons_zero, List.getElem?_cons_succ, List.map_toArray, List.map_cons, List.map_nil, Option.map_some, Option.bind_some, Nat.zero_add, Nat.reduceAdd, k2_1, k3_1, i0_1, hB1.cell, hB2.cell]; rfl) ?_  -- ret 0 r12
            refine ⟨?_, hE⟩
            rw [hfin] at hmo
            simp only [civM, hyr, ← hmo, retOf]; rw [show (1 : Int) + q = q + 1 from by omega]
      ·
        try simp only [decide_eq_true_eq, decide_eq_false_iff_not, Bool.and_eq_true, Bool.and_eq_false_iff, Bool.or_eq_true, Bool.or_eq_false_iff, Bool.not_eq_true', Bool.not_eq_false', Bool.not_eq_true, Bool.not_eq_false] at hct11
        refine hx_skip ?_
        refine th_norm ?_
        refine hx_seq ?_
        refine hx_region ?_
        refine WL.qq (by simp only [ev_tmp, ev_const, ev_func, set_get, Nat.reduceEqDiff, reduceIte, qv_move, k0_c3, k2_c3, k3_c3, i4_c3, hB1.cell, hB2.cell]; rfl) ?_
        refine WL.qq (by simp only [ev_tmp, ev_const, ev_func, set_get, Nat.reduceEqDiff, reduceIte, qv_move, k0_c3, k2_c3, k3_c3, i4_c3, hB1.cell, hB2.cell]; rfl) ?_
        refine WL.qq (by simp only [ev_tmp, ev_const, ev_func, set_get, Nat.reduceEqDiff, reduceIte, qv_binOp, binv_sub, k0_c3, k2_c3, k3_c3, i4_c3, hB1.cell, hB2.cell]; (try simp (disch := omega) only [w64, w8, wu64]); rfl) ?_
        refine WL.qq (by simp only [ev_tmp, ev_const, ev_func, set_get, Nat.reduceEqDiff, reduceIte, qv_assign, k0_c3, k2_c3, k3_c3, i4_c3, hB1.cell, hB2.cell]; rfl) ?_
        refine WL.nil ?_
        refine th_norm ?_
        refine hx_region ?_
        refine WL.qq (by simp only [ev_tmp, ev_const, ev_func, set_get, Nat.reduceEqDiff, reduceIte, qv_fieldAddr, fa70_0, Nat.zero_add, Nat.reduceAdd, k0_c3, k2_c3, k3_c3, i4_c3, hB1.cell, hB2.cell]; rfl) ?_
        refine WL.qq (by simp only [ev_tmp, ev_const, ev_func, set_get, Nat.reduceEqDiff, reduceIte, qv_load, ld3, readN, List.getElem?_toArray, List.getElem?_cons_zero, List.getElem?_cons_succ, List.map_toArray, List.map_cons, List.map_nil, Option.map_some, Option.bind_some, Nat.zero_add, Nat.reduceAdd, k0_c3, k2_c3, k3_c3, i4_c3, hB1.cell, hB2.cell]; rfl) ?_
        refine WL.qq (by simp only [ev_tmp, ev_const, ev_func, set_get, Nat.reduceEqDiff, reduceIte, qv_binOp, binv_add, k0_c3, k2_c3, k3_c3, i4_c3, hB1.cell, hB2.cell]; (try simp (disch := omega) only [w64, w8, wu64]); rfl) ?_
        refine WL.qq (by simp only [ev_tmp, ev_const, ev_func, set_get, Nat.reduceEqDiff, reduceIte, qv_fieldAddr, fa70_0, Nat.zero_add, Nat.reduceAdd, k0_c3, k2_c3, k3_c3, i4_c3, hB1.cell, hB2.cell]; rfl) ?_
        refine WL.store (by simp only [ev_tmp, ev_const, ev_func, set_get, Nat.reduceEqDiff, reduceIte, k0_c3, k2_c3, k3_c3, i4_c3, hB1.cell, hB2.cell] <;> rfl) sz3 (by simp only [ev_tmp, ev_const, ev_func, set_get, Nat.reduceEqDiff, reduceIte, Value.cells, k0_c3, k2_c3, k3_c3, i4_c3, hB1.cell, hB2.cell] <;> rfl) rfl hB2 (by first | decide | (simp; done) | (simp; omega)) (by simp [Value.oneCell']) ?_
        intro h6 hw6
        replace hE := hw6.ext hE hb0_2
        replace hB1 := hB1.wr hw6 (Ne.symm hne1_2)
        replace hB2 := hw6.at_
        try simp only [splc, List.take_succ_cons, List.take_zero, List.take_nil, List.drop_succ_cons, List.drop_zero, List.drop_nil, List.cons_append, List.nil_append, List.length_cons, List.length_nil, Nat.zero_add, Nat.add_zero, Nat.reduceAdd, List.append_nil] at hB2
        refine WL.nil ?_
        refine bl_norm ?_
        refine th_norm ?_
        refine ⟨rfl, ?_, _, ?_, y + 1, r - ylenM y, rfl, ?_, ?_, ?_, ?_, ?_, ?_, ?_⟩  -- again 0 of loop 0
        · (repeat (first | exact Fr.refl _ _ | refine Fr.set rfl ?_ | refine Fr.put rfl ?_ | refine Fr.put0 ?_ | refine Fr.trans ?_ (Fr.of hfr1 rfl) | refine Fr.trans ?_ (Fr.of hfc3 rfl)))
        · omega
        · first | assumption | omega | (have hle := @ys_le 2200 (y + 1) (by omega); have := ys_2200; omega)
        · first | assumption | omega | (have hle := @ys_le 2200 (y + 1) (by omega); have := ys_2200; omega)
        · first | assumption | omega | (have hle := @ys_le 2200 (y + 1) (by omega); have := ys_2200; omega)
        · first | assumption | omega | (have hle := @ys_le 2200 (y + 1) (by omega); have := ys_2200; omega)
        · first | assumption | omega | (have hle := @ys_le 2200 (y + 1) (by omega); have := ys_2200; omega)
        · first | assumption | omega | (have hle := @ys_le 2200 (y + 1) (by omega); have := ys_2200; omega)
        · simp only [ev_tmp, ev_const, ev_func, set_get, Nat.reduceEqDiff, reduceIte, k0_c3, k2_c3, k3_c3, i4_c3, hB1.cell, hB2.cell] <;> first | rfl | (congr 1; omega)
def t360 (a b : Int × Int × Int) : Int :=
  (b.1 - a.1) * 360 + (b.2.1 - a.2.1) * 30 + (if (if 30 < a.2.2 then 30 else a.2.2) = 30 then (if 30 < b.2.2 then 30 else b.2.2) else b.2.2) - (if 30 < a.2.2 then 30 else a.2.2)
theorem yr_ex (n : Int) (h0 : 0 ≤ n) (k : Nat) (hn : n < ysM (2000 + (k : Int))) : ∃ y : Int, 2000 ≤ y ∧ y < 2000 + (k : Int) ∧ ysM y ≤ n ∧ n < ysM (y + 1) := by
  induction k with
  | zero =>
    have e : (2000 : Int) + ((0 : Nat) : Int) = 2000 := rfl
    rw [e, ys_2000] at hn
    omega
  | succ k ih =>
    by_cases hk : n < ysM (2000 + (k : Int))
    · obtain ⟨y, h1, h2, h3, h4⟩ := ih hk
      exact ⟨y, h1, by omega, h3, h4⟩
    · have e : (2000 : Int) + ((k + 1 : Nat) : Int) = 2000 + (k : Int) + 1 := by omega
      rw [e] at hn
      exact ⟨2000 + (k : Int), by omega, by omega, by omega, hn⟩
theorem yr_bd (n : Int) (hv : 0 ≤ n ∧ n ≤ 73048) : 2000 ≤ yrM n ∧ yrM n ≤ 2199 ∧ ysM (yrM n) ≤ n ∧ n < ysM (yrM n + 1) := by
  obtain ⟨y, h1, h2, h3, h4⟩ := yr_ex n hv.1 200 (by have := ys_2200; have e : (2000 : Int) + ((200 : Nat) : Int) = 2200 := rfl; rw [e]; omega)
  have := yr_eq h1 h3 h4
  rw [this]
  exact ⟨h1, by omega, h3, h4⟩
theorem mo_spec (y : Int) (hy : 2000 ≤ y ∧ y ≤ 2199) : ∀ (f : Nat) (m r : Int), f + m = 13 → 1 ≤ m → 0 ≤ r → r < remM f y m →
    ∃ f' : Nat, m ≤ (moM f y m r).1 ∧ (f' : Int) + 1 + (moM f y m r).1 = 13 ∧ 0 ≤ (moM f y m r).2 ∧ (moM f y m r).2 < lenM y (moM f y m r).1 ∧ r - (moM f y m r).2 = remM f y m - remM (f' + 1) y (moM f y m r).1
  | 0, m, r, _, _, h0, hr => by simp [remM] at hr; omega
  | f + 1, m, r, hf, hm, h0, hr => by
    simp only [moM]
    by_cases hl : r < lenM y m
    · rw [if_pos hl]
      exact ⟨f, Int.le_refl _, by simp only []; omega, h0, hl, by simp⟩
    · rw [if_neg hl]
      simp only [remM] at hr
      obtain ⟨f', h1, h2, h3, h4, h5⟩ := mo_spec y hy f (m + 1) (r - lenM y m) (by omega) (by omega) (by omega) (by omega)
      refine ⟨f', by omega, h2, h3, h4, ?_⟩
      rw [show remM (f + 1) y m = lenM y m + remM f y (m + 1) from rfl]
      omega
theorem civ_bd (n : Int) (hv : 0 ≤ n ∧ n ≤ 73048) : 2000 ≤ (civM n).1 ∧ (civM n).1 ≤ 2199 ∧ 1 ≤ (civM n).2.1 ∧ (civM n).2.1 ≤ 12 ∧ 1 ≤ (civM n).2.2 ∧ (civM n).2.2 ≤ lenM (civM n).1 (civM n).2.1 ∧ ysM (civM n).1 ≤ n ∧ n < ysM ((civM n).1 + 1) := by
  have hb := yr_bd n hv
  have hs := ys_step (yrM n) hb.1
  obtain ⟨f', h1, h2, h3, h4, h5⟩ := mo_spec (yrM n) ⟨hb.1, hb.2.1⟩ 12 1 (n - ysM (yrM n)) (by decide) (by decide) (by omega) (by rw [rem_year _ hb.1 hb.2.1]; omega)
  simp only [civM]
  omega
theorem t360_bd (a b : Int) (ha : 0 ≤ a ∧ a ≤ 73048) (hb : 0 ≤ b ∧ b ≤ 73048) : -1000000 ≤ t360 (civM a) (civM b) ∧ t360 (civM a) (civM b) ≤ 1000000 := by
  have h1 := civ_bd a ha
  have h2 := civ_bd b hb
  have h3 := len_le (civM a).1 (civM a).2.1
  have h4 := len_le (civM b).1 (civM b).2.1
  unfold t360
  omega
theorem c_t360 (a b : Int) (ha : 0 ≤ a ∧ a ≤ 73048) (hb : 0 ≤ b ∧ b ≤ 73048) (h : Heap) : HCalls Try.prog 47 #[.int .i64 a, .int .i64 b] h (Grow (.int .i64 (t360 (civM a) (civM b))) h) := by
  have hva : validM a = true := by simp [validM, ha]
  have hvb : validM b = true := by simp [validM, hb]
  have h1 := civ_bd a ha
  have h2 := civ_bd b hb
  have h3 := len_le (civM a).1 (civM a).2.1
  have h4 := len_le (civM b).1 (civM b).2.1
  have ea : civA a = .tuple #[.agg #[.int .i64 (civM a).1, .int .i64 (civM a).2.1, .int .i64 (civM a).2.2], .int .i64 0] := by simp [civA, hva]
  have eb : civA b = .tuple #[.agg #[.int .i64 (civM b).1, .int .i64 (civM b).2.1, .int .i64 (civM b).2.2], .int .i64 0] := by simp [civA, hvb]
  refine hcalls2 Try.func47 rfl (by decide +kernel) (by simp only [Try.ntmps47]; exact of_decide_eq_true rfl) ?_
  intro e hin
  have e0 := hin 0 _ rfl
  have e1 := hin 1 _ rfl
  have hE : Ext h h := Ext.refl h
  refine hx_seq ?_
  refine hx_region ?_
  refine WL.qq (by simp only [ev_tmp, ev_const, ev_func, set_get, Nat.reduceEqDiff, reduceIte, qv_assign, e0, e1]; rfl) ?_
  refine WL.nil ?_
  refine th_norm ?_
  refine hx_seq ?_
  refine hx_region ?_
  refine WL.qq (by simp only [ev_tmp, ev_const, ev_func, set_get, Nat.reduceEqDiff, reduceIte, qv_move, e0, e1]; rfl) ?_
  refine WL.cg Try.call67 (by simp only [ev_tmp, ev_const, ev_func, set_get, Nat.reduceEqDiff, reduceIte, List.getElem?_toArray, List.getElem?_cons_zero, List.getElem?_cons_succ, List.map_toArray, List.map_cons, List.map_nil, Option.map_some, Option.bind_some, e0, e1]; exact (ea ▸ c_toCivil a _)) ?_
  intro h1 hx1
  replace hE := hE.trans hx1
  refine WL.qq (by simp only [ev_tmp, ev_const, ev_func, set_get, Nat.reduceEqDiff, reduceIte, qv_move, e0, e1]; rfl) ?_
  refine WL.qq (by simp only [ev_tmp, ev_const, ev_func, set_get, Nat.reduceEqDiff, reduceIte, qv_extract, List.getElem?_toArray, List.getElem?_cons_zero, List.getElem?_cons_succ, List.map_toArray, List.map_cons, List.map_nil, Option.map_some, Option.bind_some, e0, e1]; rfl) ?_
  refine WL.qq (by simp only [ev_tmp, ev_const, ev_func, set_get, Nat.reduceEqDiff, reduceIte, qv_extract, List.getElem?_toArray, List.getElem?_cons_zero, List.getElem?_cons_succ, List.map_toArray, List.map_cons, List.map_nil, Option.map_some, Option.bind_some, e0, e1]; rfl) ?_
  refine WL.allocSt zr86 sz86 (fun u => by simp only [ev_tmp, ev_const, ev_func, set_get, Nat.reduceEqDiff, reduceIte, Value.cells, e0, e1]; rfl) ⟨rfl, rfl⟩ (by simp [Value.oneCell']) ?_
  intro h2 B2 hx2 hlt2 hB2
  have hb0_2 := Nat.le_trans hE.size hlt2
  replace hE := hE.trans hx2
  have hEo2 := hx2
  refine WL.qq (by simp only [ev_tmp, ev_const, ev_func, set_get, Nat.reduceEqDiff, reduceIte, qv_assign, e0, e1, hB2.cell]; rfl) ?_
  refine WL.nil ?_
  refine th_norm ?_
  refine hx_seq ?_
  refine hx_region ?_
  refine WL.qq (by simp only [ev_tmp, ev_const, ev_func, set_get, Nat.reduceEqDiff, reduceIte, qv_move, e0, e1, hB2.cell]; rfl) ?_
  refine WL.cg Try.call67 (by simp only [ev_tmp, ev_const, ev_func, set_get, Nat.reduceEqDiff, reduceIte, List.getElem?_toArray, List.getElem?_cons_zero, List.getElem?_cons_succ, List.map_toArray, List.map_cons, List.map_nil, Option.map_some, Option.bind_some, e0, e1, hB2.cell]; exact (eb ▸ c_toCivil b _)) ?_
  intro h3 hx3
  replace hE := hE.trans hx3
  replace hEo2 := hEo2.trans hx3
  replace hB2 := hB2.ext hx3
  refine WL.qq (by simp only [ev_tmp, ev_const, ev_func, set_get, Nat.reduceEqDiff, reduceIte, qv_move, e0, e1, hB2.cell]; rfl) ?_
  refine WL.qq (by simp only [ev_tmp, ev_const, ev_func, set_get, Nat.reduceEqDiff, reduceIte, qv_extract, List.getElem?_toArray, List.getElem?_cons_zero, List.getElem?_cons_succ, List.map_toArray, List.map_cons, List.map_nil, Option.map_some, Option.bind_some, e0, e1, hB2.cell]; rfl) ?_
  refine WL.qq (by simp only [ev_tmp, ev_const, ev_func, set_get, Nat.reduceEqDiff, reduceIte, qv_extract, List.getElem?_toArray, List.getElem?_cons_zero, List.getElem?_cons_succ, List.map_toArray, List.map_cons, List.map_nil, Option.map_some, Option.bind_some, e0, e1, hB2.cell]; rfl) ?_
  refine WL.allocSt zr86 sz86 (fun u => by simp only [ev_tmp, ev_const, ev_func, set_get, Nat.reduceEqDiff, reduceIte, Value.cells, e0, e1, hB2.cell]; rfl) ⟨rfl, rfl⟩ (by simp [Value.oneCell']) ?_
  intro h4 B4 hx4 hlt4 hB4
  have hne2_4 : B4 ≠ B2 := by have := (Array.getElem?_eq_some_iff.1 hB2).1; omega
  have hb0_4 := Nat.le_trans hE.size hlt4
  have hbo2_4 := Nat.le_trans hEo2.size hlt4
  have hB2_s4 := hB2
  replace hE := hE.trans hx4
  replace hEo2 := hEo2.trans hx4
  replace hB2 := hB2.ext hx4
  have hEo4 := hx4
  refine WL.qq (by simp only [ev_tmp, ev_const, ev_func, set_get, Nat.reduceEqDiff, reduceIte, qv_assign, e0, e1, hB2.cell, hB4.cell]; rfl) ?_
  refine WL.nil ?_
  refine th_norm ?_
  refine hx_seq ?_
  refine hx_region ?_
  refine WL.qq (by simp only [ev_tmp, ev_const, ev_func, set_get, Nat.reduceEqDiff, reduceIte, qv_fieldAddr, fa86_2, Nat.zero_add, Nat.reduceAdd, e0, e1, hB2.cell, hB4.cell]; rfl) ?_
  refine WL.qq (by simp only [ev_tmp, ev_const, ev_func, set_get, Nat.reduceEqDiff, reduceIte, qv_load, ld3, readN, List.getElem?_toArray, List.getElem?_cons_zero, List.getElem?_cons_succ, List.map_toArray, List.map_cons, List.map_nil, Option.map_some, Option.bind_some, Nat.zero_add, Nat.reduceAdd, e0, e1, hB2.cell, hB4.cell]; rfl) ?_
  refine WL.qq (by refine qv_min2 (by simp only [ev_tmp, ev_const, ev_func, set_get, Nat.reduceEqDiff, reduceIte, e0, e1, hB2.cell, hB4.cell] <;> rfl) (by simp only [ev_tmp, ev_const, ev_func, set_get, Nat.reduceEqDiff, reduceIte, e0, e1, hB2.cell, hB4.cell] <;> rfl)) ?_
  refine WL.qq (by simp only [ev_tmp, ev_const, ev_func, set_get, Nat.reduceEqDiff, reduceIte, qv_fieldAddr, fa86_2, Nat.zero_add, Nat.reduceAdd, e0, e1, hB2.cell, hB4.cell]; rfl) ?_
  refine WL.store (by simp only [ev_tmp, ev_const, ev_func, set_get, Nat.reduceEqDiff, reduceIte, e0, e1, hB2.cell, hB4.cell] <;> rfl) sz3 (by simp only [ev_tmp, ev_const, ev_func, set_get, Nat.reduceEqDiff, reduceIte, Value.cells, e0, e1, hB2.cell, hB4.cell] <;> rfl) rfl hB2 (by first | decide | (simp; done) | (simp; omega)) (by simp [Value.oneCell']) ?_
  intro h5 hw5
  replace hE := hw5.ext hE hb0_2
  replace hEo2 := hw5.ext hEo2 hlt2
  replace hB4 := hB4.wr hw5 hne2_4
  replace hB2 := hw5.at_
  try simp only [splc, List.take_succ_cons, List.take_zero, List.take_nil, List.drop_succ_cons, List.drop_zero, List.drop_nil, List.cons_append, List.nil_append, List.length_cons, List.length_nil, Nat.zero_add, Nat.add_zero, Nat.reduceAdd, List.append_nil] at hB2
  refine WL.nil ?_
  refine th_norm ?_
  refine hx_seq ?_
  refine hx_seq ?_
  refine hx_region ?_
  refine WL.qq (by simp only [ev_tmp, ev_const, ev_func, set_get, Nat.reduceEqDiff, reduceIte, qv_fieldAddr, fa86_2, Nat.zero_add, Nat.reduceAdd, e0, e1, hB2.cell, hB4.cell]; rfl) ?_
  refine WL.qq (by simp only [ev_tmp, ev_const, ev_func, set_get, Nat.reduceEqDiff, reduceIte, qv_load, ld3, readN, List.getElem?_toArray, List.getElem?_cons_zero, List.getElem?_cons_succ, List.map_toArray, List.map_cons, List.map_nil, Option.map_some, Option.bind_some, Nat.zero_add, Nat.reduceAdd, e0, e1, hB2.cell, hB4.cell]; rfl) ?_
  refine WL.qq (by simp only [ev_tmp, ev_const, ev_func, set_get, Nat.reduceEqDiff, reduceIte, qv_binOp, binv_eql, eq3, Option.map_some, e0, e1, hB2.cell, hB4.cell]; rfl) ?_
  refine WL.nil ?_
  refine th_norm ?_
  refine hx_cond (by simp only [ev_tmp, ev_const, ev_func, set_get, Nat.reduceEqDiff, reduceIte, e0, e1, hB2.cell, hB4.cell]; rfl) (fun hct25 => ?_) (fun hct25 => ?_)
  ·
    try simp only [decide_eq_true_eq, decide_eq_false_iff_not, Bool.and_eq_true, Bool.and_eq_false_iff, Bool.or_eq_true, Bool.or_eq_false_iff, Bool.not_eq_true', Bool.not_eq_false', Bool.not_eq_true, Bool.not_eq_false] at hct25
    refine hx_region ?_
    refine WL.qq (by simp only [ev_tmp, ev_const, ev_func, set_get, Nat.reduceEqDiff, reduceIte, qv_fieldAddr, fa86_2, Nat.zero_add, Nat.reduceAdd, e0, e1, hB2.cell, hB4.cell]; rfl) ?_
    refine WL.qq (by simp only [ev_tmp, ev_const, ev_func, set_get, Nat.reduceEqDiff, reduceIte, qv_load, ld3, readN, List.getElem?_toArray, List.getElem?_cons_zero, List.getElem?_cons_succ, List.map_toArray, List.map_cons, List.map_nil, Option.map_some, Option.bind_some, Nat.zero_add, Nat.reduceAdd, e0, e1, hB2.cell, hB4.cell]; rfl) ?_
    refine WL.qq (by refine qv_min2 (by simp only [ev_tmp, ev_const, ev_func, set_get, Nat.reduceEqDiff, reduceIte, e0, e1, hB2.cell, hB4.cell] <;> rfl) (by simp only [ev_tmp, ev_const, ev_func, set_get, Nat.reduceEqDiff, reduceIte, e0, e1, hB2.cell, hB4.cell] <;> rfl)) ?_
    refine WL.qq (by simp only [ev_tmp, ev_const, ev_func, set_get, Nat.reduceEqDiff, reduceIte, qv_fieldAddr, fa86_2, Nat.zero_add, Nat.reduceAdd, e0, e1, hB2.cell, hB4.cell]; rfl) ?_
    refine WL.store (by simp only [ev_tmp, ev_const, ev_func, set_get, Nat.reduceEqDiff, reduceIte, e0, e1, hB2.cell, hB4.cell] <;> rfl) sz3 (by simp only [ev_tmp, ev_const, ev_func, set_get, Nat.reduceEqDiff, reduceIte, Value.cells, e0, e1, hB2.cell, hB4.cell] <;> rfl) rfl hB4 (by first | decide | (simp; done) | (simp; omega)) (by simp [Value.oneCell']) ?_
    intro h6 hw6
    replace hE := hw6.ext hE hb0_4
    replace hEo2 := hw6.ext hEo2 hbo2_4
    replace hB2 := hB2.wr hw6 (Ne.symm hne2_4)
    replace hB4 := hw6.at_
    try simp only [splc, List.take_succ_cons, List.take_zero, List.take_nil, List.drop_succ_cons, List.drop_zero, List.drop_nil, List.cons_append, List.nil_append, List.length_cons, List.length_nil, Nat.zero_add, Nat.add_zero, Nat.reduceAdd, List.append_nil] at hB4
    refine WL.nil ?_
    refine th_norm ?_
    refine hx_seq ?_
    refine hx_region ?_
    refine WL.qq (by simp only [ev_tmp, ev_const, ev_func, set_get, Nat.reduceEqDiff, reduceIte, qv_fieldAddr, fa86_0, Nat.zero_add, Nat.reduceAdd, e0, e1, hB2.cell, hB4.cell]; rfl) ?_
    refine WL.qq (by simp only [ev_tmp, ev_const, ev_func, set_get, Nat.reduceEqDiff, reduceIte, qv_load, ld3, readN, List.getElem?_toArray, List.getElem?_cons_zero, List.getElem?_cons_succ, List.map_toArray, List.map_cons, List.map_nil, Option.map_some, Option.bind_some, Nat.zero_add, Nat.reduceAdd, e0, e1, hB2.cell, hB4.cell]; rfl) ?_
    refine WL.qq (by simp only [ev_tmp, ev_const, ev_func, set_get, Nat.reduceEqDiff, reduceIte, qv_fieldAddr, fa86_0, Nat.zero_add, Nat.reduceAdd, e0, e1, hB2.cell, hB4.cell]; rfl) ?_
    refine WL.qq (by simp only [ev_tmp, ev_const, ev_func, set_get, Nat.reduceEqDiff, reduceIte, qv_load, ld3, readN, List.getElem?_toArray, List.getElem?_cons_zero, List.getElem?_cons_succ, List.map_toArray, List.map_cons, List.map_nil, Option.map_some, Option.bind_some, Nat.zero_add, Nat.reduceAdd, e0, e1, hB2.cell, hB4.cell]; rfl) ?_
    refine WL.qq (by simp only [ev_tmp, ev_const, ev_func, set_get, Nat.reduceEqDiff, reduceIte, qv_binOp, binv_sub, e0, e1, hB2.cell, hB4.cell]; (try simp (disch := omega) only [w64, w8, wu64]); rfl) ?_
    refine WL.qq (by simp only [ev_tmp, ev_const, ev_func, set_get, Nat.reduceEqDiff, reduceIte, qv_binOp, binv_mul, e0, e1, hB2.cell, hB4.cell]; (try simp (disch := omega) only [w64, w8, wu64]); rfl) ?_
    refine WL.qq (by simp only [ev_tmp, ev_const, ev_func, set_get, Nat.reduceEqDiff, reduceIte, qv_fieldAddr, fa86_1, Nat.zero_add, Nat.reduceAdd, e0, e1, hB2.cell, hB4.cell]; rfl) ?_
    refine WL.qq (by simp only [ev_tmp, ev_const, ev_func, set_get, Nat.reduceEqDiff, reduceIte, qv_load, ld3, readN, List.getElem?_toArray, List.getElem?_cons_zero, List.getElem?_cons_succ, List.map_toArray, List.map_cons, List.map_nil, Option.map_some, Option.bind_some, Nat.zero_add, Nat.reduceAdd, e0, e1, hB2.cell, hB4.cell]; rfl) ?_
    refine WL.qq (by simp only [ev_tmp, ev_const, ev_func, set_get, Nat.reduceEqDiff, reduceIte, qv_fieldAddr, fa86_1, Nat.zero_add, Nat.reduceAdd, e0, e1, hB2.cell, hB4.cell]; rfl) ?_
    refine WL.qq (by simp only [ev_tmp, ev_const, ev_func, set_get, Nat.reduceEqDiff, reduceIte, qv_load, ld3, readN, List.getElem?_toArray, List.getElem?_cons_zero, List.getElem?_cons_succ, List.map_toArray, List.map_cons, List.map_nil, Option.map_some, Option.bind_some, Nat.zero_add, Nat.reduceAdd, e0, e1, hB2.cell, hB4.cell]; rfl) ?_
    refine WL.qq (by simp only [ev_tmp, ev_const, ev_func, set_get, Nat.reduceEqDiff, reduceIte, qv_binOp, binv_sub, e0, e1, hB2.cell, hB4.cell]; (try simp (disch := omega) only [w64, w8, wu64]); rfl) ?_
    refine WL.qq (by simp only [ev_tmp, ev_const, ev_func, set_get, Nat.reduceEqDiff, reduceIte, qv_binOp, binv_mul, e0, e1, hB2.cell, hB4.cell]; (try simp (disch := omega) only [w64, w8, wu64]); rfl) ?_
    refine WL.qq (by simp only [ev_tmp, ev_const, ev_func, set_get, Nat.reduceEqDiff, reduceIte, qv_binOp, binv_add, e0, e1, hB2.cell, hB4.cell]; (try simp (disch := omega) only [w64, w8, wu64]); rfl) ?_
    refine WL.qq (by simp only [ev_tmp, ev_const, ev_func, set_get, Nat.reduceEqDiff, reduceIte, qv_fieldAddr, fa86_2, Nat.zero_add, Nat.reduceAdd, e0, e1, hB2.cell, hB4.cell]; rfl) ?_
    refine WL.qq (by simp only [ev_tmp, ev_const, ev_func, set_get, Nat.reduceEqDiff, reduceIte, qv_load, ld3, readN, List.getElem?_toArray, List.getElem?_cons_zero, List.getElem?_cons_succ, List.map_toArray, List.map_cons, List.map_nil, Option.map_some, Option.bind_some, Nat.zero_add, Nat.reduceAdd, e0, e1, hB2.cell, hB4.cell]; rfl) ?_
    refine WL.qq (by simp only [ev_tmp, ev_const, ev_func, set_get, Nat.reduceEqDiff, reduceIte, qv_binOp, binv_add, e0, e1, hB2.cell, hB4.cell]; (try simp (disch := omega) only [w64, w8, wu64]); rfl) ?_
    refine WL.qq (by simp only [ev_tmp, ev_const, ev_func, set_get, Nat.reduceEqDiff, reduceIte, qv_fieldAddr, fa86_2, Nat.zero_add, Nat.reduceAdd, e0, e1, hB2.cell, hB4.cell]; rfl) ?_
    refine WL.qq (by simp only [ev_tmp, ev_const, ev_func, set_get, Nat.reduceEqDiff, reduceIte, qv_load, ld3, readN, List.getElem?_toArray, List.getElem?_cons_zero, List.getElem?_cons_succ, List.map_toArray, List.map_cons, List.map_nil, Option.map_some, Option.bind_some, Nat.zero_add, Nat.reduceAdd, e0, e1, hB2.cell, hB4.cell]; rfl) ?_
    refine WL.qq (by simp only [ev_tmp, ev_const, ev_func, set_get, Nat.reduceEqDiff, reduceIte, qv_binOp, binv_sub, e0, e1, hB2.cell, hB4.cell]; (try simp (disch := omega) only [w64, w8, wu64]); rfl) ?_
    refine WL.qq (by simp only [ev_tmp, ev_const, ev_func, set_get, Nat.reduceEqDiff, reduceIte, qv_assign, e0, e1, hB2.cell, hB4.cell]; rfl) ?_
    refine WL.nil ?_
    refine th_norm ?_
    refine hx_ret ?_
    refine fin_ret [.tmp 4] rfl rfl (by simp only [ev_tmp, ev_const, ev_func, set_get, Nat.reduceEqDiff, reduceIte, resv, e0, e1, hB2.cell, hB4.cell]; rfl) ?_  -- ret 0 r6
    exact ⟨by simp only [retOf, t360, if_pos hct25], hE⟩
  ·
    try simp only [decide_eq_true_eq, decide_eq_false_iff_not, Bool.and_eq_true, Bool.and_eq_false_iff, Bool.or_eq_true, Bool.or_eq_false_iff, Bool.not_eq_true', Bool.not_eq_false', Bool.not_eq_true, Bool.not_eq_false] at hct25
    refine hx_skip ?_
    refine th_norm ?_
    refine hx_seq ?_
    refine hx_region ?_
    refine WL.qq (by simp only [ev_tmp, ev_const, ev_func, set_get, Nat.reduceEqDiff, reduceIte, qv_fieldAddr, fa86_0, Nat.zero_add, Nat.reduceAdd, e0, e1, hB2.cell, hB4.cell]; rfl) ?_
    refine WL.qq (by simp only [ev_tmp, ev_const, ev_func, set_get, Nat.reduceEqDiff, reduceIte, qv_load, ld3, readN, List.getElem?_toArray, List.getElem?_cons_zero, List.getElem?_cons_succ, List.map_toArray, List.map_cons, List.map_nil, Option.map_some, Option.bind_some, Nat.zero_add, Nat.reduceAdd, e0, e1, hB2.cell, hB4.cell]; rfl) ?_
    refine WL.qq (by simp only [ev_tmp, ev_const, ev_func, set_get, Nat.reduceEqDiff, reduceIte, qv_fieldAddr, fa86_0, Nat.zero_add, Nat.reduceAdd, e0, e1, hB2.cell, hB4.cell]; rfl) ?_
    refine WL.qq (by simp only [ev_tmp, ev_const, ev_func, set_get, Nat.reduceEqDiff, reduceIte, qv_load, ld3, readN, List.getElem?_toArray, List.getElem?_cons_zero, List.getElem?_cons_succ, List.map_toArray, List.map_cons, List.map_nil, Option.map_some, Option.bind_some, Nat.zero_add, Nat.reduceAdd, e0, e1, hB2.cell, hB4.cell]; rfl) ?_
    refine WL.qq (by simp only [ev_tmp, ev_const, ev_func, set_get, Nat.reduceEqDiff, reduceIte, qv_binOp, binv_sub, e0, e1, hB2.cell, hB4.cell]; (try simp (disch := omega) only [w64, w8, wu64]); rfl) ?_
    refine WL.qq (by simp only [ev_tmp, ev_const, ev_func, set_get, Nat.reduceEqDiff, reduceIte, qv_binOp, binv_mul, e0, e1, hB2.cell, hB4.cell]; (try simp (disch := omega) only [w64, w8, wu64]); rfl) ?_
    refine WL.qq (by simp only [ev_tmp, ev_const, ev_func, set_get, Nat.reduceEqDiff, reduceIte, qv_fieldAddr, fa86_1, Nat.zero_add, Nat.reduceAdd, e0, e1, hB2.cell, hB4.cell]; rfl) ?_
    refine WL.qq (by simp only [ev_tmp, ev_const, ev_func, set_get, Nat.reduceEqDiff, reduceIte, qv_load, ld3, readN, List.getElem?_toArray, List.getElem?_cons_zero, List.getElem?_cons_succ, List.map_toArray, List.map_cons, List.map_nil, Option.map_some, Option.bind_some, Nat.zero_add, Nat.reduceAdd, e0, e1, hB2.cell, hB4.cell]; rfl) ?_
    refine WL.qq (by simp only [ev_tmp, ev_const, ev_func, set_get, Nat.reduceEqDiff, reduceIte, qv_fieldAddr, fa86_1, Nat.zero_add, Nat.reduceAdd, e0, e1, hB2.cell, hB4.cell]; rfl) ?_
    refine WL.qq (by simp only [ev_tmp, ev_const, ev_func, set_get, Nat.reduceEqDiff, reduceIte, qv_load, ld3, readN, List.getElem?_toArray, List.getElem?_cons_zero, List.getElem?_cons_succ, List.map_toArray, List.map_cons, List.map_nil, Option.map_some, Option.bind_some, Nat.zero_add, Nat.reduceAdd, e0, e1, hB2.cell, hB4.cell]; rfl) ?_
    refine WL.qq (by simp only [ev_tmp, ev_const, ev_func, set_get, Nat.reduceEqDiff, reduceIte, qv_binOp, binv_sub, e0, e1, hB2.cell, hB4.cell]; (try simp (disch := omega) only [w64, w8, wu64]); rfl) ?_
    refine WL.qq (by simp only [ev_tmp, ev_const, ev_func, set_get, Nat.reduceEqDiff, reduceIte, qv_binOp, binv_mul, e0, e1, hB2.cell, hB4.cell]; (try simp (disch := omega) only [w64, w8, wu64]); rfl) ?_
    refine WL.qq (by simp only [ev_tmp, ev_const, ev_func, set_get, Nat.reduceEqDiff, reduceIte, qv_binOp, binv_add, e0, e1, hB2.cell, hB4.cell]; (try simp (disch := omega) only [w64, w8, wu64]); rfl) ?_
    refine WL.qq (by simp only [ev_tmp, ev_const, ev_func, set_get, Nat.reduceEqDiff, reduceIte, qv_fieldAddr, fa86_2, Nat.zero_add, Nat.reduceAdd, e0, e1, hB2.cell, hB4.cell]; rfl) ?_
    refine WL.qq (by simp only [ev_tmp, ev_const, ev_func, set_get, Nat.reduceEqDiff, reduceIte, qv_load, ld3, readN, List.getElem?_toArray, List.getElem?_cons_zero, List.getElem?_cons_succ, List.map_toArray, List.map_cons, List.map_nil, Option.map_some, Option.bind_some, Nat.zero_add, Nat.reduceAdd, e0, e1, hB2.cell, hB4.cell]; rfl) ?_
    refine WL.qq (by simp only [ev_tmp, ev_const, ev_func, set_get, Nat.reduceEqDiff, reduceIte, qv_binOp, binv_add, e0, e1, hB2.cell, hB4.cell]; (try simp (disch := omega) only [w64, w8, wu64]); rfl) ?_
    refine WL.qq (by simp only [ev_tmp, ev_const, ev_func, set_get, Nat.reduceEqDiff, reduceIte, qv_fieldAddr, fa86_2, Nat.zero_add, Nat.reduceAdd, e0, e1, hB2.cell, hB4.cell]; rfl) ?_
    refine WL.qq (by simp only [ev_tmp, ev_const, ev_func, set_get, Nat.reduceEqDiff, reduceIte, qv_load, ld3, readN, List.getElem?_toArray, List.getElem?_cons_zero, List.getElem?_cons_succ, List.map_toArray, List.map_cons, List.map_nil, Option.map_some, Option.bind_some, Nat.zero_add, Nat.reduceAdd, e0, e1, hB2.cell, hB4.cell]; rfl) ?_
    refine WL.qq (by simp only [ev_tmp, ev_const, ev_func, set_get, Nat.reduceEqDiff, reduceIte, qv_binOp, binv_sub, e0, e1, hB2.cell, hB4.cell]; (try simp (disch := omega) only [w64, w8, wu64]); rfl) ?_
    refine WL.qq (by simp only [ev_tmp, ev_const, ev_func, set_get, Nat.reduceEqDiff, reduceIte, qv_assign, e0, e1, hB2.cell, hB4.cell]; rfl) ?_
    refine WL.nil ?_
    refine th_norm ?_
    refine hx_ret ?_
    refine fin_ret [.tmp 4] rfl rfl (by simp only [ev_tmp, ev_const, ev_func, set_get, Nat.reduceEqDiff, reduceIte, resv, e0, e1, hB2.cell, hB4.cell]; rfl) ?_  -- ret 1 r6
    exact ⟨by simp only [retOf, t360, if_neg hct25], hE⟩
end GL


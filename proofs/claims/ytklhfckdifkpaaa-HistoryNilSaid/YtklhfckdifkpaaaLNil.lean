/- The law HistoryNil returns true: methods of a nil history return ErrArgument or zero values. No condition beyond the row's own. -/
import Derived.Test.YtklhfckdifkpaaaRows
import Derived.Test.YtklhfckdifkpaaaHisW
import Derived.Test.YtklhfckdifkpaaaHisV
set_option linter.unusedSimpArgs false
set_option linter.unusedVariables false
set_option linter.unnecessarySimpa false
namespace GL
open Go Go.Proofs
set_option maxRecDepth 8000
abbrev nilP : Value := .pointer none
theorem c_lenN (h : Heap) : HCalls Try.prog 23 #[nilP] h (Pure (iV 0) h) := by
  refine hcalls2 Try.func23 rfl (by decide +kernel) (by simp only [Try.ntmps23]; exact of_decide_eq_true rfl) ?_
  intro e hin
  have e0 := hin 0 _ rfl
  refine hx_seq ?_
  refine hx_region ?_
  refine WL.qq (by simp only [EN, Nat.reduceEqDiff, reduceIte, qv_assign]; rfl) ?_
  refine WL.nil ?_
  refine th_norm ?_
  refine hx_seq ?_
  refine hx_seq ?_
  refine hx_region ?_
  refine WL.qq (by simp only [EN, Nat.reduceEqDiff, reduceIte, qv_move, e0]; rfl) ?_
  refine WL.qq (by simp only [EN, Nat.reduceEqDiff, reduceIte, qv_binOp, binv_eql, eqz27, eqn27, eqm27, Option.map_some]; rfl) ?_
  refine WL.nil ?_
  refine th_norm ?_
  refine hx_cond (by simp only [EN, Nat.reduceEqDiff, reduceIte]; rfl) (fun hct4 => ?_) (fun hct4 => ?_)
  ·
    try simp only [BD] at hct4
    refine hx_seq ?_
    refine hx_region ?_
    refine WL.qq (by simp only [EN, Nat.reduceEqDiff, reduceIte, qv_assign]; rfl) ?_
    refine WL.nil ?_
    refine th_norm ?_
    refine hx_ret ?_
    refine th_ret ?_
    refine fin_ret [.tmp 2] rfl rfl (by simp only [EN, Nat.reduceEqDiff, reduceIte, resv, e0]; rfl) ?_  -- ret 0 r2
    exact ⟨rfl, rfl⟩
  ·
    simp at hct4
theorem c_balN (q : AC) (n : Int) (h : Heap) : HCalls Try.prog 16 #[nilP, acV q, iV n] h (Grow (.tuple #[iV 0, iV 1]) h) := by
  refine hcalls2 Try.func16 rfl (by decide +kernel) (by simp only [Try.ntmps16]; exact of_decide_eq_true rfl) ?_
  intro e hin
  have e0 := hin 0 _ rfl
  have e1 := hin 1 _ rfl
  have e2 := hin 2 _ rfl
  refine hx_seq ?_
  refine hx_region ?_
  refine WL.box2 (by simp only [EN, Nat.reduceEqDiff, reduceIte, Value.cells, e1]; rfl) ?_
  intro h1 B1 hx1 hlt1 hB1
  refine WL.qq (by simp only [EN, Nat.reduceEqDiff, reduceIte, qv_assign, hB1.cell]; rfl) ?_
  refine WL.qq (by simp only [EN, Nat.reduceEqDiff, reduceIte, qv_assign, hB1.cell]; rfl) ?_
  refine WL.nil ?_
  refine th_norm ?_
  refine hx_seq ?_
  refine hx_block ?_
  refine hx_seq ?_
  refine hx_region ?_
  refine WL.qq (by simp only [EN, Nat.reduceEqDiff, reduceIte, qv_move, e0, hB1.cell]; rfl) ?_
  refine WL.qq (by simp only [EN, Nat.reduceEqDiff, reduceIte, qv_binOp, binv_eql, eqz27, eqn27, eqm27, Option.map_some, hB1.cell]; rfl) ?_
  refine WL.qq (by simp only [EN, Nat.reduceEqDiff, reduceIte, qv_assign, hB1.cell]; rfl) ?_
  refine WL.nil ?_
  refine th_norm ?_
  refine hx_cond (by simp only [EN, Nat.reduceEqDiff, reduceIte, hB1.cell]; rfl) (fun hct8 => ?_) (fun hct8 => ?_)
  ·
    try simp only [BD] at hct8
    refine hx_seq ?_
    refine hx_region ?_
    refine WL.qq (by simp only [EN, Nat.reduceEqDiff, reduceIte, qv_assign, hB1.cell]; rfl) ?_
    refine WL.qq (by simp only [EN, Nat.reduceEqDiff, reduceIte, qv_assign, hB1.cell]; rfl) ?_
    refine WL.nil ?_
    refine th_norm ?_
    refine hx_ret ?_
    refine bl_ret ?_
    refine th_ret ?_
    refine fin_ret [.tmp 6, .tmp 7] rfl rfl (by simp only [EN, Nat.reduceEqDiff, reduceIte, resv, e0, e1, e2, hB1.cell]; rfl) ?_  -- ret 0 r2
    exact ⟨rfl, (hx1)⟩
  ·
    simp at hct8
theorem c_atN (n : Int) (h : Heap) : HCalls Try.prog 24 #[nilP, iV n] h (Grow (.tuple #[.agg #[iV 0, iV 0, iV 0, .slice none 0 0], .bool false]) h) := by
  refine hcalls2 Try.func24 rfl (by decide +kernel) (by simp only [Try.ntmps24]; exact of_decide_eq_true rfl) ?_
  intro e hin
  have e0 := hin 0 _ rfl
  have e1 := hin 1 _ rfl
  have hE : Ext h h := Ext.refl h
  refine hx_seq ?_
  refine hx_region ?_
  refine WL.alloc2 zr55 ?_
  intro h1 B1 hx1 hlt1 hB1
  have hb0_1 := Nat.le_trans hE.size hlt1
  replace hE := hE.trans hx1
  have hEo1 := hx1
  simp only [Value.cells] at hB1
  refine WL.qq (by simp only [EN, Nat.reduceEqDiff, reduceIte, qv_assign, hB1.cell]; rfl) ?_
  refine WL.nil ?_
  refine th_norm ?_
  refine hx_seq ?_
  refine hx_seq ?_
  refine hx_region ?_
  refine WL.qq (by simp only [EN, Nat.reduceEqDiff, reduceIte, qv_move, e1, hB1.cell]; rfl) ?_
  refine WL.qq (by simp only [EN, Nat.reduceEqDiff, reduceIte, qv_binOp, binv_lss, hB1.cell]; rfl) ?_
  refine WL.qq (by simp only [EN, Nat.reduceEqDiff, reduceIte, qv_move, hB1.cell]; rfl) ?_
  refine WL.cq (gd_at (t := 8) rfl (by simp only [EN, Nat.reduceEqDiff, reduceIte, e1, hB1.cell] <;> rfl)) (fun hg1_3 => by simp only [EN, Nat.reduceEqDiff, reduceIte, qv_move, e1, hB1.cell, hg1_3, GR]; rfl) ?_
  refine WL.cq (gd_at (t := 8) rfl (by simp only [EN, Nat.reduceEqDiff, reduceIte, e0, hB1.cell] <;> rfl)) (fun hg1_4 => by simp only [EN, Nat.reduceEqDiff, reduceIte, qv_move, e0, hB1.cell, hg1_4, GR]; rfl) ?_
  refine WL.cck (gd_at (t := 8) rfl (by simp only [EN, Nat.reduceEqDiff, reduceIte, hB1.cell] <;> rfl)) Try.call23 (fun hg1_5 => by simp only [EN, Nat.reduceEqDiff, reduceIte, AR, hB1.cell, hg1_5, GR]; exact c_lenN _) ?_
  refine WL.cq (gd_at (t := 8) rfl (by simp only [EN, Nat.reduceEqDiff, reduceIte, hB1.cell] <;> rfl)) (fun hg1_6 => by simp only [EN, Nat.reduceEqDiff, reduceIte, qv_binOp, binv_gtr, hB1.cell, hg1_6, GR]; rfl) ?_
  refine WL.qq (by simp only [EN, Nat.reduceEqDiff, reduceIte, qv_pick, pk_and, pk_or, GR, hB1.cell]; rfl) ?_
  refine WL.nil ?_
  refine th_norm ?_
  refine hx_cond (by simp only [EN, Nat.reduceEqDiff, reduceIte, hB1.cell]; rfl) (fun hct13 => ?_) (fun hct13 => ?_)
  ·
    try simp only [BD] at hct13
    refine hx_seq ?_
    refine hx_region ?_
    refine WL.qq (by refine qv_bld (by simp only [EN, Nat.reduceEqDiff, reduceIte, AR, hB1.cell] <;> rfl) (by rw [bl55]; simp [Instr.fill, Value.cells]; rfl)) ?_
    refine WL.store (by simp only [EN, Nat.reduceEqDiff, reduceIte, hB1.cell] <;> rfl) sz55 (by simp only [EN, Nat.reduceEqDiff, reduceIte, Value.cells, hB1.cell] <;> rfl) rfl hB1 (by first | decide | (simp; done) | (simp; omega)) (by simp [Value.oneCell']) ?_
    intro h2 hw2
    replace hE := hw2.ext hE hb0_1
    replace hEo1 := hw2.ext hEo1 hlt1
    replace hB1 := hw2.at_
    try simp only [splc, List.take_succ_cons, List.take_zero, List.take_nil, List.drop_succ_cons, List.drop_zero, List.drop_nil, List.cons_append, List.nil_append, List.length_cons, List.length_nil, Nat.zero_add, Nat.add_zero, Nat.reduceAdd, List.append_nil] at hB1
    refine WL.qq (by simp only [EN, Nat.reduceEqDiff, reduceIte, qv_assign, hB1.cell]; rfl) ?_
    refine WL.nil ?_
    refine th_norm ?_
    refine hx_ret ?_
    refine th_ret ?_
    refine fin_ret [.cell 4 55, .tmp 5] rfl rfl (by simp only [EN, Nat.reduceEqDiff, reduceIte, resv, ld55, readN, AR, Nat.zero_add, Nat.reduceAdd, e0, e1, hB1.cell]; rfl) ?_  -- ret 0 r2
    exact ⟨rfl, hE⟩
  ·
    simp at hct13; omega
theorem c_checkN (b : BX) (h : Heap) : HCalls Try.prog 58 #[nilP, .agg (bdL b).toArray] h (Grow (iV 1) h) := by
  refine hcalls2 Try.func58 rfl (by decide +kernel) (by simp only [Try.ntmps58]; exact of_decide_eq_true rfl) ?_
  intro e hin
  have e0 := hin 0 _ rfl
  have e1 := hin 1 _ rfl
  refine hx_seq ?_
  refine hx_region ?_
  refine WL.box2 (by simp only [EN, Nat.reduceEqDiff, reduceIte, Value.cells, e0]; rfl) ?_
  intro h1 B1 hx1 hlt1 hB1
  refine WL.box2 (by simp only [EN, Nat.reduceEqDiff, reduceIte, Value.cells, e1, hB1.cell]; rfl) ?_
  intro h2 B2 hx2 hlt2 hB2
  replace hB1 := hB1.ext hx2
  refine WL.qq (by simp only [EN, Nat.reduceEqDiff, reduceIte, qv_assign, hB1.cell, hB2.cell]; rfl) ?_
  refine WL.nil ?_
  refine th_norm ?_
  refine hx_seq ?_
  refine hx_block ?_
  refine hx_seq ?_
  refine hx_region ?_
  refine WL.qq (by simp only [EN, Nat.reduceEqDiff, reduceIte, qv_load, ld27, readN, AR, Nat.zero_add, Nat.reduceAdd, hB1.cell, hB2.cell]; rfl) ?_
  refine WL.qq (by simp only [EN, Nat.reduceEqDiff, reduceIte, qv_binOp, binv_eql, eqz27, eqn27, eqm27, Option.map_some, hB1.cell, hB2.cell]; rfl) ?_
  refine WL.qq (by simp only [EN, Nat.reduceEqDiff, reduceIte, qv_assign, hB1.cell, hB2.cell]; rfl) ?_
  refine WL.nil ?_
  refine th_norm ?_
  refine hx_cond (by simp only [EN, Nat.reduceEqDiff, reduceIte, hB1.cell, hB2.cell]; rfl) (fun hct15 => ?_) (fun hct15 => ?_)
  ·
    try simp only [BD] at hct15
    refine hx_seq ?_
    refine hx_region ?_
    refine WL.qq (by simp only [EN, Nat.reduceEqDiff, reduceIte, qv_assign, hB1.cell, hB2.cell]; rfl) ?_
    refine WL.nil ?_
    refine th_norm ?_
    refine hx_ret ?_
    refine bl_ret ?_
    refine th_ret ?_
    refine fin_ret [.tmp 4] rfl rfl (by simp only [EN, Nat.reduceEqDiff, reduceIte, resv, e0, e1, hB1.cell, hB2.cell]; rfl) ?_  -- ret 0 r2
    exact ⟨rfl, ((hx1).trans (hx2))⟩
  ·
    simp at hct15
theorem c_appN (b : BX) (h : Heap) : HCalls Try.prog 35 #[nilP, .agg (bdL b).toArray] h (Grow (iV 1) h) := by
  refine hcalls2 Try.func35 rfl (by decide +kernel) (by simp only [Try.ntmps35]; exact of_decide_eq_true rfl) ?_
  intro e hin
  have e0 := hin 0 _ rfl
  have e1 := hin 1 _ rfl
  refine hx_seq ?_
  refine hx_region ?_
  refine WL.box2 (by simp only [EN, Nat.reduceEqDiff, reduceIte, Value.cells, e1]; rfl) ?_
  intro h1 B1 hx1 hlt1 hB1
  refine WL.qq (by simp only [EN, Nat.reduceEqDiff, reduceIte, qv_assign, hB1.cell]; rfl) ?_
  refine WL.nil ?_
  refine th_norm ?_
  refine hx_seq ?_
  refine hx_seq ?_
  refine hx_region ?_
  refine WL.qq (by simp only [EN, Nat.reduceEqDiff, reduceIte, qv_move, e0, hB1.cell]; rfl) ?_
  refine WL.qq (by simp only [EN, Nat.reduceEqDiff, reduceIte, qv_load, ld55, readN, AR, Nat.zero_add, Nat.reduceAdd, hB1.cell]; rfl) ?_
  refine WL.cg Try.call58 (by simp only [EN, Nat.reduceEqDiff, reduceIte, AR, hB1.cell]; exact c_checkN b _) ?_
  intro h2 hx2
  replace hB1 := hB1.ext hx2
  refine WL.qq (by simp only [EN, Nat.reduceEqDiff, reduceIte, qv_assign, hB1.cell]; rfl) ?_
  refine WL.nil ?_
  refine th_norm ?_
  refine hx_seq ?_
  refine hx_region ?_
  refine WL.qq (by simp only [EN, Nat.reduceEqDiff, reduceIte, qv_move, hB1.cell]; rfl) ?_
  refine WL.qq (by simp only [EN, Nat.reduceEqDiff, reduceIte, qv_binOp, binv_neq, eq32, Option.map_some, hB1.cell]; rfl) ?_
  refine WL.nil ?_
  refine th_norm ?_
  refine hx_cond (by simp only [EN, Nat.reduceEqDiff, reduceIte, hB1.cell]; rfl) (fun hct10 => ?_) (fun hct10 => ?_)
  ·
    try simp only [BD] at hct10
    refine hx_seq ?_
    refine hx_region ?_
    refine WL.qq (by simp only [EN, Nat.reduceEqDiff, reduceIte, qv_move, hB1.cell]; rfl) ?_
    refine WL.qq (by simp only [EN, Nat.reduceEqDiff, reduceIte, qv_assign, hB1.cell]; rfl) ?_
    refine WL.nil ?_
    refine th_norm ?_
    refine hx_ret ?_
    refine th_ret ?_
    refine fin_ret [.tmp 4] rfl rfl (by simp only [EN, Nat.reduceEqDiff, reduceIte, resv, e0, e1, hB1.cell]; rfl) ?_  -- ret 0 r3
    exact ⟨rfl, ((hx1).trans (hx2))⟩
  ·
    simp at hct10
theorem c_seqN (d m : Int) (h : Heap) : HCalls Try.prog 19 #[nilP, .agg #[iV d, iV m]] h (Grow (iV 0) h) := by
  refine hcalls2 Try.func19 rfl (by decide +kernel) (by simp only [Try.ntmps19]; exact of_decide_eq_true rfl) ?_
  intro e hin
  have e0 := hin 0 _ rfl
  have e1 := hin 1 _ rfl
  refine hx_seq ?_
  refine hx_region ?_
  refine WL.box2 (by simp only [EN, Nat.reduceEqDiff, reduceIte, Value.cells, e1]; rfl) ?_
  intro h1 B1 hx1 hlt1 hB1
  refine WL.qq (by simp only [EN, Nat.reduceEqDiff, reduceIte, qv_assign, hB1.cell]; rfl) ?_
  refine WL.nil ?_
  refine th_norm ?_
  refine hx_seq ?_
  refine hx_seq ?_
  refine hx_region ?_
  refine WL.qq (by simp only [EN, Nat.reduceEqDiff, reduceIte, qv_move, e0, hB1.cell]; rfl) ?_
  refine WL.qq (by simp only [EN, Nat.reduceEqDiff, reduceIte, qv_binOp, binv_eql, eqz27, eqn27, eqm27, Option.map_some, hB1.cell]; rfl) ?_
  refine WL.nil ?_
  refine th_norm ?_
  refine hx_cond (by simp only [EN, Nat.reduceEqDiff, reduceIte, hB1.cell]; rfl) (fun hct8 => ?_) (fun hct8 => ?_)
  ·
    try simp only [BD] at hct8
    refine hx_seq ?_
    refine hx_region ?_
    refine WL.qq (by simp only [EN, Nat.reduceEqDiff, reduceIte, qv_assign, hB1.cell]; rfl) ?_
    refine WL.nil ?_
    refine th_norm ?_
    refine hx_ret ?_
    refine th_ret ?_
    refine fin_ret [.tmp 4] rfl rfl (by simp only [EN, Nat.reduceEqDiff, reduceIte, resv, e0, e1, hB1.cell]; rfl) ?_  -- ret 0 r2
    exact ⟨rfl, (hx1)⟩
  ·
    simp at hct8
theorem c_accN (h : Heap) : HCalls Try.prog 36 #[nilP] h (Grow (.slice none 0 0) h) := by
  refine hcalls2 Try.func36 rfl (by decide +kernel) (by simp only [Try.ntmps36]; exact of_decide_eq_true rfl) ?_
  intro e hin
  have e0 := hin 0 _ rfl
  refine hx_seq ?_
  refine hx_region ?_
  refine WL.qq (by simp only [EN, Nat.reduceEqDiff, reduceIte, qv_assign]; rfl) ?_
  refine WL.nil ?_
  refine th_norm ?_
  refine hx_seq ?_
  refine hx_seq ?_
  refine hx_region ?_
  refine WL.qq (by simp only [EN, Nat.reduceEqDiff, reduceIte, qv_move, e0]; rfl) ?_
  refine WL.qq (by simp only [EN, Nat.reduceEqDiff, reduceIte, qv_binOp, binv_eql, eqz27, eqn27, eqm27, Option.map_some]; rfl) ?_
  refine WL.nil ?_
  refine th_norm ?_
  refine hx_cond (by simp only [EN, Nat.reduceEqDiff, reduceIte]; rfl) (fun hct8 => ?_) (fun hct8 => ?_)
  ·
    try simp only [BD] at hct8
    refine hx_seq ?_
    refine hx_region ?_
    refine WL.qq (by simp only [EN, Nat.reduceEqDiff, reduceIte, qv_assign]; rfl) ?_
    refine WL.nil ?_
    refine th_norm ?_
    refine hx_ret ?_
    refine th_ret ?_
    refine fin_ret [.tmp 2] rfl rfl (by simp only [EN, Nat.reduceEqDiff, reduceIte, resv, e0]; rfl) ?_  -- ret 0 r2
    exact ⟨rfl, (Ext.refl _)⟩
  ·
    simp at hct8
theorem c_turnN (q : AC) (d : Int) (h : Heap) : HCalls Try.prog 21 #[nilP, acV q, iV d] h (Grow (.agg #[iV 0, iV 0]) h) := by
  refine hcalls2 Try.func21 rfl (by decide +kernel) (by simp only [Try.ntmps21]; exact of_decide_eq_true rfl) ?_
  intro e hin
  have e0 := hin 0 _ rfl
  have e1 := hin 1 _ rfl
  have e2 := hin 2 _ rfl
  have hE : Ext h h := Ext.refl h
  refine hx_seq ?_
  refine hx_region ?_
  refine WL.box2 (by simp only [EN, Nat.reduceEqDiff, reduceIte, Value.cells, e1]; rfl) ?_
  intro h1 B1 hx1 hlt1 hB1
  replace hE := hE.trans hx1
  refine WL.alloc2 zr48 ?_
  intro h2 B2 hx2 hlt2 hB2
  have hne1_2 : B2 ≠ B1 := by have := (Array.getElem?_eq_some_iff.1 hB1).1; omega
  have hb0_2 := Nat.le_trans hE.size hlt2
  have hB1_s2 := hB1
  replace hE := hE.trans hx2
  replace hB1 := hB1.ext hx2
  have hEo2 := hx2
  simp only [Value.cells] at hB2
  refine WL.nil ?_
  refine th_norm ?_
  refine hx_seq ?_
  refine hx_region ?_
  refine WL.alloc2 zr48 ?_
  intro h3 B3 hx3 hlt3 hB3
  have hne1_3 : B3 ≠ B1 := by have := (Array.getElem?_eq_some_iff.1 hB1).1; omega
  have hne2_3 : B3 ≠ B2 := by have := (Array.getElem?_eq_some_iff.1 hB2).1; omega
  have hb0_3 := Nat.le_trans hE.size hlt3
  have hbo2_3 := Nat.le_trans hEo2.size hlt3
  have hB1_s3 := hB1
  have hB2_s3 := hB2
  replace hE := hE.trans hx3
  replace hEo2 := hEo2.trans hx3
  replace hB1 := hB1.ext hx3
  replace hB2 := hB2.ext hx3
  have hEo3 := hx3
  simp only [Value.cells] at hB3
  refine WL.nil ?_
  refine th_norm ?_
  refine hx_seq ?_
  refine hx_seq ?_
  refine hx_region ?_
  refine WL.qq (by simp only [EN, Nat.reduceEqDiff, reduceIte, qv_move, e0, hB1.cell, hB2.cell, hB3.cell]; rfl) ?_
  refine WL.qq (by simp only [EN, Nat.reduceEqDiff, reduceIte, qv_binOp, binv_eql, eqz27, eqn27, eqm27, Option.map_some, hB1.cell, hB2.cell, hB3.cell]; rfl) ?_
  refine WL.nil ?_
  refine th_norm ?_
  refine hx_cond (by simp only [EN, Nat.reduceEqDiff, reduceIte, hB1.cell, hB2.cell, hB3.cell]; rfl) (fun hct12 => ?_) (fun hct12 => ?_)
  ·
    try simp only [BD] at hct12
    refine hx_seq ?_
    refine hx_region ?_
    refine WL.qq (by simp only [EN, Nat.reduceEqDiff, reduceIte, qv_load, ld48, readN, AR, Nat.zero_add, Nat.reduceAdd, hB1.cell, hB2.cell, hB3.cell]; rfl) ?_
    refine WL.store (by simp only [EN, Nat.reduceEqDiff, reduceIte, hB1.cell, hB2.cell, hB3.cell] <;> rfl) sz48 (by simp only [EN, Nat.reduceEqDiff, reduceIte, Value.cells, hB1.cell, hB2.cell, hB3.cell] <;> rfl) rfl hB2 (by first | decide | (simp; done) | (simp; omega)) (by simp [Value.oneCell']) ?_
    intro h4 hw4
    replace hE := hw4.ext hE hb0_2
    replace hEo2 := hw4.ext hEo2 hlt2
    replace hB1 := hB1_s2.ext hEo2
    replace hB3 := hB3.wr hw4 hne2_3
    replace hB2 := hw4.at_
    try simp only [splc, List.take_succ_cons, List.take_zero, List.take_nil, List.drop_succ_cons, List.drop_zero, List.drop_nil, List.cons_append, List.nil_append, List.length_cons, List.length_nil, Nat.zero_add, Nat.add_zero, Nat.reduceAdd, List.append_nil] at hB2
    refine WL.nil ?_
    refine th_norm ?_
    refine hx_ret ?_
    refine th_ret ?_
    refine fin_ret [.cell 6 48] rfl rfl (by simp only [EN, Nat.reduceEqDiff, reduceIte, resv, ld48, readN, AR, Nat.zero_add, Nat.reduceAdd, e0, e1, e2, hB1.cell, hB2.cell, hB3.cell]; rfl) ?_  -- ret 0 r3
    exact ⟨rfl, hE⟩
  ·
    simp at hct12
theorem c_cloneN (h : Heap) : HCalls Try.prog 32 #[nilP] h (Grow nilP h) := by
  refine hcalls2 Try.func32 rfl (by decide +kernel) (by simp only [Try.ntmps32]; exact of_decide_eq_true rfl) ?_
  intro e hin
  have e0 := hin 0 _ rfl
  refine hx_seq ?_
  refine hx_region ?_
  refine WL.qq (by simp only [EN, Nat.reduceEqDiff, reduceIte, qv_assign]; rfl) ?_
  refine WL.nil ?_
  refine th_norm ?_
  refine hx_seq ?_
  refine hx_seq ?_
  refine hx_region ?_
  refine WL.qq (by simp only [EN, Nat.reduceEqDiff, reduceIte, qv_move, e0]; rfl) ?_
  refine WL.qq (by simp only [EN, Nat.reduceEqDiff, reduceIte, qv_binOp, binv_eql, eqz27, eqn27, eqm27, Option.map_some]; rfl) ?_
  refine WL.nil ?_
  refine th_norm ?_
  refine hx_cond (by simp only [EN, Nat.reduceEqDiff, reduceIte]; rfl) (fun hct7 => ?_) (fun hct7 => ?_)
  ·
    try simp only [BD] at hct7
    refine hx_seq ?_
    refine hx_region ?_
    refine WL.qq (by simp only [EN, Nat.reduceEqDiff, reduceIte, qv_assign]; rfl) ?_
    refine WL.nil ?_
    refine th_norm ?_
    refine hx_ret ?_
    refine th_ret ?_
    refine fin_ret [.tmp 2] rfl rfl (by simp only [EN, Nat.reduceEqDiff, reduceIte, resv, e0]; rfl) ?_  -- ret 0 r2
    exact ⟨rfl, (Ext.refl _)⟩
  ·
    simp at hct7
theorem c_eqNN (h : Heap) : HCalls Try.prog 33 #[nilP, nilP] h (Grow (.bool true) h) := by
  refine hcalls2 Try.func33 rfl (by decide +kernel) (by simp only [Try.ntmps33]; exact of_decide_eq_true rfl) ?_
  intro e hin
  have e0 := hin 0 _ rfl
  have e1 := hin 1 _ rfl
  refine hx_seq ?_
  refine hx_region ?_
  refine WL.qq (by simp only [EN, Nat.reduceEqDiff, reduceIte, qv_assign]; rfl) ?_
  refine WL.nil ?_
  refine th_norm ?_
  refine hx_seq ?_
  refine hx_seq ?_
  refine hx_region ?_
  refine WL.qq (by simp only [EN, Nat.reduceEqDiff, reduceIte, qv_move, e0]; rfl) ?_
  refine WL.qq (by simp only [EN, Nat.reduceEqDiff, reduceIte, qv_binOp, binv_eql, eqz27, eqn27, eqm27, Option.map_some]; rfl) ?_
  refine WL.qq (by simp only [EN, Nat.reduceEqDiff, reduceIte, qv_move]; rfl) ?_
  refine WL.cq (gd_at (t := 7) rfl (by simp only [EN, Nat.reduceEqDiff, reduceIte, e1] <;> rfl)) (fun hg1_3 => by simp only [EN, Nat.reduceEqDiff, reduceIte, qv_move, e1, hg1_3, GR]; rfl) ?_
  refine WL.cq (gd_at (t := 7) rfl (by simp only [EN, Nat.reduceEqDiff, reduceIte] <;> rfl)) (fun hg1_4 => by simp only [EN, Nat.reduceEqDiff, reduceIte, qv_binOp, binv_eql, eqz27, eqn27, eqm27, Option.map_some, hg1_4, GR]; rfl) ?_
  refine WL.qq (by simp only [EN, Nat.reduceEqDiff, reduceIte, qv_pick, pk_and, pk_or, GR]; rfl) ?_
  refine WL.nil ?_
  refine th_norm ?_
  refine hx_cond (by simp only [EN, Nat.reduceEqDiff, reduceIte]; rfl) (fun hct10 => ?_) (fun hct10 => ?_)
  ·
    try simp only [BD] at hct10
    refine hx_seq ?_
    refine hx_region ?_
    refine WL.qq (by simp only [EN, Nat.reduceEqDiff, reduceIte, qv_move, e0]; rfl) ?_
    refine WL.qq (by simp only [EN, Nat.reduceEqDiff, reduceIte, qv_binOp, binv_eql, eqz27, eqn27, eqm27, Option.map_some]; rfl) ?_
    refine WL.qq (by simp only [EN, Nat.reduceEqDiff, reduceIte, qv_move]; rfl) ?_
    refine WL.cq (gd_at (t := 13) rfl (by simp only [EN, Nat.reduceEqDiff, reduceIte, e1] <;> rfl)) (fun hg2_3 => by simp only [EN, Nat.reduceEqDiff, reduceIte, qv_move, e1, hg2_3, GR]; rfl) ?_
    refine WL.cq (gd_at (t := 13) rfl (by simp only [EN, Nat.reduceEqDiff, reduceIte] <;> rfl)) (fun hg2_4 => by simp only [EN, Nat.reduceEqDiff, reduceIte, qv_binOp, binv_eql, eqz27, eqn27, eqm27, Option.map_some, hg2_4, GR]; rfl) ?_
    refine WL.qq (by simp only [EN, Nat.reduceEqDiff, reduceIte, qv_pick, pk_and, pk_or, GR]; rfl) ?_
    refine WL.qq (by simp only [EN, Nat.reduceEqDiff, reduceIte, qv_assign]; rfl) ?_
    refine WL.nil ?_
    refine th_norm ?_
    refine hx_ret ?_
    refine th_ret ?_
    refine fin_ret [.tmp 4] rfl rfl (by simp only [EN, Nat.reduceEqDiff, reduceIte, resv, e0, e1]; rfl) ?_  -- ret 0 r2
    exact ⟨rfl, (Ext.refl _)⟩
  ·
    simp at hct10
theorem c_eqNP (p : Nat) (h : Heap) : HCalls Try.prog 33 #[nilP, ptr p] h (Grow (.bool false) h) := by
  refine hcalls2 Try.func33 rfl (by decide +kernel) (by simp only [Try.ntmps33]; exact of_decide_eq_true rfl) ?_
  intro e hin
  have e0 := hin 0 _ rfl
  have e1 := hin 1 _ rfl
  refine hx_seq ?_
  refine hx_region ?_
  refine WL.qq (by simp only [EN, Nat.reduceEqDiff, reduceIte, qv_assign]; rfl) ?_
  refine WL.nil ?_
  refine th_norm ?_
  refine hx_seq ?_
  refine hx_seq ?_
  refine hx_region ?_
  refine WL.qq (by simp only [EN, Nat.reduceEqDiff, reduceIte, qv_move, e0]; rfl) ?_
  refine WL.qq (by simp only [EN, Nat.reduceEqDiff, reduceIte, qv_binOp, binv_eql, eqz27, eqn27, eqm27, Option.map_some]; rfl) ?_
  refine WL.qq (by simp only [EN, Nat.reduceEqDiff, reduceIte, qv_move]; rfl) ?_
  refine WL.cq (gd_at (t := 7) rfl (by simp only [EN, Nat.reduceEqDiff, reduceIte, e1] <;> rfl)) (fun hg1_3 => by simp only [EN, Nat.reduceEqDiff, reduceIte, qv_move, e1, hg1_3, GR]; rfl) ?_
  refine WL.cq (gd_at (t := 7) rfl (by simp only [EN, Nat.reduceEqDiff, reduceIte] <;> rfl)) (fun hg1_4 => by simp only [EN, Nat.reduceEqDiff, reduceIte, qv_binOp, binv_eql, eqz27, eqn27, eqm27, Option.map_some, hg1_4, GR]; rfl) ?_
  refine WL.qq (by simp only [EN, Nat.reduceEqDiff, reduceIte, qv_pick, pk_and, pk_or, GR]; rfl) ?_
  refine WL.nil ?_
  refine th_norm ?_
  refine hx_cond (by simp only [EN, Nat.reduceEqDiff, reduceIte]; rfl) (fun hct10 => ?_) (fun hct10 => ?_)
  ·
    try simp only [BD] at hct10
    refine hx_seq ?_
    refine hx_region ?_
    refine WL.qq (by simp only [EN, Nat.reduceEqDiff, reduceIte, qv_move, e0]; rfl) ?_
    refine WL.qq (by simp only [EN, Nat.reduceEqDiff, reduceIte, qv_binOp, binv_eql, eqz27, eqn27, eqm27, Option.map_some]; rfl) ?_
    refine WL.qq (by simp only [EN, Nat.reduceEqDiff, reduceIte, qv_move]; rfl) ?_
    refine WL.cq (gd_at (t := 13) rfl (by simp only [EN, Nat.reduceEqDiff, reduceIte, e1] <;> rfl)) (fun hg2_3 => by simp only [EN, Nat.reduceEqDiff, reduceIte, qv_move, e1, hg2_3, GR]; rfl) ?_
    refine WL.cq (gd_at (t := 13) rfl (by simp only [EN, Nat.reduceEqDiff, reduceIte] <;> rfl)) (fun hg2_4 => by simp only [EN, Nat.reduceEqDiff, reduceIte, qv_binOp, binv_eql, eqz27, eqn27, eqm27, Option.map_some, hg2_4, GR]; rfl) ?_
    refine WL.qq (by simp only [EN, Nat.reduceEqDiff, reduceIte, qv_pick, pk_and, pk_or, GR]; rfl) ?_
    refine WL.qq (by simp only [EN, Nat.reduceEqDiff, reduceIte, qv_assign]; rfl) ?_
    refine WL.nil ?_
    refine th_norm ?_
    refine hx_ret ?_
    refine th_ret ?_
    refine fin_ret [.tmp 4] rfl rfl (by simp only [EN, Nat.reduceEqDiff, reduceIte, resv, e0, e1]; rfl) ?_  -- ret 0 r2
    exact ⟨rfl, (Ext.refl _)⟩
  ·
    simp at hct10
theorem MK.rg {b : Nat} {h7 h8 h31 : Heap} {ms : List Nat} {o : Obj} (hm : MK b h7 ms) (hx : Ext h7 h8) (hs : h8.size = h7.size + 2) (hb : b ≤ h7.size) (hd : h8[h7.size]? = some (.deferred (some []))) (hw : Wr h8 h31 (h7.size + 1) o) : MK b h31 (h7.size :: ms) := by
  have h1 := hm.lt
  refine ((hm.ext hx).keep fun r hr => hw.same r (by have := h1 r hr; omega)).push (fun hh => ?_) hb ((hw.same _ (by omega)).trans hd)
  have := h1 _ hh
  omega
theorem wr_ex {h7 h8 h31 : Heap} {o : Obj} (hx : Ext h7 h8) (hw : Wr h8 h31 (h7.size + 1) o) : Ext h7 h31 := hw.ext hx (by omega)
theorem after_rg {P : Program} {n l : Nat} {r : Option Nat} {Q : Post} {e : Env} {ds : List Deferred} {v : Value} {h3 : Heap} {r3 : Loop} (hr : Rec h3 l r3) (hst : (r3.state == .busy) = false) (hp : r3.pending = none) (hk : ∀ h4 o, Wr h3 h4 l o → Q .normal e ds h4) : after P n r l Q e ds v h3 :=
  after_any hr hst (.inl ⟨hp, hk⟩)
set_option maxHeartbeats 2000000 in
theorem l_nil (q : AC) (n : Int) (h : Heap) : HCalls Try.prog 11 #[acV q, iV n] h (Grow (.bool true) h) := by
  refine hcalls2 Try.func11 rfl (by decide +kernel) (by simp only [Try.ntmps11]; exact of_decide_eq_true rfl) ?_
  intro e hin
  have e0 := hin 0 _ rfl
  have e1 := hin 1 _ rfl
  refine hx_seq ?_
  refine hx_region ?_
  refine WL.box2 (by simp only [EN, Nat.reduceEqDiff, reduceIte, Value.cells, e0, decide_true, Bool.not_true, Bool.not_false, decide_false, eq_self]; rfl) ?_
  intro h1 B1 hx1 hlt1 hB1
  refine WL.alloc2 zr4 ?_
  intro h2 B2 hx2 hlt2 hB2
  replace hB1 := hB1.ext hx2
  simp only [Value.cells] at hB2
  refine WL.nil ?_
  refine th_norm ?_
  refine hx_seq ?_
  refine hx_seq ?_
  refine hx_region ?_
  refine WL.cg Try.call13 (by simp only [EN, Nat.reduceEqDiff, reduceIte, AR, decide_true, Bool.not_true, Bool.not_false, decide_false, eq_self, hB1.cell, hB2.cell]; exact c_known14 _) ?_
  intro h3 hx3
  replace hB1 := hB1.ext hx3
  replace hB2 := hB2.ext hx3
  have hmk : MK h.size h3 [] := MK.nil
  refine WL.qq (by simp only [EN, Nat.reduceEqDiff, reduceIte, qv_unOp, unv_not, decide_true, Bool.not_true, Bool.not_false, decide_false, eq_self, hB1.cell, hB2.cell]; rfl) ?_
  refine WL.nil ?_
  refine th_norm ?_
  refine hx_cond (by simp only [EN, Nat.reduceEqDiff, reduceIte, decide_true, Bool.not_true, Bool.not_false, decide_false, eq_self, hB1.cell, hB2.cell]; rfl) (fun hct12 => ?_) (fun hct12 => ?_)
  ·
    simp at hct12
  ·
    try simp only [BD] at hct12
    refine hx_skip ?_
    refine th_norm ?_
    refine hx_seq ?_
    refine hx_region ?_
    refine WL.qq (by simp only [EN, Nat.reduceEqDiff, reduceIte, qv_assign, decide_true, Bool.not_true, Bool.not_false, decide_false, eq_self, hB1.cell, hB2.cell]; rfl) ?_
    refine WL.nil ?_
    refine th_norm ?_
    refine hx_seq ?_
    refine hx_region ?_
    refine WL.qq (by simp only [EN, Nat.reduceEqDiff, reduceIte, qv_move, decide_true, Bool.not_true, Bool.not_false, decide_false, eq_self, hB1.cell, hB2.cell]; rfl) ?_
    refine WL.qq (by simp only [EN, Nat.reduceEqDiff, reduceIte, qv_load, ld24, readN, AR, Nat.zero_add, Nat.reduceAdd, decide_true, Bool.not_true, Bool.not_false, decide_false, eq_self, hB1.cell, hB2.cell]; rfl) ?_
    refine WL.cg Try.call17 (by simp only [EN, Nat.reduceEqDiff, reduceIte, AR, decide_true, Bool.not_true, Bool.not_false, decide_false, eq_self, hB1.cell, hB2.cell]; exact c_account _ _) ?_
    intro h4 hx4
    replace hB1 := hB1.ext hx4
    replace hB2 := hB2.ext hx4
    replace hmk := hmk.ext hx4
    refine WL.qq (by simp only [EN, Nat.reduceEqDiff, reduceIte, qv_move, e1, decide_true, Bool.not_true, Bool.not_false, decide_false, eq_self, hB1.cell, hB2.cell]; rfl) ?_
    refine WL.cg Try.call16 (by simp only [EN, Nat.reduceEqDiff, reduceIte, AR, decide_true, Bool.not_true, Bool.not_false, decide_false, eq_self, hB1.cell, hB2.cell]; exact c_balN q n _) ?_
    intro h5 hx5
    replace hB1 := hB1.ext hx5
    replace hB2 := hB2.ext hx5
    replace hmk := hmk.ext hx5
    refine WL.qq (by simp only [EN, Nat.reduceEqDiff, reduceIte, qv_move, decide_true, Bool.not_true, Bool.not_false, decide_false, eq_self, hB1.cell, hB2.cell]; rfl) ?_
    refine WL.qq (by simp only [EN, Nat.reduceEqDiff, reduceIte, qv_extract, AR, decide_true, Bool.not_true, Bool.not_false, decide_false, eq_self, hB1.cell, hB2.cell]; rfl) ?_
    refine WL.qq (by simp only [EN, Nat.reduceEqDiff, reduceIte, qv_extract, AR, decide_true, Bool.not_true, Bool.not_false, decide_false, eq_self, hB1.cell, hB2.cell]; rfl) ?_
    refine WL.qq (by simp only [EN, Nat.reduceEqDiff, reduceIte, qv_assign, decide_true, Bool.not_true, Bool.not_false, decide_false, eq_self, hB1.cell, hB2.cell]; rfl) ?_
    refine WL.qq (by simp only [EN, Nat.reduceEqDiff, reduceIte, qv_assign, decide_true, Bool.not_true, Bool.not_false, decide_false, eq_self, hB1.cell, hB2.cell]; rfl) ?_
    refine WL.nil ?_
    refine th_norm ?_
    refine hx_seq ?_
    refine hx_region ?_
    refine WL.qq (by simp only [EN, Nat.reduceEqDiff, reduceIte, qv_move, decide_true, Bool.not_true, Bool.not_false, decide_false, eq_self, hB1.cell, hB2.cell]; rfl) ?_
    refine WL.qq (by simp only [EN, Nat.reduceEqDiff, reduceIte, qv_move, e1, decide_true, Bool.not_true, Bool.not_false, decide_false, eq_self, hB1.cell, hB2.cell]; rfl) ?_
    refine WL.cg Try.call24 (by simp only [EN, Nat.reduceEqDiff, reduceIte, AR, decide_true, Bool.not_true, Bool.not_false, decide_false, eq_self, hB1.cell, hB2.cell]; exact c_atN n _) ?_
    intro h6 hx6
    replace hB1 := hB1.ext hx6
    replace hB2 := hB2.ext hx6
    replace hmk := hmk.ext hx6
    refine WL.qq (by simp only [EN, Nat.reduceEqDiff, reduceIte, qv_move, decide_true, Bool.not_true, Bool.not_false, decide_false, eq_self, hB1.cell, hB2.cell]; rfl) ?_
    refine WL.qq (by simp only [EN, Nat.reduceEqDiff, reduceIte, qv_extract, AR, decide_true, Bool.not_true, Bool.not_false, decide_false, eq_self, hB1.cell, hB2.cell]; rfl) ?_
    refine WL.qq (by simp only [EN, Nat.reduceEqDiff, reduceIte, qv_extract, AR, decide_true, Bool.not_true, Bool.not_false, decide_false, eq_self, hB1.cell, hB2.cell]; rfl) ?_
    refine WL.allocSt zr55 sz55 (fun u => by simp only [EN, Nat.reduceEqDiff, reduceIte, Value.cells, decide_true, Bool.not_true, Bool.not_false, decide_false, eq_self, hB1.cell, hB2.cell]; rfl) ⟨rfl, rfl⟩ (by simp [Value.oneCell']) ?_
    intro h7 B7 hx7 hlt7 hB7
    replace hB1 := hB1.ext hx7
    replace hB2 := hB2.ext hx7
    replace hmk := hmk.ext hx7
    refine WL.qq (by simp only [EN, Nat.reduceEqDiff, reduceIte, qv_assign, decide_true, Bool.not_true, Bool.not_false, decide_false, eq_self, hB1.cell, hB2.cell, hB7.cell]; rfl) ?_
    refine WL.nil ?_
    refine th_norm ?_
    refine hx_seq ?_
    refine hx_seq ?_
    refine hx_region ?_
    refine WL.qq (by simp only [EN, Nat.reduceEqDiff, reduceIte, qv_move, decide_true, Bool.not_true, Bool.not_false, decide_false, eq_self, hB1.cell, hB2.cell, hB7.cell]; rfl) ?_
    refine WL.qq (by simp only [EN, Nat.reduceEqDiff, reduceIte, qv_load, ld24, readN, AR, Nat.zero_add, Nat.reduceAdd, decide_true, Bool.not_true, Bool.not_false, decide_false, eq_self, hB1.cell, hB2.cell, hB7.cell]; rfl) ?_
    refine WL.cg Try.call17 (by simp only [EN, Nat.reduceEqDiff, reduceIte, AR, decide_true, Bool.not_true, Bool.not_false, decide_false, eq_self, hB1.cell, hB2.cell, hB7.cell]; exact c_account _ _) ?_
    intro h8 hx8
    replace hB1 := hB1.ext hx8
    replace hB2 := hB2.ext hx8
    replace hmk := hmk.ext hx8
    replace hB7 := hB7.ext hx8
    refine WL.ce Try.call27 (by simp only [EN, Nat.reduceEqDiff, reduceIte, AR, decide_true, Bool.not_true, Bool.not_false, decide_false, eq_self, hB1.cell, hB2.cell, hB7.cell]; exact c_byAcc none q _) ?_
    rintro _ h9 ⟨hx9, C1, C2, C3, rfl, hC1, hC2, hC3⟩
    replace hB1 := hB1.ext hx9
    replace hB2 := hB2.ext hx9
    replace hmk := hmk.ext hx9
    replace hB7 := hB7.ext hx9
    simp only [put_some]
    refine WL.nil ?_
    refine th_norm ?_
    refine hx_block ?_
    refine hx_range (by simp only [EN, Nat.reduceEqDiff, reduceIte, e0, e1, decide_true, Bool.not_true, Bool.not_false, decide_false, eq_self, hB1.cell, hB2.cell, hB7.cell]; rfl) Try.call69 ?_
    intro fnR0 hR0 hxR0 hsR0 hdR0 hrR0
    refine (c_whereNil C1 C2 _ (hC1.ext hxR0)).mono ?_
    rintro v9 _ rfl
    refine after_rg hrR0 rfl rfl ?_
    intro h31 o31 hw31
    have hX31 := wr_ex hxR0 hw31
    have hmk1 := hmk.rg hxR0 hsR0 (Ext.size ((hx1).trans ((hx2).trans ((hx3).trans ((hx4).trans ((hx5).trans ((hx6).trans ((hx7).trans ((hx8).trans (hx9)))))))))) hdR0 hw31
    replace hB1 := hB1.ext hX31
    replace hB2 := hB2.ext hX31
    replace hmk := hmk.ext hX31
    replace hB7 := hB7.ext hX31
    replace hC1 := hC1.ext hX31
    refine bl_norm ?_
    refine th_norm ?_
    refine hx_seq ?_
    refine hx_seq ?_
    refine hx_region ?_
    refine WL.qq (by simp only [EN, Nat.reduceEqDiff, reduceIte, qv_move, decide_true, Bool.not_true, Bool.not_false, decide_false, eq_self, hB1.cell, hB2.cell, hB7.cell]; rfl) ?_
    refine WL.qq (by simp only [EN, Nat.reduceEqDiff, reduceIte, qv_move, e1, decide_true, Bool.not_true, Bool.not_false, decide_false, eq_self, hB1.cell, hB2.cell, hB7.cell]; rfl) ?_
    refine WL.ce Try.call29 (by simp only [EN, Nat.reduceEqDiff, reduceIte, AR, decide_true, Bool.not_true, Bool.not_false, decide_false, eq_self, hB1.cell, hB2.cell, hB7.cell]; exact c_byDay none n _) ?_
    rintro _ h10 ⟨hx10, C4, C5, C6, rfl, hC4, hC5, hC6⟩
    replace hB1 := hB1.ext hx10
    replace hB2 := hB2.ext hx10
    replace hB7 := hB7.ext hx10
    replace hC1 := hC1.ext hx10
    replace hmk1 := hmk1.ext hx10
    simp only [put_some]
    refine WL.nil ?_
    refine th_norm ?_
    refine hx_block ?_
    refine hx_range (by simp only [EN, Nat.reduceEqDiff, reduceIte, e0, e1, decide_true, Bool.not_true, Bool.not_false, decide_false, eq_self, hB1.cell, hB2.cell, hB7.cell]; rfl) Try.call69 ?_
    intro fnR1 hR1 hxR1 hsR1 hdR1 hrR1
    refine (c_whereNil C4 C5 _ (hC4.ext hxR1)).mono ?_
    rintro v9 _ rfl
    refine after_rg hrR1 rfl rfl ?_
    intro h32 o32 hw32
    have hX32 := wr_ex hxR1 hw32
    have hmk2 := hmk1.rg hxR1 hsR1 (Ext.size ((hx1).trans ((hx2).trans ((hx3).trans ((hx4).trans ((hx5).trans ((hx6).trans ((hx7).trans ((hx8).trans ((hx9).trans ((hX31).trans (hx10)))))))))))) hdR1 hw32
    replace hB1 := hB1.ext hX32
    replace hB2 := hB2.ext hX32
    replace hB7 := hB7.ext hX32
    replace hC1 := hC1.ext hX32
    replace hmk1 := hmk1.ext hX32
    replace hC4 := hC4.ext hX32
    refine bl_norm ?_
    refine th_norm ?_
    refine hx_seq ?_
    refine hx_seq ?_
    refine hx_region ?_
    refine WL.qq (by simp only [EN, Nat.reduceEqDiff, reduceIte, qv_move, decide_true, Bool.not_true, Bool.not_false, decide_false, eq_self, hB1.cell, hB2.cell, hB7.cell]; rfl) ?_
    refine WL.qq (by simp only [EN, Nat.reduceEqDiff, reduceIte, qv_fieldAddr, fa24_0, Nat.zero_add, Nat.reduceAdd, decide_true, Bool.not_true, Bool.not_false, decide_false, eq_self, hB1.cell, hB2.cell, hB7.cell]; rfl) ?_
    refine WL.qq (by simp only [EN, Nat.reduceEqDiff, reduceIte, qv_load, ld9, readN, AR, Nat.zero_add, Nat.reduceAdd, decide_true, Bool.not_true, Bool.not_false, decide_false, eq_self, hB1.cell, hB2.cell, hB7.cell]; rfl) ?_
    refine WL.ce Try.call30 (by simp only [EN, Nat.reduceEqDiff, reduceIte, AR, decide_true, Bool.not_true, Bool.not_false, decide_false, eq_self, hB1.cell, hB2.cell, hB7.cell]; exact c_byRef none q.o _) ?_
    rintro _ h11 ⟨hx11, C7, C8, C9, rfl, hC7, hC8, hC9⟩
    replace hB1 := hB1.ext hx11
    replace hB2 := hB2.ext hx11
    replace hB7 := hB7.ext hx11
    replace hC1 := hC1.ext hx11
    replace hC4 := hC4.ext hx11
    replace hmk2 := hmk2.ext hx11
    simp only [put_some]
    refine WL.nil ?_
    refine th_norm ?_
    refine hx_block ?_
    refine hx_range (by simp only [EN, Nat.reduceEqDiff, reduceIte, e0, e1, decide_true, Bool.not_true, Bool.not_false, decide_false, eq_self, hB1.cell, hB2.cell, hB7.cell]; rfl) Try.call69 ?_
    intro fnR2 hR2 hxR2 hsR2 hdR2 hrR2
    refine (c_whereNil C7 C8 _ (hC7.ext hxR2)).mono ?_
    rintro v9 _ rfl
    refine after_rg hrR2 rfl rfl ?_
    intro h33 o33 hw33
    have hX33 := wr_ex hxR2 hw33
    have hmk3 := hmk2.rg hxR2 hsR2 (Ext.size ((hx1).trans ((hx2).trans ((hx3).trans ((hx4).trans ((hx5).trans ((hx6).trans ((hx7).trans ((hx8).trans ((hx9).trans ((hX31).trans ((hx10).trans ((hX32).trans (hx11)))))))))))))) hdR2 hw33
    replace hB1 := hB1.ext hX33
    replace hB2 := hB2.ext hX33
    replace hB7 := hB7.ext hX33
    replace hC1 := hC1.ext hX33
    replace hC4 := hC4.ext hX33
    replace hmk2 := hmk2.ext hX33
    replace hC7 := hC7.ext hX33
    refine bl_norm ?_
    refine th_norm ?_
    refine hx_seq ?_
    refine hx_region ?_
    refine WL.ce Try.call39 (by simp only [EN, Nat.reduceEqDiff, reduceIte, AR, decide_true, Bool.not_true, Bool.not_false, decide_false, eq_self, hB1.cell, hB2.cell, hB7.cell]; exact c_newH _) ?_
    rintro _ h12 ⟨hx12, p, rfl, hI0⟩
    replace hB1 := hB1.ext hx12
    replace hB2 := hB2.ext hx12
    replace hB7 := hB7.ext hx12
    replace hmk3 := hmk3.ext hx12
    simp only [put_some]
    refine WL.qq (by simp only [EN, Nat.reduceEqDiff, reduceIte, qv_assign, decide_true, Bool.not_true, Bool.not_false, decide_false, eq_self, hB1.cell, hB2.cell, hB7.cell]; rfl) ?_
    refine WL.nil ?_
    refine th_norm ?_
    refine hx_seq ?_
    refine hx_region ?_
    refine WL.qq (by simp only [EN, Nat.reduceEqDiff, reduceIte, qv_move, decide_true, Bool.not_true, Bool.not_false, decide_false, eq_self, hB1.cell, hB2.cell, hB7.cell]; rfl) ?_
    refine WL.qq (by refine qv_bld (by simp only [EN, Nat.reduceEqDiff, reduceIte, AR, decide_true, Bool.not_true, Bool.not_false, decide_false, eq_self, hB1.cell, hB2.cell, hB7.cell] <;> rfl) (by rw [bl55]; simp [Instr.fill, Value.cells]; rfl)) ?_
    refine WL.cg Try.call35 (by simp only [EN, Nat.reduceEqDiff, reduceIte, AR, decide_true, Bool.not_true, Bool.not_false, decide_false, eq_self, hB1.cell, hB2.cell, hB7.cell]; exact c_appN ⟨1, 0, 0, none, [], 0⟩ _) ?_
    intro h13 hx13
    replace hB1 := hB1.ext hx13
    replace hB2 := hB2.ext hx13
    replace hB7 := hB7.ext hx13
    replace hmk3 := hmk3.ext hx13
    refine WL.qq (by simp only [EN, Nat.reduceEqDiff, reduceIte, qv_binOp, binv_eql, eq32, Option.map_some, decide_true, Bool.not_true, Bool.not_false, decide_false, eq_self, hB1.cell, hB2.cell, hB7.cell]; rfl) ?_
    refine WL.qq (by simp only [EN, Nat.reduceEqDiff, reduceIte, qv_move, decide_true, Bool.not_true, Bool.not_false, decide_false, eq_self, hB1.cell, hB2.cell, hB7.cell]; rfl) ?_
    refine WL.cq (gd_at (t := 46) rfl (by simp only [EN, Nat.reduceEqDiff, reduceIte, decide_true, Bool.not_true, Bool.not_false, decide_false, eq_self, hB1.cell, hB2.cell, hB7.cell] <;> rfl)) (fun hg13_5 => by simp only [EN, Nat.reduceEqDiff, reduceIte, qv_move, decide_true, Bool.not_true, Bool.not_false, decide_false, eq_self, hB1.cell, hB2.cell, hB7.cell, hg13_5, GR]; rfl) ?_
    refine WL.cq (gd_at (t := 46) rfl (by simp only [EN, Nat.reduceEqDiff, reduceIte, decide_true, Bool.not_true, Bool.not_false, decide_false, eq_self, hB1.cell, hB2.cell, hB7.cell] <;> rfl)) (fun hg13_6 => by simp only [EN, Nat.reduceEqDiff, reduceIte, qv_binOp, binv_eql, eq2, Option.map_some, decide_true, Bool.not_true, Bool.not_false, decide_false, eq_self, hB1.cell, hB2.cell, hB7.cell, hg13_6, GR]; rfl) ?_
    refine WL.qq (by simp only [EN, Nat.reduceEqDiff, reduceIte, qv_pick, pk_and, pk_or, GR, decide_true, Bool.not_true, Bool.not_false, decide_false, eq_self, hB1.cell, hB2.cell, hB7.cell]; rfl) ?_
    refine WL.qq (by simp only [EN, Nat.reduceEqDiff, reduceIte, qv_move, decide_true, Bool.not_true, Bool.not_false, decide_false, eq_self, hB1.cell, hB2.cell, hB7.cell]; rfl) ?_
    refine WL.cq (gd_at (t := 50) rfl (by simp only [EN, Nat.reduceEqDiff, reduceIte, decide_true, Bool.not_true, Bool.not_false, decide_false, eq_self, hB1.cell, hB2.cell, hB7.cell] <;> rfl)) (fun hg13_9 => by simp only [EN, Nat.reduceEqDiff, reduceIte, qv_move, decide_true, Bool.not_true, Bool.not_false, decide_false, eq_self, hB1.cell, hB2.cell, hB7.cell, hg13_9, GR]; rfl) ?_
    refine WL.cq (gd_at (t := 50) rfl (by simp only [EN, Nat.reduceEqDiff, reduceIte, decide_true, Bool.not_true, Bool.not_false, decide_false, eq_self, hB1.cell, hB2.cell, hB7.cell] <;> rfl)) (fun hg13_10 => by simp only [EN, Nat.reduceEqDiff, reduceIte, qv_binOp, binv_eql, eq32, Option.map_some, decide_true, Bool.not_true, Bool.not_false, decide_false, eq_self, hB1.cell, hB2.cell, hB7.cell, hg13_10, GR]; rfl) ?_
    refine WL.qq (by simp only [EN, Nat.reduceEqDiff, reduceIte, qv_pick, pk_and, pk_or, GR, decide_true, Bool.not_true, Bool.not_false, decide_false, eq_self, hB1.cell, hB2.cell, hB7.cell]; rfl) ?_
    refine WL.qq (by simp only [EN, Nat.reduceEqDiff, reduceIte, qv_move, decide_true, Bool.not_true, Bool.not_false, decide_false, eq_self, hB1.cell, hB2.cell, hB7.cell]; rfl) ?_
    refine WL.cq (gd_at (t := 54) rfl (by simp only [EN, Nat.reduceEqDiff, reduceIte, decide_true, Bool.not_true, Bool.not_false, decide_false, eq_self, hB1.cell, hB2.cell, hB7.cell] <;> rfl)) (fun hg13_13 => by simp only [EN, Nat.reduceEqDiff, reduceIte, qv_move, decide_true, Bool.not_true, Bool.not_false, decide_false, eq_self, hB1.cell, hB2.cell, hB7.cell, hg13_13, GR]; rfl) ?_
    refine WL.cq (gd_at (t := 54) rfl (by simp only [EN, Nat.reduceEqDiff, reduceIte, decide_true, Bool.not_true, Bool.not_false, decide_false, eq_self, hB1.cell, hB2.cell, hB7.cell] <;> rfl)) (fun hg13_14 => by simp only [EN, Nat.reduceEqDiff, reduceIte, qv_unOp, unv_not, decide_true, Bool.not_true, Bool.not_false, decide_false, eq_self, hB1.cell, hB2.cell, hB7.cell, hg13_14, GR]; rfl) ?_
    refine WL.qq (by simp only [EN, Nat.reduceEqDiff, reduceIte, qv_pick, pk_and, pk_or, GR, decide_true, Bool.not_true, Bool.not_false, decide_false, eq_self, hB1.cell, hB2.cell, hB7.cell]; rfl) ?_
    refine WL.qq (by simp only [EN, Nat.reduceEqDiff, reduceIte, qv_move, decide_true, Bool.not_true, Bool.not_false, decide_false, eq_self, hB1.cell, hB2.cell, hB7.cell]; rfl) ?_
    refine WL.cq (gd_at (t := 58) rfl (by simp only [EN, Nat.reduceEqDiff, reduceIte, decide_true, Bool.not_true, Bool.not_false, decide_false, eq_self, hB1.cell, hB2.cell, hB7.cell] <;> rfl)) (fun hg13_17 => by simp only [EN, Nat.reduceEqDiff, reduceIte, qv_fieldAddr, fa55_2, Nat.zero_add, Nat.reduceAdd, decide_true, Bool.not_true, Bool.not_false, decide_false, eq_self, hB1.cell, hB2.cell, hB7.cell, hg13_17, GR]; rfl) ?_
    refine WL.cq (gd_at (t := 58) rfl (by simp only [EN, Nat.reduceEqDiff, reduceIte, decide_true, Bool.not_true, Bool.not_false, decide_false, eq_self, hB1.cell, hB2.cell, hB7.cell] <;> rfl)) (fun hg13_18 => by simp only [EN, Nat.reduceEqDiff, reduceIte, qv_load, ld53, readN, AR, Nat.zero_add, Nat.reduceAdd, decide_true, Bool.not_true, Bool.not_false, decide_false, eq_self, hB1.cell, hB2.cell, hB7.cell, hg13_18, GR]; rfl) ?_
    refine WL.cq (gd_at (t := 58) rfl (by simp only [EN, Nat.reduceEqDiff, reduceIte, decide_true, Bool.not_true, Bool.not_false, decide_false, eq_self, hB1.cell, hB2.cell, hB7.cell] <;> rfl)) (fun hg13_19 => by simp only [EN, Nat.reduceEqDiff, reduceIte, qv_len, ln53, AR, decide_true, Bool.not_true, Bool.not_false, decide_false, eq_self, hB1.cell, hB2.cell, hB7.cell, hg13_19, GR]; rfl) ?_
    refine WL.cq (gd_at (t := 58) rfl (by simp only [EN, Nat.reduceEqDiff, reduceIte, decide_true, Bool.not_true, Bool.not_false, decide_false, eq_self, hB1.cell, hB2.cell, hB7.cell] <;> rfl)) (fun hg13_20 => by simp only [EN, Nat.reduceEqDiff, reduceIte, qv_binOp, binv_eql, eq3, Option.map_some, decide_true, Bool.not_true, Bool.not_false, decide_false, eq_self, hB1.cell, hB2.cell, hB7.cell, hg13_20, GR]; rfl) ?_
    refine WL.qq (by simp only [EN, Nat.reduceEqDiff, reduceIte, qv_pick, pk_and, pk_or, GR, decide_true, Bool.not_true, Bool.not_false, decide_false, eq_self, hB1.cell, hB2.cell, hB7.cell]; rfl) ?_
    refine WL.qq (by simp only [EN, Nat.reduceEqDiff, reduceIte, qv_move, decide_true, Bool.not_true, Bool.not_false, decide_false, eq_self, hB1.cell, hB2.cell, hB7.cell]; rfl) ?_
    refine WL.cq (gd_at (t := 64) rfl (by simp only [EN, Nat.reduceEqDiff, reduceIte, decide_true, Bool.not_true, Bool.not_false, decide_false, eq_self, hB1.cell, hB2.cell, hB7.cell] <;> rfl)) (fun hg13_23 => by simp only [EN, Nat.reduceEqDiff, reduceIte, qv_move, decide_true, Bool.not_true, Bool.not_false, decide_false, eq_self, hB1.cell, hB2.cell, hB7.cell, hg13_23, GR]; rfl) ?_
    refine WL.cck (gd_at (t := 64) rfl (by simp only [EN, Nat.reduceEqDiff, reduceIte, decide_true, Bool.not_true, Bool.not_false, decide_false, eq_self, hB1.cell, hB2.cell, hB7.cell] <;> rfl)) Try.call23 (fun hg13_24 => by simp only [EN, Nat.reduceEqDiff, reduceIte, AR, decide_true, Bool.not_true, Bool.not_false, decide_false, eq_self, hB1.cell, hB2.cell, hB7.cell, hg13_24, GR]; exact c_lenN _) ?_
    refine WL.cq (gd_at (t := 64) rfl (by simp only [EN, Nat.reduceEqDiff, reduceIte, decide_true, Bool.not_true, Bool.not_false, decide_false, eq_self, hB1.cell, hB2.cell, hB7.cell] <;> rfl)) (fun hg13_25 => by simp only [EN, Nat.reduceEqDiff, reduceIte, qv_binOp, binv_eql, eq3, Option.map_some, decide_true, Bool.not_true, Bool.not_false, decide_false, eq_self, hB1.cell, hB2.cell, hB7.cell, hg13_25, GR]; rfl) ?_
    refine WL.qq (by simp only [EN, Nat.reduceEqDiff, reduceIte, qv_pick, pk_and, pk_or, GR, decide_true, Bool.not_true, Bool.not_false, decide_false, eq_self, hB1.cell, hB2.cell, hB7.cell]; rfl) ?_
    refine WL.qq (by simp only [EN, Nat.reduceEqDiff, reduceIte, qv_move, decide_true, Bool.not_true, Bool.not_false, decide_false, eq_self, hB1.cell, hB2.cell, hB7.cell]; rfl) ?_
    refine WL.cq (gd_at (t := 69) rfl (by simp only [EN, Nat.reduceEqDiff, reduceIte, decide_true, Bool.not_true, Bool.not_false, decide_false, eq_self, hB1.cell, hB2.cell, hB7.cell] <;> rfl)) (fun hg13_28 => by simp only [EN, Nat.reduceEqDiff, reduceIte, qv_move, decide_true, Bool.not_true, Bool.not_false, decide_false, eq_self, hB1.cell, hB2.cell, hB7.cell, hg13_28, GR]; rfl) ?_
    refine WL.cq (gd_at (t := 69) rfl (by simp only [EN, Nat.reduceEqDiff, reduceIte, e1, decide_true, Bool.not_true, Bool.not_false, decide_false, eq_self, hB1.cell, hB2.cell, hB7.cell] <;> rfl)) (fun hg13_29 => by simp only [EN, Nat.reduceEqDiff, reduceIte, qv_move, e1, decide_true, Bool.not_true, Bool.not_false, decide_false, eq_self, hB1.cell, hB2.cell, hB7.cell, hg13_29, GR]; rfl) ?_
    refine WL.cq (gd_at (t := 69) rfl (by simp only [EN, Nat.reduceEqDiff, reduceIte, decide_true, Bool.not_true, Bool.not_false, decide_false, eq_self, hB1.cell, hB2.cell, hB7.cell] <;> rfl)) (fun hg13_30 => by refine qv_bld (by simp only [EN, Nat.reduceEqDiff, reduceIte, AR, decide_true, Bool.not_true, Bool.not_false, decide_false, eq_self, hB1.cell, hB2.cell, hB7.cell, hg13_30, GR] <;> rfl) (by rw [bl41]; simp [Instr.fill, Value.cells]; rfl)) ?_
    refine WL.ccg (gd_at (t := 69) rfl (by simp only [EN, Nat.reduceEqDiff, reduceIte, decide_true, Bool.not_true, Bool.not_false, decide_false, eq_self, hB1.cell, hB2.cell, hB7.cell] <;> rfl)) Try.call19 (fun hg13_31 => by simp only [EN, Nat.reduceEqDiff, reduceIte, AR, decide_true, Bool.not_true, Bool.not_false, decide_false, eq_self, hB1.cell, hB2.cell, hB7.cell, hg13_31, GR]; exact c_seqN n 0 _) ?_
    intro h14 hx14
    replace hB1 := hB1.ext hx14
    replace hB2 := hB2.ext hx14
    replace hB7 := hB7.ext hx14
    replace hmk3 := hmk3.ext hx14
    refine WL.cq (gd_at (t := 69) rfl (by simp only [EN, Nat.reduceEqDiff, reduceIte, decide_true, Bool.not_true, Bool.not_false, decide_false, eq_self, hB1.cell, hB2.cell, hB7.cell] <;> rfl)) (fun hg13_32 => by simp only [EN, Nat.reduceEqDiff, reduceIte, qv_binOp, binv_eql, eq3, Option.map_some, decide_true, Bool.not_true, Bool.not_false, decide_false, eq_self, hB1.cell, hB2.cell, hB7.cell, hg13_32, GR]; rfl) ?_
    refine WL.qq (by simp only [EN, Nat.reduceEqDiff, reduceIte, qv_pick, pk_and, pk_or, GR, decide_true, Bool.not_true, Bool.not_false, decide_false, eq_self, hB1.cell, hB2.cell, hB7.cell]; rfl) ?_
    refine WL.qq (by simp only [EN, Nat.reduceEqDiff, reduceIte, qv_move, decide_true, Bool.not_true, Bool.not_false, decide_false, eq_self, hB1.cell, hB2.cell, hB7.cell]; rfl) ?_
    refine WL.cq (gd_at (t := 76) rfl (by simp only [EN, Nat.reduceEqDiff, reduceIte, decide_true, Bool.not_true, Bool.not_false, decide_false, eq_self, hB1.cell, hB2.cell, hB7.cell] <;> rfl)) (fun hg13_35 => by simp only [EN, Nat.reduceEqDiff, reduceIte, qv_move, decide_true, Bool.not_true, Bool.not_false, decide_false, eq_self, hB1.cell, hB2.cell, hB7.cell, hg13_35, GR]; rfl) ?_
    refine WL.ccg (gd_at (t := 76) rfl (by simp only [EN, Nat.reduceEqDiff, reduceIte, decide_true, Bool.not_true, Bool.not_false, decide_false, eq_self, hB1.cell, hB2.cell, hB7.cell] <;> rfl)) Try.call36 (fun hg13_36 => by simp only [EN, Nat.reduceEqDiff, reduceIte, AR, decide_true, Bool.not_true, Bool.not_false, decide_false, eq_self, hB1.cell, hB2.cell, hB7.cell, hg13_36, GR]; exact c_accN _) ?_
    intro h15 hx15
    replace hB1 := hB1.ext hx15
    replace hB2 := hB2.ext hx15
    replace hB7 := hB7.ext hx15
    replace hmk3 := hmk3.ext hx15
    refine WL.cq (gd_at (t := 76) rfl (by simp only [EN, Nat.reduceEqDiff, reduceIte, decide_true, Bool.not_true, Bool.not_false, decide_false, eq_self, hB1.cell, hB2.cell, hB7.cell] <;> rfl)) (fun hg13_37 => by simp only [EN, Nat.reduceEqDiff, reduceIte, qv_len, ln83, AR, decide_true, Bool.not_true, Bool.not_false, decide_false, eq_self, hB1.cell, hB2.cell, hB7.cell, hg13_37, GR]; rfl) ?_
    refine WL.cq (gd_at (t := 76) rfl (by simp only [EN, Nat.reduceEqDiff, reduceIte, decide_true, Bool.not_true, Bool.not_false, decide_false, eq_self, hB1.cell, hB2.cell, hB7.cell] <;> rfl)) (fun hg13_38 => by simp only [EN, Nat.reduceEqDiff, reduceIte, qv_binOp, binv_eql, eq3, Option.map_some, decide_true, Bool.not_true, Bool.not_false, decide_false, eq_self, hB1.cell, hB2.cell, hB7.cell, hg13_38, GR]; rfl) ?_
    refine WL.qq (by simp only [EN, Nat.reduceEqDiff, reduceIte, qv_pick, pk_and, pk_or, GR, decide_true, Bool.not_true, Bool.not_false, decide_false, eq_self, hB1.cell, hB2.cell, hB7.cell]; rfl) ?_
    refine WL.qq (by simp only [EN, Nat.reduceEqDiff, reduceIte, qv_move, decide_true, Bool.not_true, Bool.not_false, decide_false, eq_self, hB1.cell, hB2.cell, hB7.cell]; rfl) ?_
    refine WL.cq (gd_at (t := 82) rfl (by simp only [EN, Nat.reduceEqDiff, reduceIte, decide_true, Bool.not_true, Bool.not_false, decide_false, eq_self, hB1.cell, hB2.cell, hB7.cell] <;> rfl)) (fun hg13_41 => by simp only [EN, Nat.reduceEqDiff, reduceIte, qv_move, decide_true, Bool.not_true, Bool.not_false, decide_false, eq_self, hB1.cell, hB2.cell, hB7.cell, hg13_41, GR]; rfl) ?_
    refine WL.cq (gd_at (t := 82) rfl (by simp only [EN, Nat.reduceEqDiff, reduceIte, decide_true, Bool.not_true, Bool.not_false, decide_false, eq_self, hB1.cell, hB2.cell, hB7.cell] <;> rfl)) (fun hg13_42 => by simp only [EN, Nat.reduceEqDiff, reduceIte, qv_load, ld24, readN, AR, Nat.zero_add, Nat.reduceAdd, decide_true, Bool.not_true, Bool.not_false, decide_false, eq_self, hB1.cell, hB2.cell, hB7.cell, hg13_42, GR]; rfl) ?_
    refine WL.ccg (gd_at (t := 82) rfl (by simp only [EN, Nat.reduceEqDiff, reduceIte, decide_true, Bool.not_true, Bool.not_false, decide_false, eq_self, hB1.cell, hB2.cell, hB7.cell] <;> rfl)) Try.call17 (fun hg13_43 => by simp only [EN, Nat.reduceEqDiff, reduceIte, AR, decide_true, Bool.not_true, Bool.not_false, decide_false, eq_self, hB1.cell, hB2.cell, hB7.cell, hg13_43, GR]; exact c_account _ _) ?_
    intro h16 hx16
    replace hB1 := hB1.ext hx16
    replace hB2 := hB2.ext hx16
    replace hB7 := hB7.ext hx16
    replace hmk3 := hmk3.ext hx16
    refine WL.cq (gd_at (t := 82) rfl (by simp only [EN, Nat.reduceEqDiff, reduceIte, e1, decide_true, Bool.not_true, Bool.not_false, decide_false, eq_self, hB1.cell, hB2.cell, hB7.cell] <;> rfl)) (fun hg13_44 => by simp only [EN, Nat.reduceEqDiff, reduceIte, qv_move, e1, decide_true, Bool.not_true, Bool.not_false, decide_false, eq_self, hB1.cell, hB2.cell, hB7.cell, hg13_44, GR]; rfl) ?_
    refine WL.ccg (gd_at (t := 82) rfl (by simp only [EN, Nat.reduceEqDiff, reduceIte, decide_true, Bool.not_true, Bool.not_false, decide_false, eq_self, hB1.cell, hB2.cell, hB7.cell] <;> rfl)) Try.call21 (fun hg13_45 => by simp only [EN, Nat.reduceEqDiff, reduceIte, AR, decide_true, Bool.not_true, Bool.not_false, decide_false, eq_self, hB1.cell, hB2.cell, hB7.cell, hg13_45, GR]; exact c_turnN q n _) ?_
    intro h17 hx17
    replace hB1 := hB1.ext hx17
    replace hB2 := hB2.ext hx17
    replace hB7 := hB7.ext hx17
    replace hmk3 := hmk3.ext hx17
    refine WL.cq (gd_at (t := 82) rfl (by simp only [EN, Nat.reduceEqDiff, reduceIte, decide_true, Bool.not_true, Bool.not_false, decide_false, eq_self, hB1.cell, hB2.cell, hB7.cell] <;> rfl)) (fun hg13_46 => by refine qv_bld (by simp only [EN, Nat.reduceEqDiff, reduceIte, AR, decide_true, Bool.not_true, Bool.not_false, decide_false, eq_self, hB1.cell, hB2.cell, hB7.cell, hg13_46, GR] <;> rfl) (by rw [bl48]; simp [Instr.fill, Value.cells]; rfl)) ?_
    refine WL.cq (gd_at (t := 82) rfl (by simp only [EN, Nat.reduceEqDiff, reduceIte, decide_true, Bool.not_true, Bool.not_false, decide_false, eq_self, hB1.cell, hB2.cell, hB7.cell] <;> rfl)) (fun hg13_47 => by simp only [EN, Nat.reduceEqDiff, reduceIte, qv_binOp, binv_eql, eqs48, Option.map_some, decide_true, Bool.not_true, Bool.not_false, decide_false, eq_self, hB1.cell, hB2.cell, hB7.cell, hg13_47, GR]; rfl) ?_
    refine WL.qq (by simp only [EN, Nat.reduceEqDiff, reduceIte, qv_pick, pk_and, pk_or, GR, decide_true, Bool.not_true, Bool.not_false, decide_false, eq_self, hB1.cell, hB2.cell, hB7.cell]; rfl) ?_
    refine WL.qq (by simp only [EN, Nat.reduceEqDiff, reduceIte, qv_move, decide_true, Bool.not_true, Bool.not_false, decide_false, eq_self, hB1.cell, hB2.cell, hB7.cell]; rfl) ?_
    refine WL.cq (gd_at (t := 91) rfl (by simp only [EN, Nat.reduceEqDiff, reduceIte, decide_true, Bool.not_true, Bool.not_false, decide_false, eq_self, hB1.cell, hB2.cell, hB7.cell] <;> rfl)) (fun hg13_50 => by simp only [EN, Nat.reduceEqDiff, reduceIte, qv_move, decide_true, Bool.not_true, Bool.not_false, decide_false, eq_self, hB1.cell, hB2.cell, hB7.cell, hg13_50, GR]; rfl) ?_
    refine WL.ccg (gd_at (t := 91) rfl (by simp only [EN, Nat.reduceEqDiff, reduceIte, decide_true, Bool.not_true, Bool.not_false, decide_false, eq_self, hB1.cell, hB2.cell, hB7.cell] <;> rfl)) Try.call32 (fun hg13_51 => by simp only [EN, Nat.reduceEqDiff, reduceIte, AR, decide_true, Bool.not_true, Bool.not_false, decide_false, eq_self, hB1.cell, hB2.cell, hB7.cell, hg13_51, GR]; exact c_cloneN _) ?_
    intro h18 hx18
    replace hB1 := hB1.ext hx18
    replace hB2 := hB2.ext hx18
    replace hB7 := hB7.ext hx18
    replace hmk3 := hmk3.ext hx18
    refine WL.cq (gd_at (t := 91) rfl (by simp only [EN, Nat.reduceEqDiff, reduceIte, decide_true, Bool.not_true, Bool.not_false, decide_false, eq_self, hB1.cell, hB2.cell, hB7.cell] <;> rfl)) (fun hg13_52 => by simp only [EN, Nat.reduceEqDiff, reduceIte, qv_binOp, binv_eql, eqz27, eqn27, eqm27, Option.map_some, decide_true, Bool.not_true, Bool.not_false, decide_false, eq_self, hB1.cell, hB2.cell, hB7.cell, hg13_52, GR]; rfl) ?_
    refine WL.qq (by simp only [EN, Nat.reduceEqDiff, reduceIte, qv_pick, pk_and, pk_or, GR, decide_true, Bool.not_true, Bool.not_false, decide_false, eq_self, hB1.cell, hB2.cell, hB7.cell]; rfl) ?_
    refine WL.qq (by simp only [EN, Nat.reduceEqDiff, reduceIte, qv_move, decide_true, Bool.not_true, Bool.not_false, decide_false, eq_self, hB1.cell, hB2.cell, hB7.cell]; rfl) ?_
    refine WL.cq (gd_at (t := 96) rfl (by simp only [EN, Nat.reduceEqDiff, reduceIte, decide_true, Bool.not_true, Bool.not_false, decide_false, eq_self, hB1.cell, hB2.cell, hB7.cell] <;> rfl)) (fun hg13_55 => by simp only [EN, Nat.reduceEqDiff, reduceIte, qv_move, decide_true, Bool.not_true, Bool.not_false, decide_false, eq_self, hB1.cell, hB2.cell, hB7.cell, hg13_55, GR]; rfl) ?_
    refine WL.ccg (gd_at (t := 96) rfl (by simp only [EN, Nat.reduceEqDiff, reduceIte, decide_true, Bool.not_true, Bool.not_false, decide_false, eq_self, hB1.cell, hB2.cell, hB7.cell] <;> rfl)) Try.call33 (fun hg13_56 => by simp only [EN, Nat.reduceEqDiff, reduceIte, AR, decide_true, Bool.not_true, Bool.not_false, decide_false, eq_self, hB1.cell, hB2.cell, hB7.cell, hg13_56, GR]; exact c_eqNN _) ?_
    intro h19 hx19
    replace hB1 := hB1.ext hx19
    replace hB2 := hB2.ext hx19
    replace hB7 := hB7.ext hx19
    replace hmk3 := hmk3.ext hx19
    refine WL.qq (by simp only [EN, Nat.reduceEqDiff, reduceIte, qv_pick, pk_and, pk_or, GR, decide_true, Bool.not_true, Bool.not_false, decide_false, eq_self, hB1.cell, hB2.cell, hB7.cell]; rfl) ?_
    refine WL.qq (by simp only [EN, Nat.reduceEqDiff, reduceIte, qv_move, decide_true, Bool.not_true, Bool.not_false, decide_false, eq_self, hB1.cell, hB2.cell, hB7.cell]; rfl) ?_
    refine WL.cq (gd_at (t := 100) rfl (by simp only [EN, Nat.reduceEqDiff, reduceIte, decide_true, Bool.not_true, Bool.not_false, decide_false, eq_self, hB1.cell, hB2.cell, hB7.cell] <;> rfl)) (fun hg13_59 => by simp only [EN, Nat.reduceEqDiff, reduceIte, qv_move, decide_true, Bool.not_true, Bool.not_false, decide_false, eq_self, hB1.cell, hB2.cell, hB7.cell, hg13_59, GR]; rfl) ?_
    refine WL.cq (gd_at (t := 100) rfl (by simp only [EN, Nat.reduceEqDiff, reduceIte, decide_true, Bool.not_true, Bool.not_false, decide_false, eq_self, hB1.cell, hB2.cell, hB7.cell] <;> rfl)) (fun hg13_60 => by simp only [EN, Nat.reduceEqDiff, reduceIte, qv_binOp, binv_neq, eqz27, eqn27, eqm27, Option.map_some, decide_true, Bool.not_true, Bool.not_false, decide_false, eq_self, hB1.cell, hB2.cell, hB7.cell, hg13_60, GR]; rfl) ?_
    refine WL.qq (by simp only [EN, Nat.reduceEqDiff, reduceIte, qv_pick, pk_and, pk_or, GR, decide_true, Bool.not_true, Bool.not_false, decide_false, eq_self, hB1.cell, hB2.cell, hB7.cell]; rfl) ?_
    refine WL.qq (by simp only [EN, Nat.reduceEqDiff, reduceIte, qv_move, decide_true, Bool.not_true, Bool.not_false, decide_false, eq_self, hB1.cell, hB2.cell, hB7.cell]; rfl) ?_
    refine WL.cq (gd_at (t := 104) rfl (by simp only [EN, Nat.reduceEqDiff, reduceIte, decide_true, Bool.not_true, Bool.not_false, decide_false, eq_self, hB1.cell, hB2.cell, hB7.cell] <;> rfl)) (fun hg13_63 => by simp only [EN, Nat.reduceEqDiff, reduceIte, qv_move, decide_true, Bool.not_true, Bool.not_false, decide_false, eq_self, hB1.cell, hB2.cell, hB7.cell, hg13_63, GR]; rfl) ?_
    refine WL.cq (gd_at (t := 104) rfl (by simp only [EN, Nat.reduceEqDiff, reduceIte, decide_true, Bool.not_true, Bool.not_false, decide_false, eq_self, hB1.cell, hB2.cell, hB7.cell] <;> rfl)) (fun hg13_64 => by simp only [EN, Nat.reduceEqDiff, reduceIte, qv_move, decide_true, Bool.not_true, Bool.not_false, decide_false, eq_self, hB1.cell, hB2.cell, hB7.cell, hg13_64, GR]; rfl) ?_
    refine WL.ccg (gd_at (t := 104) rfl (by simp only [EN, Nat.reduceEqDiff, reduceIte, decide_true, Bool.not_true, Bool.not_false, decide_false, eq_self, hB1.cell, hB2.cell, hB7.cell] <;> rfl)) Try.call33 (fun hg13_65 => by simp only [EN, Nat.reduceEqDiff, reduceIte, AR, decide_true, Bool.not_true, Bool.not_false, decide_false, eq_self, hB1.cell, hB2.cell, hB7.cell, hg13_65, GR]; exact c_eqNP p _) ?_
    intro h20 hx20
    replace hB1 := hB1.ext hx20
    replace hB2 := hB2.ext hx20
    replace hB7 := hB7.ext hx20
    replace hmk3 := hmk3.ext hx20
    refine WL.cq (gd_at (t := 104) rfl (by simp only [EN, Nat.reduceEqDiff, reduceIte, decide_true, Bool.not_true, Bool.not_false, decide_false, eq_self, hB1.cell, hB2.cell, hB7.cell] <;> rfl)) (fun hg13_66 => by simp only [EN, Nat.reduceEqDiff, reduceIte, qv_unOp, unv_not, decide_true, Bool.not_true, Bool.not_false, decide_false, eq_self, hB1.cell, hB2.cell, hB7.cell, hg13_66, GR]; rfl) ?_
    refine WL.qq (by simp only [EN, Nat.reduceEqDiff, reduceIte, qv_pick, pk_and, pk_or, GR, decide_true, Bool.not_true, Bool.not_false, decide_false, eq_self, hB1.cell, hB2.cell, hB7.cell]; rfl) ?_
    refine WL.qq (by simp only [EN, Nat.reduceEqDiff, reduceIte, qv_move, decide_true, Bool.not_true, Bool.not_false, decide_false, eq_self, hB1.cell, hB2.cell, hB7.cell]; rfl) ?_
    refine WL.ccg (gd_at (t := 110) rfl (by simp only [EN, Nat.reduceEqDiff, reduceIte, decide_true, Bool.not_true, Bool.not_false, decide_false, eq_self, hB1.cell, hB2.cell, hB7.cell] <;> rfl)) Try.call13 (fun hg13_69 => by simp only [EN, Nat.reduceEqDiff, reduceIte, AR, decide_true, Bool.not_true, Bool.not_false, decide_false, eq_self, hB1.cell, hB2.cell, hB7.cell, hg13_69, GR]; exact c_known14 _) ?_
    intro h21 hx21
    replace hB1 := hB1.ext hx21
    replace hB2 := hB2.ext hx21
    replace hB7 := hB7.ext hx21
    replace hmk3 := hmk3.ext hx21
    refine WL.qq (by simp only [EN, Nat.reduceEqDiff, reduceIte, qv_pick, pk_and, pk_or, GR, decide_true, Bool.not_true, Bool.not_false, decide_false, eq_self, hB1.cell, hB2.cell, hB7.cell]; rfl) ?_
    refine WL.store (by simp only [EN, Nat.reduceEqDiff, reduceIte, decide_true, Bool.not_true, Bool.not_false, decide_false, eq_self, hB1.cell, hB2.cell, hB7.cell] <;> rfl) sz4 (by simp only [EN, Nat.reduceEqDiff, reduceIte, Value.cells, decide_true, Bool.not_true, Bool.not_false, decide_false, eq_self, hB1.cell, hB2.cell, hB7.cell] <;> rfl) rfl hB2 (by first | (simp [true_and]; done) | (simp [true_and]; omega) | omega) (by simp [Value.oneCell']) ?_
    intro h22 hw22
    have hR := hw22.at_
    have hmk9 := hmk3.wr hw22 hB2
    have hE9 := hw22.ext ((hx1).trans ((hx2).trans ((hx3).trans ((hx4).trans ((hx5).trans ((hx6).trans ((hx7).trans ((hx8).trans ((hx9).trans ((hX31).trans ((hx10).trans ((hX32).trans ((hx11).trans ((hX33).trans ((hx12).trans ((hx13).trans ((hx14).trans ((hx15).trans ((hx16).trans ((hx17).trans ((hx18).trans ((hx19).trans ((hx20).trans (hx21)))))))))))))))))))))))) (by have := hx1.size; omega)
    refine WL.nil ?_
    refine th_norm ?_
    refine hx_ret ?_
    refine fin_marks (.inr rfl) [.cell 4 4] rfl rfl hmk9 ?_
    intro h5 hg5
    have hR5 := hR.gs hg5 (fun hh => by have := hmk9.df _ hh; have h8 : some (Obj.deferred (some [])) = _ := this.symm.trans hR; cases h8)
    exact ⟨[.bool true], by simp only [resv, ld4, readN, AR, Nat.zero_add, Nat.reduceAdd, EN, Nat.reduceEqDiff, reduceIte, e0, e1, decide_true, Bool.not_true, Bool.not_false, decide_false, eq_self, hB1.cell, hB2.cell, hB7.cell, hR5.cell] <;> rfl, rfl, hg5.toExt hE9 hmk9.lo⟩
end GL
namespace Go.Proofs.Ytklhfckdifkpaaa.historyNil
open Go.ChangeShapes Go.WideShapes Go.ChangeAt Go.RowKit
theorem own : ownKnob Try.prog.godebug = none := by kernel_rfl
theorem laid : laidOutB Try.prog = true := by kernel_rfl
set_option maxRecDepth 100000 in
theorem lifted (os : Os) (started : os.Started) (H : Type) (enc : TypeId × Value → H) :
    ReturnsInHanded {} Try.checked os 11 .any (Rows.historyNilSpec.pre6 enc Try.prog Try.f11 Rows.historyNilRow.domain false) (Rows.historyNilSpec.post enc Try.prog Try.f11 false true false false) := by
  refine returnsInHanded_of_change (C := Try.checked) own started (by kernel_rfl) Try.func11
    (ChangeSpec.witness6 (enc := enc) (C := Try.checked) false ⟨#[], #[(.agg #[(.string ⟨#[]⟩), (.int .i64 0), (.string ⟨#[]⟩)]), (.int .i64 0)], []⟩ 8 (by kernel_rfl) (by kernel_rfl) (by kernel_rfl) (by kernel_rfl)) ?_
  intro W base args ds gs before hval0 hW hcnd _
  have hval : ∀ (j : Nat) t v, Try.f11.params[j]? = some t → args[j]? = some v → Value.okWide Try.prog W .any base t v := hval0
  have hW' := hW
  obtain ⟨p, q, hA0, hV, rfl, hfz, hnd⟩ := hW
  have hA : DataW.TrodAll enc Try.prog W 0 (fun _ => true) true Try.f11.params.toList args.toList ds p := hA0
  rw [Try.params11] at hA hval
  obtain ⟨v0, vs0, d0, ds0, p0, q0, hargs, rfl, rfl, h0, r0⟩ := trodAll_cons hA
  obtain ⟨v1, vs1, d1, ds1, p1, q1, rfl, rfl, rfl, h1, r1⟩ := trodAll_cons r0
  obtain ⟨rfl, rfl, rfl⟩ := trodAll_nil r1
  obtain rfl : args = #[v0, v1] := by cases args; simp_all
  obtain ⟨rfl, rfl⟩ := trodVars_none hV
  obtain ⟨q, rfl⟩ := GL.view_ac (hval 0 24 v0 rfl rfl) h0
  obtain ⟨n, rfl, _, _⟩ := GL.view_i (hval 1 3 v1 rfl rfl) h1
  exact GL.law_done (tb := 4) laid (by kernel_rfl) rfl (by kernel_rfl) Try.underlying4 hW' rfl (GL.l_nil q n _)
theorem over : Rows.historyNilRow.holds Try.pinned (OpenSpec.ofChange Rows.historyNilSpec) :=
  OpenClaim.holds_of_wide 11 Try.f11 rfl rfl rfl rfl rfl rfl rfl ⟨rfl, rfl, rfl, rfl, rfl⟩ rfl rfl rfl rfl rfl (by kernel_rfl) Try.func11 (by kernel_rfl)
    (of_decide_eq_true (by kernel_rfl)) (by unfold Func.isWrapper; first | (rw [if_pos (by decide +kernel)]; kernel_rfl) | (rw [if_neg (by decide +kernel)]; exact ⟨rfl, rfl⟩))
    (fun os started H enc _ => lifted os started H enc)
theorem proved : Rows.HistoryNilSaid := over
end Go.Proofs.Ytklhfckdifkpaaa.historyNil


/- The law SessionNilClone returns true: nil receivers and senders answer with zero values, clones are independent, Equal compares. No condition beyond the row's own. -/
import Derived.Test.YtmlhncifcaicpaaRows
import Derived.Test.YtmlhncifcaicpaaSesU
import Derived.Test.YtmlhncifcaicpaaSesK
set_option linter.unusedSimpArgs false
set_option linter.unusedVariables false
set_option linter.unnecessarySimpa false
namespace GL
open Go Go.Proofs
set_option maxRecDepth 8000
theorem n_Send (pl : ByteArray) (h : Heap) : HCalls Try.prog 22 #[.pointer none, .string pl] h (Grow (.tuple #[.agg #[iV 0, .string em], iV 1]) h) := by
  refine hcalls2 Try.func22 rfl (by decide +kernel) (by simp only [Try.ntmps22]; exact of_decide_eq_true rfl) ?_
  intro e hin
  have e0 := hin 0 _ rfl
  have e1 := hin 1 _ rfl
  refine hx_seq ?_
  refine hx_region ?_
  refine WL.alloc2 zr43 ?_
  intro h1 B1 hx1 hlt1 hB1
  simp only [Value.cells] at hB1
  refine WL.qq (by simp only [EN, Nat.reduceEqDiff, reduceIte, qv_assign, hB1.cell]; rfl) ?_
  refine WL.nil ?_
  refine th_norm ?_
  refine hx_seq ?_
  refine hx_block ?_
  refine hx_seq ?_
  refine hx_region ?_
  refine WL.qq (by simp only [EN, Nat.reduceEqDiff, reduceIte, qv_move, e0, hB1.cell]; rfl) ?_
  refine WL.qq (by simp only [EN, Nat.reduceEqDiff, reduceIte, qv_binOp, binv_eql, eqz33, eqn33, eqm33, Option.map_some, hB1.cell]; rfl) ?_
  refine WL.qq (by simp only [EN, Nat.reduceEqDiff, reduceIte, qv_assign, hB1.cell]; rfl) ?_
  refine WL.nil ?_
  refine th_norm ?_
  refine hx_cond (by simp only [EN, Nat.reduceEqDiff, reduceIte, hB1.cell]; rfl) (fun hct7 => ?_) (fun hct7 => ?_)
  ·
    try simp only [BD] at hct7
    refine hx_seq ?_
    refine hx_region ?_
    refine WL.qq (by refine qv_bld (by simp only [EN, Nat.reduceEqDiff, reduceIte, AR, hB1.cell] <;> rfl) (by rw [bl43]; simp [Instr.fill, Value.cells]; rfl)) ?_
    refine WL.store (by simp only [EN, Nat.reduceEqDiff, reduceIte, e0, e1, hB1.cell] <;> rfl) sz43 (by simp only [EN, Nat.reduceEqDiff, reduceIte, e0, e1, hB1.cell, Value.cells]; rfl) rfl hB1 (by simp) (by intro u hu; simp at hu; rcases hu with rfl | rfl <;> rfl) ?_
    intro h20 hw20
    have hE9 := hw20.ext (hx1) hlt1
    replace hB1 := hw20.at_
    refine WL.qq (by simp only [EN, Nat.reduceEqDiff, reduceIte, qv_assign, hB1.cell]; rfl) ?_
    refine WL.nil ?_
    refine th_norm ?_
    refine hx_ret ?_
    refine bl_ret ?_
    refine th_ret ?_
    refine fin_ret [.cell 4 43, .tmp 5] rfl rfl (by simp only [EN, Nat.reduceEqDiff, reduceIte, resv, ld43, readN, AR, Nat.zero_add, Nat.reduceAdd, e0, e1, hB1.cell]; rfl) ?_  -- ret 0 r2
    exact ⟨rfl, hE9⟩
  ·
    simp at hct7
theorem n_Resend (f t : Int) (h : Heap) : HCalls Try.prog 28 #[.pointer none, .agg #[iV f, iV t]] h (Grow (.tuple #[.slice none 0 0, iV 1]) h) := by
  refine hcalls2 Try.func28 rfl (by decide +kernel) (by simp only [Try.ntmps28]; exact of_decide_eq_true rfl) ?_
  intro e hin
  have e0 := hin 0 _ rfl
  have e1 := hin 1 _ rfl
  refine hx_seq ?_
  refine hx_region ?_
  refine WL.box2 (by simp only [EN, Nat.reduceEqDiff, reduceIte, Value.cells, e1]; rfl) ?_
  intro h1 B1 hx1 hlt1 hB1
  refine WL.qq (by simp only [EN, Nat.reduceEqDiff, reduceIte, qv_assign, hB1.cell]; rfl) ?_
  refine WL.qq (by simp only [EN, Nat.reduceEqDiff, reduceIte, qv_assign, hB1.cell]; rfl) ?_
  refine WL.nil ?_
  refine th_norm ?_
  refine hx_seq ?_
  refine hx_block ?_
  refine hx_seq ?_
  refine hx_region ?_
  refine WL.qq (by simp only [EN, Nat.reduceEqDiff, reduceIte, qv_move, e0, hB1.cell]; rfl) ?_
  refine WL.qq (by simp only [EN, Nat.reduceEqDiff, reduceIte, qv_binOp, binv_eql, eqz33, eqn33, eqm33, Option.map_some, hB1.cell]; rfl) ?_
  refine WL.qq (by simp only [EN, Nat.reduceEqDiff, reduceIte, qv_assign, hB1.cell]; rfl) ?_
  refine WL.nil ?_
  refine th_norm ?_
  refine hx_cond (by simp only [EN, Nat.reduceEqDiff, reduceIte, hB1.cell]; rfl) (fun hct7 => ?_) (fun hct7 => ?_)
  ·
    try simp only [BD] at hct7
    refine hx_seq ?_
    refine hx_region ?_
    refine WL.qq (by simp only [EN, Nat.reduceEqDiff, reduceIte, qv_assign, hB1.cell]; rfl) ?_
    refine WL.qq (by simp only [EN, Nat.reduceEqDiff, reduceIte, qv_assign, hB1.cell]; rfl) ?_
    refine WL.nil ?_
    refine th_norm ?_
    refine hx_ret ?_
    refine bl_ret ?_
    refine th_ret ?_
    refine fin_ret [.tmp 4, .tmp 5] rfl rfl (by simp only [EN, Nat.reduceEqDiff, reduceIte, resv, e0, e1, hB1.cell]; rfl) ?_  -- ret 0 r2
    exact ⟨rfl, (hx1)⟩
  ·
    simp at hct7
theorem n_Ack (x : Int) (h : Heap) : HCalls Try.prog 23 #[.pointer none, iV x] h (Pure (iV 1) h) := by
  refine hcalls2 Try.func23 rfl (by decide +kernel) (by simp only [Try.ntmps23]; exact of_decide_eq_true rfl) ?_
  intro e hin
  have e0 := hin 0 _ rfl
  have e1 := hin 1 _ rfl
  refine hx_seq ?_
  refine hx_region ?_
  refine WL.qq (by simp only [EN, Nat.reduceEqDiff, reduceIte, qv_assign]; rfl) ?_
  refine WL.nil ?_
  refine th_norm ?_
  refine hx_seq ?_
  refine hx_block ?_
  refine hx_seq ?_
  refine hx_region ?_
  refine WL.qq (by simp only [EN, Nat.reduceEqDiff, reduceIte, qv_move, e0]; rfl) ?_
  refine WL.qq (by simp only [EN, Nat.reduceEqDiff, reduceIte, qv_binOp, binv_eql, eqz33, eqn33, eqm33, Option.map_some]; rfl) ?_
  refine WL.qq (by simp only [EN, Nat.reduceEqDiff, reduceIte, qv_assign]; rfl) ?_
  refine WL.nil ?_
  refine th_norm ?_
  refine hx_cond (by simp only [EN, Nat.reduceEqDiff, reduceIte]; rfl) (fun hct7 => ?_) (fun hct7 => ?_)
  ·
    try simp only [BD] at hct7
    refine hx_seq ?_
    refine hx_region ?_
    refine WL.qq (by simp only [EN, Nat.reduceEqDiff, reduceIte, qv_assign]; rfl) ?_
    refine WL.nil ?_
    refine th_norm ?_
    refine hx_ret ?_
    refine bl_ret ?_
    refine th_ret ?_
    refine fin_ret [.tmp 4] rfl rfl (by simp only [EN, Nat.reduceEqDiff, reduceIte, resv, e0, e1]; rfl) ?_  -- ret 0 r2
    exact ⟨rfl, rfl⟩
  ·
    simp at hct7
theorem n_NextS (h : Heap) : HCalls Try.prog 26 #[.pointer none] h (Pure (iV 0) h) := by
  refine hcalls2 Try.func26 rfl (by decide +kernel) (by simp only [Try.ntmps26]; exact of_decide_eq_true rfl) ?_
  intro e hin
  have e0 := hin 0 _ rfl
  refine hx_seq ?_
  refine hx_region ?_
  refine WL.qq (by simp only [EN, Nat.reduceEqDiff, reduceIte, qv_assign]; rfl) ?_
  refine WL.nil ?_
  refine th_norm ?_
  refine hx_seq ?_
  refine hx_seq ?_
  refine hx_region ?_
  refine WL.qq (by simp only [EN, Nat.reduceEqDiff, reduceIte, qv_move, e0]; rfl) ?_
  refine WL.qq (by simp only [EN, Nat.reduceEqDiff, reduceIte, qv_binOp, binv_eql, eqz33, eqn33, eqm33, Option.map_some]; rfl) ?_
  refine WL.nil ?_
  refine th_norm ?_
  refine hx_cond (by simp only [EN, Nat.reduceEqDiff, reduceIte]; rfl) (fun hct4 => ?_) (fun hct4 => ?_)
  ·
    try simp only [BD] at hct4
    refine hx_seq ?_
    refine hx_region ?_
    refine WL.qq (by simp only [EN, Nat.reduceEqDiff, reduceIte, qv_assign]; rfl) ?_
    refine WL.nil ?_
    refine th_norm ?_
    refine hx_ret ?_
    refine th_ret ?_
    refine fin_ret [.tmp 2] rfl rfl (by simp only [EN, Nat.reduceEqDiff, reduceIte, resv, e0]; rfl) ?_  -- ret 0 r2
    exact ⟨rfl, rfl⟩
  ·
    simp at hct4
theorem n_Pend (h : Heap) : HCalls Try.prog 21 #[.pointer none] h (Pure (.slice none 0 0) h) := by
  refine hcalls2 Try.func21 rfl (by decide +kernel) (by simp only [Try.ntmps21]; exact of_decide_eq_true rfl) ?_
  intro e hin
  have e0 := hin 0 _ rfl
  refine hx_seq ?_
  refine hx_region ?_
  refine WL.qq (by simp only [EN, Nat.reduceEqDiff, reduceIte, qv_assign]; rfl) ?_
  refine WL.nil ?_
  refine th_norm ?_
  refine hx_seq ?_
  refine hx_seq ?_
  refine hx_region ?_
  refine WL.qq (by simp only [EN, Nat.reduceEqDiff, reduceIte, qv_move, e0]; rfl) ?_
  refine WL.qq (by simp only [EN, Nat.reduceEqDiff, reduceIte, qv_binOp, binv_eql, eqz33, eqn33, eqm33, Option.map_some]; rfl) ?_
  refine WL.nil ?_
  refine th_norm ?_
  refine hx_cond (by simp only [EN, Nat.reduceEqDiff, reduceIte]; rfl) (fun hct4 => ?_) (fun hct4 => ?_)
  ·
    try simp only [BD] at hct4
    refine hx_seq ?_
    refine hx_region ?_
    refine WL.qq (by simp only [EN, Nat.reduceEqDiff, reduceIte, qv_assign]; rfl) ?_
    refine WL.nil ?_
    refine th_norm ?_
    refine hx_ret ?_
    refine th_ret ?_
    refine fin_ret [.tmp 2] rfl rfl (by simp only [EN, Nat.reduceEqDiff, reduceIte, resv, e0]; rfl) ?_  -- ret 0 r2
    exact ⟨rfl, rfl⟩
  ·
    simp at hct4
theorem n_CloneS (h : Heap) : HCalls Try.prog 31 #[.pointer none] h (Pure (.pointer none) h) := by
  refine hcalls2 Try.func31 rfl (by decide +kernel) (by simp only [Try.ntmps31]; exact of_decide_eq_true rfl) ?_
  intro e hin
  have e0 := hin 0 _ rfl
  refine hx_seq ?_
  refine hx_region ?_
  refine WL.qq (by simp only [EN, Nat.reduceEqDiff, reduceIte, qv_assign]; rfl) ?_
  refine WL.nil ?_
  refine th_norm ?_
  refine hx_seq ?_
  refine hx_seq ?_
  refine hx_region ?_
  refine WL.qq (by simp only [EN, Nat.reduceEqDiff, reduceIte, qv_move, e0]; rfl) ?_
  refine WL.qq (by simp only [EN, Nat.reduceEqDiff, reduceIte, qv_binOp, binv_eql, eqz33, eqn33, eqm33, Option.map_some]; rfl) ?_
  refine WL.nil ?_
  refine th_norm ?_
  refine hx_cond (by simp only [EN, Nat.reduceEqDiff, reduceIte]; rfl) (fun hct4 => ?_) (fun hct4 => ?_)
  ·
    try simp only [BD] at hct4
    refine hx_seq ?_
    refine hx_region ?_
    refine WL.qq (by simp only [EN, Nat.reduceEqDiff, reduceIte, qv_assign]; rfl) ?_
    refine WL.nil ?_
    refine th_norm ?_
    refine hx_ret ?_
    refine th_ret ?_
    refine fin_ret [.tmp 2] rfl rfl (by simp only [EN, Nat.reduceEqDiff, reduceIte, resv, e0]; rfl) ?_  -- ret 0 r2
    exact ⟨rfl, rfl⟩
  ·
    simp at hct4
theorem n_eqSNN (h : Heap) : HCalls Try.prog 32 #[.pointer none, .pointer none] h (Pure (.bool true) h) := by
  refine hcalls2 Try.func32 rfl (by decide +kernel) (by simp only [Try.ntmps32]; exact of_decide_eq_true rfl) ?_
  intro e hin
  have e0 := hin 0 _ rfl
  have e1 := hin 1 _ rfl
  refine hx_seq ?_
  refine hx_region ?_
  refine WL.qq (by simp only [EN, Nat.reduceEqDiff, reduceIte, qv_assign]; rfl) ?_
  refine WL.nil ?_
  refine th_norm ?_
  refine hx_seq ?_
  refine hx_seq ?_
  refine hx_region ?_
  refine WL.qq (by simp only [EN, Nat.reduceEqDiff, reduceIte, qv_move, e0]; rfl) ?_
  refine WL.qq (by simp only [EN, Nat.reduceEqDiff, reduceIte, qv_binOp, binv_eql, eqz33, eqn33, eqm33, Option.map_some]; rfl) ?_
  refine WL.qq (by simp only [EN, Nat.reduceEqDiff, reduceIte, qv_move]; rfl) ?_
  refine WL.cq (gd_at (t := 7) rfl (by simp only [EN, Nat.reduceEqDiff, reduceIte, e1] <;> rfl)) (fun hg1_3 => by simp only [EN, Nat.reduceEqDiff, reduceIte, qv_move, e1, hg1_3, GR]; rfl) ?_
  refine WL.cq (gd_at (t := 7) rfl (by simp only [EN, Nat.reduceEqDiff, reduceIte] <;> rfl)) (fun hg1_4 => by simp only [EN, Nat.reduceEqDiff, reduceIte, qv_binOp, binv_eql, eqz33, eqn33, eqm33, Option.map_some, hg1_4, GR]; rfl) ?_
  refine WL.qq (by simp only [EN, Nat.reduceEqDiff, reduceIte, qv_pick, pk_and, pk_or, GR]; rfl) ?_
  refine WL.nil ?_
  refine th_norm ?_
  refine hx_cond (by simp only [EN, Nat.reduceEqDiff, reduceIte]; rfl) (fun hct10 => ?_) (fun hct10 => ?_)
  ·
    try simp only [BD] at hct10
    refine hx_seq ?_
    refine hx_region ?_
    refine WL.qq (by simp only [EN, Nat.reduceEqDiff, reduceIte, qv_move, e0]; rfl) ?_
    refine WL.qq (by simp only [EN, Nat.reduceEqDiff, reduceIte, qv_binOp, binv_eql, eqz33, eqn33, eqm33, Option.map_some]; rfl) ?_
    refine WL.qq (by simp only [EN, Nat.reduceEqDiff, reduceIte, qv_move]; rfl) ?_
    refine WL.cq (gd_at (t := 13) rfl (by simp only [EN, Nat.reduceEqDiff, reduceIte, e1] <;> rfl)) (fun hg2_3 => by simp only [EN, Nat.reduceEqDiff, reduceIte, qv_move, e1, hg2_3, GR]; rfl) ?_
    refine WL.cq (gd_at (t := 13) rfl (by simp only [EN, Nat.reduceEqDiff, reduceIte] <;> rfl)) (fun hg2_4 => by simp only [EN, Nat.reduceEqDiff, reduceIte, qv_binOp, binv_eql, eqz33, eqn33, eqm33, Option.map_some, hg2_4, GR]; rfl) ?_
    refine WL.qq (by simp only [EN, Nat.reduceEqDiff, reduceIte, qv_pick, pk_and, pk_or, GR]; rfl) ?_
    refine WL.qq (by simp only [EN, Nat.reduceEqDiff, reduceIte, qv_assign]; rfl) ?_
    refine WL.nil ?_
    refine th_norm ?_
    refine hx_ret ?_
    refine th_ret ?_
    refine fin_ret [.tmp 4] rfl rfl (by simp only [EN, Nat.reduceEqDiff, reduceIte, resv, e0, e1]; rfl) ?_  -- ret 0 r2
    exact ⟨rfl, rfl⟩
  ·
    simp at hct10
theorem n_eqSN (p : Nat) (h : Heap) : HCalls Try.prog 32 #[.pointer none, .pointer (some ⟨p, 0, none⟩)] h (Pure (.bool false) h) := by
  refine hcalls2 Try.func32 rfl (by decide +kernel) (by simp only [Try.ntmps32]; exact of_decide_eq_true rfl) ?_
  intro e hin
  have e0 := hin 0 _ rfl
  have e1 := hin 1 _ rfl
  refine hx_seq ?_
  refine hx_region ?_
  refine WL.qq (by simp only [EN, Nat.reduceEqDiff, reduceIte, qv_assign]; rfl) ?_
  refine WL.nil ?_
  refine th_norm ?_
  refine hx_seq ?_
  refine hx_seq ?_
  refine hx_region ?_
  refine WL.qq (by simp only [EN, Nat.reduceEqDiff, reduceIte, qv_move, e0]; rfl) ?_
  refine WL.qq (by simp only [EN, Nat.reduceEqDiff, reduceIte, qv_binOp, binv_eql, eqz33, eqn33, eqm33, Option.map_some]; rfl) ?_
  refine WL.qq (by simp only [EN, Nat.reduceEqDiff, reduceIte, qv_move]; rfl) ?_
  refine WL.cq (gd_at (t := 7) rfl (by simp only [EN, Nat.reduceEqDiff, reduceIte, e1] <;> rfl)) (fun hg1_3 => by simp only [EN, Nat.reduceEqDiff, reduceIte, qv_move, e1, hg1_3, GR]; rfl) ?_
  refine WL.cq (gd_at (t := 7) rfl (by simp only [EN, Nat.reduceEqDiff, reduceIte] <;> rfl)) (fun hg1_4 => by simp only [EN, Nat.reduceEqDiff, reduceIte, qv_binOp, binv_eql, eqz33, eqn33, eqm33, Option.map_some, hg1_4, GR]; rfl) ?_
  refine WL.qq (by simp only [EN, Nat.reduceEqDiff, reduceIte, qv_pick, pk_and, pk_or, GR]; rfl) ?_
  refine WL.nil ?_
  refine th_norm ?_
  refine hx_cond (by simp only [EN, Nat.reduceEqDiff, reduceIte]; rfl) (fun hct10 => ?_) (fun hct10 => ?_)
  ·
    try simp only [BD] at hct10
    refine hx_seq ?_
    refine hx_region ?_
    refine WL.qq (by simp only [EN, Nat.reduceEqDiff, reduceIte, qv_move, e0]; rfl) ?_
    refine WL.qq (by simp only [EN, Nat.reduceEqDiff, reduceIte, qv_binOp, binv_eql, eqz33, eqn33, eqm33, Option.map_some]; rfl) ?_
    refine WL.qq (by simp only [EN, Nat.reduceEqDiff, reduceIte, qv_move]; rfl) ?_
    refine WL.cq (gd_at (t := 13) rfl (by simp only [EN, Nat.reduceEqDiff, reduceIte, e1] <;> rfl)) (fun hg2_3 => by simp only [EN, Nat.reduceEqDiff, reduceIte, qv_move, e1, hg2_3, GR]; rfl) ?_
    refine WL.cq (gd_at (t := 13) rfl (by simp only [EN, Nat.reduceEqDiff, reduceIte] <;> rfl)) (fun hg2_4 => by simp only [EN, Nat.reduceEqDiff, reduceIte, qv_binOp, binv_eql, eqz33, eqn33, eqm33, Option.map_some, hg2_4, GR]; rfl) ?_
    refine WL.qq (by simp only [EN, Nat.reduceEqDiff, reduceIte, qv_pick, pk_and, pk_or, GR]; rfl) ?_
    refine WL.qq (by simp only [EN, Nat.reduceEqDiff, reduceIte, qv_assign]; rfl) ?_
    refine WL.nil ?_
    refine th_norm ?_
    refine hx_ret ?_
    refine th_ret ?_
    refine fin_ret [.tmp 4] rfl rfl (by simp only [EN, Nat.reduceEqDiff, reduceIte, resv, e0, e1]; rfl) ?_  -- ret 0 r2
    exact ⟨rfl, rfl⟩
  ·
    simp at hct10
theorem n_eqST (p : Nat) (h : Heap) : HCalls Try.prog 32 #[.pointer (some ⟨p, 0, none⟩), .pointer none] h (Pure (.bool false) h) := by
  refine hcalls2 Try.func32 rfl (by decide +kernel) (by simp only [Try.ntmps32]; exact of_decide_eq_true rfl) ?_
  intro e hin
  have e0 := hin 0 _ rfl
  have e1 := hin 1 _ rfl
  refine hx_seq ?_
  refine hx_region ?_
  refine WL.qq (by simp only [EN, Nat.reduceEqDiff, reduceIte, qv_assign]; rfl) ?_
  refine WL.nil ?_
  refine th_norm ?_
  refine hx_seq ?_
  refine hx_seq ?_
  refine hx_region ?_
  refine WL.qq (by simp only [EN, Nat.reduceEqDiff, reduceIte, qv_move, e0]; rfl) ?_
  refine WL.qq (by simp only [EN, Nat.reduceEqDiff, reduceIte, qv_binOp, binv_eql, eqz33, eqn33, eqm33, Option.map_some]; rfl) ?_
  refine WL.qq (by simp only [EN, Nat.reduceEqDiff, reduceIte, qv_move]; rfl) ?_
  refine WL.cq (gd_at (t := 7) rfl (by simp only [EN, Nat.reduceEqDiff, reduceIte, e1] <;> rfl)) (fun hg1_3 => by simp only [EN, Nat.reduceEqDiff, reduceIte, qv_move, e1, hg1_3, GR]; rfl) ?_
  refine WL.cq (gd_at (t := 7) rfl (by simp only [EN, Nat.reduceEqDiff, reduceIte] <;> rfl)) (fun hg1_4 => by simp only [EN, Nat.reduceEqDiff, reduceIte, qv_binOp, binv_eql, eqz33, eqn33, eqm33, Option.map_some, hg1_4, GR]; rfl) ?_
  refine WL.qq (by simp only [EN, Nat.reduceEqDiff, reduceIte, qv_pick, pk_and, pk_or, GR]; rfl) ?_
  refine WL.nil ?_
  refine th_norm ?_
  refine hx_cond (by simp only [EN, Nat.reduceEqDiff, reduceIte]; rfl) (fun hct10 => ?_) (fun hct10 => ?_)
  ·
    try simp only [BD] at hct10
    refine hx_seq ?_
    refine hx_region ?_
    refine WL.qq (by simp only [EN, Nat.reduceEqDiff, reduceIte, qv_move, e0]; rfl) ?_
    refine WL.qq (by simp only [EN, Nat.reduceEqDiff, reduceIte, qv_binOp, binv_eql, eqz33, eqn33, eqm33, Option.map_some]; rfl) ?_
    refine WL.qq (by simp only [EN, Nat.reduceEqDiff, reduceIte, qv_move]; rfl) ?_
    refine WL.cq (gd_at (t := 13) rfl (by simp only [EN, Nat.reduceEqDiff, reduceIte, e1] <;> rfl)) (fun hg2_3 => by simp only [EN, Nat.reduceEqDiff, reduceIte, qv_move, e1, hg2_3, GR]; rfl) ?_
    refine WL.cq (gd_at (t := 13) rfl (by simp only [EN, Nat.reduceEqDiff, reduceIte] <;> rfl)) (fun hg2_4 => by simp only [EN, Nat.reduceEqDiff, reduceIte, qv_binOp, binv_eql, eqz33, eqn33, eqm33, Option.map_some, hg2_4, GR]; rfl) ?_
    refine WL.qq (by simp only [EN, Nat.reduceEqDiff, reduceIte, qv_pick, pk_and, pk_or, GR]; rfl) ?_
    refine WL.qq (by simp only [EN, Nat.reduceEqDiff, reduceIte, qv_assign]; rfl) ?_
    refine WL.nil ?_
    refine th_norm ?_
    refine hx_ret ?_
    refine th_ret ?_
    refine fin_ret [.tmp 4] rfl rfl (by simp only [EN, Nat.reduceEqDiff, reduceIte, resv, e0, e1]; rfl) ?_  -- ret 0 r2
    exact ⟨rfl, rfl⟩
  ·
    simp at hct10
theorem few_ok {l : List M2} (h : fewB l = true) : l.length ≤ 60 ∧ ∀ x ∈ l, x.2.size ≤ 5000 := by
  unfold fewB at h
  rw [Bool.and_eq_true, decide_eq_true_eq, List.all_eq_true] at h
  exact ⟨h.2, fun x hx => by simpa using h.1 x hx⟩
theorem c_few1 {m : M2} {v : Value} {h : Heap} (hv : ∃ B, v = .slice (some ⟨B, 0, none⟩) 1 1 ∧ Has h B (.cells (msgL m).toArray 46)) : HCalls Try.prog 11 #[v] h (Pure (.bool (fewB [m])) h) := by
  obtain ⟨B, rfl, hB⟩ := hv
  exact c_few (some ⟨B, 0, none⟩) [m] 1 (by simp) (slG_has (f := msgL) (sz := 2) (L := [m]) (fun _ => rfl) hB (by simp))
/-- After a step a sender is equal to the one before just where neither number has changed. -/
theorem eq_chg {w n a : Int} {K : List M2} (o : SOp) : decide (eqS w (stN w n K o) (stA n a o) (stK w n a K o) w n a K) = !(!decide (stN w n K o = n) || !decide (stA n a o = a)) := by
  have hk : stN w n K o = n → stA n a o = a → stK w n a K o = K := by
    unfold stN stA stK
    by_cases h0 : o.k % 3 = 0
    · rw [if_pos h0, if_pos h0]
      unfold sndN sndK
      intro h1 _
      by_cases h2 : sndE w n K o.s = 0
      · rw [if_pos h2] at h1; omega
      · rw [if_neg h2]
    · rw [if_neg h0, if_neg h0]
      by_cases h1 : o.k % 3 = 1
      · rw [if_pos h1, if_pos h1]
        unfold ackA ackK
        intro _ h2
        by_cases h3 : ackE n a o.a = 0
        · rw [if_pos h3] at h2 ⊢
          rw [show (o.a - a).toNat = 0 by omega]; rfl
        · rw [if_neg h3]
      · rw [if_neg h1, if_neg h1]; exact fun _ _ => rfl
  by_cases h1 : stN w n K o = n
  · by_cases h2 : stA n a o = a
    · rw [hk h1 h2, h1, h2]; simp [eqS]
    · simp [eqS, h1, h2]
  · simp [eqS, h1]
set_option maxHeartbeats 2000000 in
theorem l_nil49N (w : Int) (hw : ¬ (1 ≤ w ∧ w ≤ 256)) (al : Option Addr) (l : List M2) (cl : Nat) (x : M2) (ao : Option Addr) (os : List SOp) (co : Nat) (o : SOp) (hoo : SOk o) {h : Heap} (hl : SlG 2 msgL h al l) (ll : l.length ≤ 9223372036854775807) (hops : SlG 4 opL h ao os) (lo : os.length ≤ 9223372036854775807) (hok : ∀ o ∈ os, SOk o) :
    HCalls Try.prog 10 #[iV w, .slice al l.length cl, .agg (msgL x).toArray, .slice ao os.length co, .agg (opL o).toArray] h (Grow (.bool true) h) := by
  refine hcalls2 Try.func10 rfl (by decide +kernel) (by simp only [Try.ntmps10]; exact of_decide_eq_true rfl) ?_
  intro e hin
  have e0 := hin 0 _ rfl
  have e1 := hin 1 _ rfl
  have e2 := hin 2 _ rfl
  have e3 := hin 3 _ rfl
  have e4 := hin 4 _ rfl
  refine hx_seq ?_
  refine hx_region ?_
  refine WL.box2 (by simp only [EN, Nat.reduceEqDiff, reduceIte, Value.cells, e2, decide_true, Bool.not_true, Bool.not_false, decide_false, eq_self, strEq, Bool.and_self]; rfl) ?_
  intro h1 B1 hx1 hlt1 hB1
  replace hl := hl.ext hx1
  replace hops := hops.ext hx1
  refine WL.box2 (by simp only [EN, Nat.reduceEqDiff, reduceIte, Value.cells, e4, decide_true, Bool.not_true, Bool.not_false, decide_false, eq_self, strEq, Bool.and_self, hB1.cell]; rfl) ?_
  intro h2 B2 hx2 hlt2 hB2
  replace hl := hl.ext hx2
  replace hops := hops.ext hx2
  replace hB1 := hB1.ext hx2
  refine WL.qq (by simp only [EN, Nat.reduceEqDiff, reduceIte, qv_assign, decide_true, Bool.not_true, Bool.not_false, decide_false, eq_self, strEq, Bool.and_self, hB1.cell, hB2.cell]; rfl) ?_
  refine WL.nil ?_
  refine th_norm ?_
  refine hx_seq ?_
  refine hx_seq ?_
  refine hx_region ?_
  refine WL.qq (by simp only [EN, Nat.reduceEqDiff, reduceIte, qv_move, e1, decide_true, Bool.not_true, Bool.not_false, decide_false, eq_self, strEq, Bool.and_self, hB1.cell, hB2.cell]; rfl) ?_
  refine WL.ck Try.call11 (by simp only [EN, Nat.reduceEqDiff, reduceIte, AR, decide_true, Bool.not_true, Bool.not_false, decide_false, eq_self, strEq, Bool.and_self, hB1.cell, hB2.cell]; exact c_few al l cl ll hl) ?_
  refine WL.qq (by simp only [EN, Nat.reduceEqDiff, reduceIte, qv_unOp, unv_not, decide_true, Bool.not_true, Bool.not_false, decide_false, eq_self, strEq, Bool.and_self, hB1.cell, hB2.cell]; rfl) ?_
  refine WL.qq (by simp only [EN, Nat.reduceEqDiff, reduceIte, qv_move, decide_true, Bool.not_true, Bool.not_false, decide_false, eq_self, strEq, Bool.and_self, hB1.cell, hB2.cell]; rfl) ?_
  refine WL.cq (gd_at (t := 36) rfl (by simp only [EN, Nat.reduceEqDiff, reduceIte, decide_true, Bool.not_true, Bool.not_false, decide_false, eq_self, strEq, Bool.and_self, hB1.cell, hB2.cell] <;> rfl)) (fun hg1_4 => by simp only [EN, Nat.reduceEqDiff, reduceIte, qv_load, ld46, readN, AR, Nat.zero_add, Nat.reduceAdd, decide_true, Bool.not_true, Bool.not_false, decide_false, eq_self, strEq, Bool.and_self, hB1.cell, hB2.cell, hg1_4, GR]; rfl) ?_
  refine WL.geX (gd_at (t := 36) rfl (by simp only [EN, Nat.reduceEqDiff, reduceIte, decide_true, Bool.not_true, Bool.not_false, decide_false, eq_self, strEq, Bool.and_self, hB1.cell, hB2.cell] <;> rfl)) (fun hg1_5 => e_lit1X Try.underlying22 sz46 zr46 (by decide) (by simp only [EN, Nat.reduceEqDiff, reduceIte, Value.cells, decide_true, Bool.not_true, Bool.not_false, decide_false, eq_self, strEq, Bool.and_self, hB1.cell, hB2.cell, hg1_5, GR]; rfl) rfl) ?_
  intro v1_5 h3 hx3 w1_5 n1_5
  replace hl := hl.ext hx3
  replace hops := hops.ext hx3
  replace hB1 := hB1.ext hx3
  replace hB2 := hB2.ext hx3
  refine WL.cck (gd_at (t := 36) rfl (by simp only [EN, Nat.reduceEqDiff, reduceIte, decide_true, Bool.not_true, Bool.not_false, decide_false, eq_self, strEq, Bool.and_self, hB1.cell, hB2.cell] <;> rfl)) Try.call11 (fun hg1_6 => by simp only [EN, Nat.reduceEqDiff, reduceIte, AR, decide_true, Bool.not_true, Bool.not_false, decide_false, eq_self, strEq, Bool.and_self, hB1.cell, hB2.cell, hg1_6, GR]; exact c_few1 (w1_5 (by simpa using hg1_6))) ?_
  refine WL.cq (gd_at (t := 36) rfl (by simp only [EN, Nat.reduceEqDiff, reduceIte, decide_true, Bool.not_true, Bool.not_false, decide_false, eq_self, strEq, Bool.and_self, hB1.cell, hB2.cell] <;> rfl)) (fun hg1_7 => by simp only [EN, Nat.reduceEqDiff, reduceIte, qv_unOp, unv_not, decide_true, Bool.not_true, Bool.not_false, decide_false, eq_self, strEq, Bool.and_self, hB1.cell, hB2.cell, hg1_7, GR]; rfl) ?_
  refine WL.qq (by simp only [EN, Nat.reduceEqDiff, reduceIte, qv_pick, pk_and, pk_or, GR, decide_true, Bool.not_true, Bool.not_false, decide_false, eq_self, strEq, Bool.and_self, hB1.cell, hB2.cell]; rfl) ?_
  refine WL.qq (by simp only [EN, Nat.reduceEqDiff, reduceIte, qv_move, decide_true, Bool.not_true, Bool.not_false, decide_false, eq_self, strEq, Bool.and_self, hB1.cell, hB2.cell]; rfl) ?_
  refine WL.cq (gd_at (t := 42) rfl (by simp only [EN, Nat.reduceEqDiff, reduceIte, e3, decide_true, Bool.not_true, Bool.not_false, decide_false, eq_self, strEq, Bool.and_self, hB1.cell, hB2.cell] <;> rfl)) (fun hg1_10 => by simp only [EN, Nat.reduceEqDiff, reduceIte, qv_move, e3, decide_true, Bool.not_true, Bool.not_false, decide_false, eq_self, strEq, Bool.and_self, hB1.cell, hB2.cell, hg1_10, GR]; rfl) ?_
  refine WL.cq (gd_at (t := 42) rfl (by simp only [EN, Nat.reduceEqDiff, reduceIte, decide_true, Bool.not_true, Bool.not_false, decide_false, eq_self, strEq, Bool.and_self, hB1.cell, hB2.cell] <;> rfl)) (fun hg1_11 => by simp only [EN, Nat.reduceEqDiff, reduceIte, qv_len, ln57, AR, decide_true, Bool.not_true, Bool.not_false, decide_false, eq_self, strEq, Bool.and_self, hB1.cell, hB2.cell, hg1_11, GR]; rfl) ?_
  refine WL.cq (gd_at (t := 42) rfl (by simp only [EN, Nat.reduceEqDiff, reduceIte, decide_true, Bool.not_true, Bool.not_false, decide_false, eq_self, strEq, Bool.and_self, hB1.cell, hB2.cell] <;> rfl)) (fun hg1_12 => by simp only [EN, Nat.reduceEqDiff, reduceIte, qv_binOp, binv_gtr, decide_true, Bool.not_true, Bool.not_false, decide_false, eq_self, strEq, Bool.and_self, hB1.cell, hB2.cell, hg1_12, GR]; rfl) ?_
  refine WL.qq (by simp only [EN, Nat.reduceEqDiff, reduceIte, qv_pick, pk_and, pk_or, GR, decide_true, Bool.not_true, Bool.not_false, decide_false, eq_self, strEq, Bool.and_self, hB1.cell, hB2.cell]; rfl) ?_
  refine WL.qq (by simp only [EN, Nat.reduceEqDiff, reduceIte, qv_move, decide_true, Bool.not_true, Bool.not_false, decide_false, eq_self, strEq, Bool.and_self, hB1.cell, hB2.cell]; rfl) ?_
  refine WL.cq (gd_at (t := 47) rfl (by simp only [EN, Nat.reduceEqDiff, reduceIte, decide_true, Bool.not_true, Bool.not_false, decide_false, eq_self, strEq, Bool.and_self, hB1.cell, hB2.cell] <;> rfl)) (fun hg1_15 => by simp only [EN, Nat.reduceEqDiff, reduceIte, qv_fieldAddr, fa62_1, Nat.zero_add, Nat.reduceAdd, decide_true, Bool.not_true, Bool.not_false, decide_false, eq_self, strEq, Bool.and_self, hB1.cell, hB2.cell, hg1_15, GR]; rfl) ?_
  refine WL.cq (gd_at (t := 47) rfl (by simp only [EN, Nat.reduceEqDiff, reduceIte, decide_true, Bool.not_true, Bool.not_false, decide_false, eq_self, strEq, Bool.and_self, hB1.cell, hB2.cell] <;> rfl)) (fun hg1_16 => by simp only [EN, Nat.reduceEqDiff, reduceIte, qv_load, ld9, readN, AR, Nat.zero_add, Nat.reduceAdd, decide_true, Bool.not_true, Bool.not_false, decide_false, eq_self, strEq, Bool.and_self, hB1.cell, hB2.cell, hg1_16, GR]; rfl) ?_
  refine WL.cq (gd_at (t := 47) rfl (by simp only [EN, Nat.reduceEqDiff, reduceIte, decide_true, Bool.not_true, Bool.not_false, decide_false, eq_self, strEq, Bool.and_self, hB1.cell, hB2.cell] <;> rfl)) (fun hg1_17 => by simp only [EN, Nat.reduceEqDiff, reduceIte, qv_len, ln9, AR, decide_true, Bool.not_true, Bool.not_false, decide_false, eq_self, strEq, Bool.and_self, hB1.cell, hB2.cell, hg1_17, GR]; rfl) ?_
  refine WL.cq (gd_at (t := 47) rfl (by simp only [EN, Nat.reduceEqDiff, reduceIte, decide_true, Bool.not_true, Bool.not_false, decide_false, eq_self, strEq, Bool.and_self, hB1.cell, hB2.cell] <;> rfl)) (fun hg1_18 => by simp only [EN, Nat.reduceEqDiff, reduceIte, qv_binOp, binv_gtr, decide_true, Bool.not_true, Bool.not_false, decide_false, eq_self, strEq, Bool.and_self, hB1.cell, hB2.cell, hg1_18, GR]; rfl) ?_
  refine WL.qq (by simp only [EN, Nat.reduceEqDiff, reduceIte, qv_pick, pk_and, pk_or, GR, decide_true, Bool.not_true, Bool.not_false, decide_false, eq_self, strEq, Bool.and_self, hB1.cell, hB2.cell]; rfl) ?_
  refine WL.nil ?_
  refine th_norm ?_
  refine hx_cond (by simp only [EN, Nat.reduceEqDiff, reduceIte, decide_true, Bool.not_true, Bool.not_false, decide_false, eq_self, strEq, Bool.and_self, hB1.cell, hB2.cell]; rfl) (fun hct52 => ?_) (fun hct52 => ?_)
  ·
    try simp only [BD] at hct52
    refine hx_seq ?_
    refine hx_region ?_
    refine WL.cg Try.call12 (by simp only [EN, Nat.reduceEqDiff, reduceIte, AR, decide_true, Bool.not_true, Bool.not_false, decide_false, eq_self, strEq, Bool.and_self, hB1.cell, hB2.cell]; exact c_known49 _) ?_
    intro h4 hx4
    replace hl := hl.ext hx4
    replace hops := hops.ext hx4
    replace hB1 := hB1.ext hx4
    replace hB2 := hB2.ext hx4
    refine WL.qq (by simp only [EN, Nat.reduceEqDiff, reduceIte, qv_assign, decide_true, Bool.not_true, Bool.not_false, decide_false, eq_self, strEq, Bool.and_self, hB1.cell, hB2.cell]; rfl) ?_
    refine WL.nil ?_
    refine th_norm ?_
    refine hx_ret ?_
    refine th_ret ?_
    refine fin_ret [.tmp 10] rfl rfl (by simp only [EN, Nat.reduceEqDiff, reduceIte, resv, e0, e1, e2, e3, e4, decide_true, Bool.not_true, Bool.not_false, decide_false, eq_self, strEq, Bool.and_self, hB1.cell, hB2.cell]; rfl) ?_  -- ret 0 r2
    exact ⟨by simp [retOf], ((hx1).trans ((hx2).trans ((hx3).trans (hx4))))⟩
  ·
    try simp only [BD] at hct52
    refine hx_skip ?_
    refine th_norm ?_
    refine hx_seq ?_
    refine hx_region ?_
    refine WL.qq (by simp only [EN, Nat.reduceEqDiff, reduceIte, qv_assign, decide_true, Bool.not_true, Bool.not_false, decide_false, eq_self, strEq, Bool.and_self, hB1.cell, hB2.cell]; rfl) ?_
    refine WL.nil ?_
    refine th_norm ?_
    refine hx_seq ?_
    refine hx_region ?_
    refine WL.qq (by simp only [EN, Nat.reduceEqDiff, reduceIte, qv_assign, decide_true, Bool.not_true, Bool.not_false, decide_false, eq_self, strEq, Bool.and_self, hB1.cell, hB2.cell]; rfl) ?_
    refine WL.nil ?_
    refine th_norm ?_
    refine hx_seq ?_
    refine hx_fresh (fun eF5 hfcf5 => ?_)
    have k0_f5 := hfcf5 0 rfl; try simp only [EN, Nat.reduceEqDiff, reduceIte, e0, decide_true, Bool.not_true, Bool.not_false, decide_false, eq_self, strEq, Bool.and_self, hB1.cell, hB2.cell] at k0_f5
    have k1_f5 := hfcf5 1 rfl; try simp only [EN, Nat.reduceEqDiff, reduceIte, e1, decide_true, Bool.not_true, Bool.not_false, decide_false, eq_self, strEq, Bool.and_self, hB1.cell, hB2.cell] at k1_f5
    have k3_f5 := hfcf5 3 rfl; try simp only [EN, Nat.reduceEqDiff, reduceIte, e3, decide_true, Bool.not_true, Bool.not_false, decide_false, eq_self, strEq, Bool.and_self, hB1.cell, hB2.cell] at k3_f5
    have k7_f5 := hfcf5 7 rfl; try simp only [EN, Nat.reduceEqDiff, reduceIte, decide_true, Bool.not_true, Bool.not_false, decide_false, eq_self, strEq, Bool.and_self, hB1.cell, hB2.cell] at k7_f5
    have k9_f5 := hfcf5 9 rfl; try simp only [EN, Nat.reduceEqDiff, reduceIte, decide_true, Bool.not_true, Bool.not_false, decide_false, eq_self, strEq, Bool.and_self, hB1.cell, hB2.cell] at k9_f5
    have k11_f5 := hfcf5 11 rfl; try simp only [EN, Nat.reduceEqDiff, reduceIte, decide_true, Bool.not_true, Bool.not_false, decide_false, eq_self, strEq, Bool.and_self, hB1.cell, hB2.cell] at k11_f5
    have k12_f5 := hfcf5 12 rfl; try simp only [EN, Nat.reduceEqDiff, reduceIte, decide_true, Bool.not_true, Bool.not_false, decide_false, eq_self, strEq, Bool.and_self, hB1.cell, hB2.cell] at k12_f5
    refine hx_region ?_
    refine WL.qq (by simp only [EN, Nat.reduceEqDiff, reduceIte, qv_move, k11_f5, decide_true, Bool.not_true, Bool.not_false, decide_false, eq_self, strEq, Bool.and_self, hB1.cell, hB2.cell]; rfl) ?_
    refine WL.qq (by simp only [EN, Nat.reduceEqDiff, reduceIte, qv_load, ld46, readN, AR, Nat.zero_add, Nat.reduceAdd, k7_f5, decide_true, Bool.not_true, Bool.not_false, decide_false, eq_self, strEq, Bool.and_self, hB1.cell, hB2.cell]; rfl) ?_
    refine WL.cg Try.call16 (by simp only [EN, Nat.reduceEqDiff, reduceIte, AR, decide_true, Bool.not_true, Bool.not_false, decide_false, eq_self, strEq, Bool.and_self, hB1.cell, hB2.cell]; exact n_AccR x) ?_
    intro h5 hx5
    replace hl := hl.ext hx5
    replace hops := hops.ext hx5
    replace hB1 := hB1.ext hx5
    replace hB2 := hB2.ext hx5
    refine WL.qq (by simp only [EN, Nat.reduceEqDiff, reduceIte, qv_move, decide_true, Bool.not_true, Bool.not_false, decide_false, eq_self, strEq, Bool.and_self, hB1.cell, hB2.cell]; rfl) ?_
    refine WL.qq (by simp only [EN, Nat.reduceEqDiff, reduceIte, qv_extract, AR, decide_true, Bool.not_true, Bool.not_false, decide_false, eq_self, strEq, Bool.and_self, hB1.cell, hB2.cell]; rfl) ?_
    refine WL.qq (by simp only [EN, Nat.reduceEqDiff, reduceIte, qv_extract, AR, decide_true, Bool.not_true, Bool.not_false, decide_false, eq_self, strEq, Bool.and_self, hB1.cell, hB2.cell]; rfl) ?_
    refine WL.qq (by simp only [EN, Nat.reduceEqDiff, reduceIte, qv_assign, decide_true, Bool.not_true, Bool.not_false, decide_false, eq_self, strEq, Bool.and_self, hB1.cell, hB2.cell]; rfl) ?_
    refine WL.qq (by simp only [EN, Nat.reduceEqDiff, reduceIte, qv_assign, decide_true, Bool.not_true, Bool.not_false, decide_false, eq_self, strEq, Bool.and_self, hB1.cell, hB2.cell]; rfl) ?_
    refine WL.nil ?_
    refine th_norm ?_
    refine hx_seq ?_
    refine hx_region ?_
    refine WL.qq (by simp only [EN, Nat.reduceEqDiff, reduceIte, qv_move, k12_f5, decide_true, Bool.not_true, Bool.not_false, decide_false, eq_self, strEq, Bool.and_self, hB1.cell, hB2.cell]; rfl) ?_
    refine WL.qq (by simp only [EN, Nat.reduceEqDiff, reduceIte, qv_fieldAddr, fa62_1, Nat.zero_add, Nat.reduceAdd, k9_f5, decide_true, Bool.not_true, Bool.not_false, decide_false, eq_self, strEq, Bool.and_self, hB1.cell, hB2.cell]; rfl) ?_
    refine WL.qq (by simp only [EN, Nat.reduceEqDiff, reduceIte, qv_load, ld9, readN, AR, Nat.zero_add, Nat.reduceAdd, decide_true, Bool.not_true, Bool.not_false, decide_false, eq_self, strEq, Bool.and_self, hB1.cell, hB2.cell]; rfl) ?_
    refine WL.cg Try.call22 (by simp only [EN, Nat.reduceEqDiff, reduceIte, AR, decide_true, Bool.not_true, Bool.not_false, decide_false, eq_self, strEq, Bool.and_self, hB1.cell, hB2.cell]; exact n_Send o.s _) ?_
    intro h6 hx6
    replace hl := hl.ext hx6
    replace hops := hops.ext hx6
    replace hB1 := hB1.ext hx6
    replace hB2 := hB2.ext hx6
    refine WL.qq (by simp only [EN, Nat.reduceEqDiff, reduceIte, qv_move, decide_true, Bool.not_true, Bool.not_false, decide_false, eq_self, strEq, Bool.and_self, hB1.cell, hB2.cell]; rfl) ?_
    refine WL.qq (by simp only [EN, Nat.reduceEqDiff, reduceIte, qv_extract, AR, decide_true, Bool.not_true, Bool.not_false, decide_false, eq_self, strEq, Bool.and_self, hB1.cell, hB2.cell]; rfl) ?_
    refine WL.qq (by simp only [EN, Nat.reduceEqDiff, reduceIte, qv_extract, AR, decide_true, Bool.not_true, Bool.not_false, decide_false, eq_self, strEq, Bool.and_self, hB1.cell, hB2.cell]; rfl) ?_
    refine WL.allocSt zr43 sz43 (fun u => by simp only [EN, Nat.reduceEqDiff, reduceIte, Value.cells, decide_true, Bool.not_true, Bool.not_false, decide_false, eq_self, strEq, Bool.and_self, hB1.cell, hB2.cell]; rfl) ⟨rfl, rfl⟩ (by simp [Value.oneCell']) ?_
    intro h7 B7 hx7 hlt7 hB7
    replace hl := hl.ext hx7
    replace hops := hops.ext hx7
    replace hB1 := hB1.ext hx7
    replace hB2 := hB2.ext hx7
    refine WL.qq (by simp only [EN, Nat.reduceEqDiff, reduceIte, qv_assign, decide_true, Bool.not_true, Bool.not_false, decide_false, eq_self, strEq, Bool.and_self, hB1.cell, hB2.cell, hB7.cell]; rfl) ?_
    refine WL.nil ?_
    refine th_norm ?_
    refine hx_seq ?_
    refine hx_region ?_
    refine WL.qq (by simp only [EN, Nat.reduceEqDiff, reduceIte, qv_move, k12_f5, decide_true, Bool.not_true, Bool.not_false, decide_false, eq_self, strEq, Bool.and_self, hB1.cell, hB2.cell, hB7.cell]; rfl) ?_
    refine WL.qq (by simp only [EN, Nat.reduceEqDiff, reduceIte, qv_fieldAddr, fa62_2, Nat.zero_add, Nat.reduceAdd, k9_f5, decide_true, Bool.not_true, Bool.not_false, decide_false, eq_self, strEq, Bool.and_self, hB1.cell, hB2.cell, hB7.cell]; rfl) ?_
    refine WL.qq (by simp only [EN, Nat.reduceEqDiff, reduceIte, qv_load, ld3, readN, AR, Nat.zero_add, Nat.reduceAdd, decide_true, Bool.not_true, Bool.not_false, decide_false, eq_self, strEq, Bool.and_self, hB1.cell, hB2.cell, hB7.cell]; rfl) ?_
    refine WL.qq (by simp only [EN, Nat.reduceEqDiff, reduceIte, qv_fieldAddr, fa62_3, Nat.zero_add, Nat.reduceAdd, k9_f5, decide_true, Bool.not_true, Bool.not_false, decide_false, eq_self, strEq, Bool.and_self, hB1.cell, hB2.cell, hB7.cell]; rfl) ?_
    refine WL.qq (by simp only [EN, Nat.reduceEqDiff, reduceIte, qv_load, ld3, readN, AR, Nat.zero_add, Nat.reduceAdd, decide_true, Bool.not_true, Bool.not_false, decide_false, eq_self, strEq, Bool.and_self, hB1.cell, hB2.cell, hB7.cell]; rfl) ?_
    refine WL.qq (by refine qv_bld (by simp only [EN, Nat.reduceEqDiff, reduceIte, AR, decide_true, Bool.not_true, Bool.not_false, decide_false, eq_self, strEq, Bool.and_self, hB1.cell, hB2.cell, hB7.cell] <;> rfl) (by rw [bl70]; simp [Instr.fill, Value.cells]; rfl)) ?_
    refine WL.cg Try.call28 (by simp only [EN, Nat.reduceEqDiff, reduceIte, AR, decide_true, Bool.not_true, Bool.not_false, decide_false, eq_self, strEq, Bool.and_self, hB1.cell, hB2.cell, hB7.cell]; exact n_Resend o.a o.b _) ?_
    intro h8 hx8
    replace hl := hl.ext hx8
    replace hops := hops.ext hx8
    replace hB1 := hB1.ext hx8
    replace hB2 := hB2.ext hx8
    replace hB7 := hB7.ext hx8
    refine WL.qq (by simp only [EN, Nat.reduceEqDiff, reduceIte, qv_move, decide_true, Bool.not_true, Bool.not_false, decide_false, eq_self, strEq, Bool.and_self, hB1.cell, hB2.cell, hB7.cell]; rfl) ?_
    refine WL.qq (by simp only [EN, Nat.reduceEqDiff, reduceIte, qv_extract, AR, decide_true, Bool.not_true, Bool.not_false, decide_false, eq_self, strEq, Bool.and_self, hB1.cell, hB2.cell, hB7.cell]; rfl) ?_
    refine WL.qq (by simp only [EN, Nat.reduceEqDiff, reduceIte, qv_extract, AR, decide_true, Bool.not_true, Bool.not_false, decide_false, eq_self, strEq, Bool.and_self, hB1.cell, hB2.cell, hB7.cell]; rfl) ?_
    refine WL.qq (by simp only [EN, Nat.reduceEqDiff, reduceIte, qv_assign, decide_true, Bool.not_true, Bool.not_false, decide_false, eq_self, strEq, Bool.and_self, hB1.cell, hB2.cell, hB7.cell]; rfl) ?_
    refine WL.qq (by simp only [EN, Nat.reduceEqDiff, reduceIte, qv_assign, decide_true, Bool.not_true, Bool.not_false, decide_false, eq_self, strEq, Bool.and_self, hB1.cell, hB2.cell, hB7.cell]; rfl) ?_
    refine WL.nil ?_
    refine th_norm ?_
    refine hx_seq ?_
    refine hx_seq ?_
    refine hx_fresh (fun eF8 hfcf8 => ?_)
    have k0_f8 := hfcf8 0 rfl; try simp only [EN, Nat.reduceEqDiff, reduceIte, k0_f5, decide_true, Bool.not_true, Bool.not_false, decide_false, eq_self, strEq, Bool.and_self, hB1.cell, hB2.cell, hB7.cell] at k0_f8
    have k1_f8 := hfcf8 1 rfl; try simp only [EN, Nat.reduceEqDiff, reduceIte, k1_f5, decide_true, Bool.not_true, Bool.not_false, decide_false, eq_self, strEq, Bool.and_self, hB1.cell, hB2.cell, hB7.cell] at k1_f8
    have k3_f8 := hfcf8 3 rfl; try simp only [EN, Nat.reduceEqDiff, reduceIte, k3_f5, decide_true, Bool.not_true, Bool.not_false, decide_false, eq_self, strEq, Bool.and_self, hB1.cell, hB2.cell, hB7.cell] at k3_f8
    have k7_f8 := hfcf8 7 rfl; try simp only [EN, Nat.reduceEqDiff, reduceIte, k7_f5, decide_true, Bool.not_true, Bool.not_false, decide_false, eq_self, strEq, Bool.and_self, hB1.cell, hB2.cell, hB7.cell] at k7_f8
    have k9_f8 := hfcf8 9 rfl; try simp only [EN, Nat.reduceEqDiff, reduceIte, k9_f5, decide_true, Bool.not_true, Bool.not_false, decide_false, eq_self, strEq, Bool.and_self, hB1.cell, hB2.cell, hB7.cell] at k9_f8
    have k11_f8 := hfcf8 11 rfl; try simp only [EN, Nat.reduceEqDiff, reduceIte, k11_f5, decide_true, Bool.not_true, Bool.not_false, decide_false, eq_self, strEq, Bool.and_self, hB1.cell, hB2.cell, hB7.cell] at k11_f8
    have k12_f8 := hfcf8 12 rfl; try simp only [EN, Nat.reduceEqDiff, reduceIte, k12_f5, decide_true, Bool.not_true, Bool.not_false, decide_false, eq_self, strEq, Bool.and_self, hB1.cell, hB2.cell, hB7.cell] at k12_f8
    have k13_f8 := hfcf8 13 rfl; try simp only [EN, Nat.reduceEqDiff, reduceIte, decide_true, Bool.not_true, Bool.not_false, decide_false, eq_self, strEq, Bool.and_self, hB1.cell, hB2.cell, hB7.cell] at k13_f8
    have k14_f8 := hfcf8 14 rfl; try simp only [EN, Nat.reduceEqDiff, reduceIte, decide_true, Bool.not_true, Bool.not_false, decide_false, eq_self, strEq, Bool.and_self, hB1.cell, hB2.cell, hB7.cell] at k14_f8
    have k15_f8 := hfcf8 15 rfl; try simp only [EN, Nat.reduceEqDiff, reduceIte, decide_true, Bool.not_true, Bool.not_false, decide_false, eq_self, strEq, Bool.and_self, hB1.cell, hB2.cell, hB7.cell] at k15_f8
    have k16_f8 := hfcf8 16 rfl; try simp only [EN, Nat.reduceEqDiff, reduceIte, decide_true, Bool.not_true, Bool.not_false, decide_false, eq_self, strEq, Bool.and_self, hB1.cell, hB2.cell, hB7.cell] at k16_f8
    have k17_f8 := hfcf8 17 rfl; try simp only [EN, Nat.reduceEqDiff, reduceIte, decide_true, Bool.not_true, Bool.not_false, decide_false, eq_self, strEq, Bool.and_self, hB1.cell, hB2.cell, hB7.cell] at k17_f8
    have k18_f8 := hfcf8 18 rfl; try simp only [EN, Nat.reduceEqDiff, reduceIte, decide_true, Bool.not_true, Bool.not_false, decide_false, eq_self, strEq, Bool.and_self, hB1.cell, hB2.cell, hB7.cell] at k18_f8
    refine hx_region ?_
    refine WL.qq (by simp only [EN, Nat.reduceEqDiff, reduceIte, qv_move, k13_f8, decide_true, Bool.not_true, Bool.not_false, decide_false, eq_self, strEq, Bool.and_self, hB1.cell, hB2.cell, hB7.cell]; rfl) ?_
    refine WL.qq (by simp only [EN, Nat.reduceEqDiff, reduceIte, qv_len, ln31, AR, decide_true, Bool.not_true, Bool.not_false, decide_false, eq_self, strEq, Bool.and_self, hB1.cell, hB2.cell, hB7.cell]; rfl) ?_
    refine WL.qq (by simp only [EN, Nat.reduceEqDiff, reduceIte, qv_binOp, binv_neq, eq3, Option.map_some, decide_true, Bool.not_true, Bool.not_false, decide_false, eq_self, strEq, Bool.and_self, hB1.cell, hB2.cell, hB7.cell]; rfl) ?_
    refine WL.qq (by simp only [EN, Nat.reduceEqDiff, reduceIte, qv_move, decide_true, Bool.not_true, Bool.not_false, decide_false, eq_self, strEq, Bool.and_self, hB1.cell, hB2.cell, hB7.cell]; rfl) ?_
    refine WL.on (by rw [gOk_s (gd_at (t := 80) rfl (by simp only [EN, Nat.reduceEqDiff, reduceIte, k14_f8, decide_true, Bool.not_true, Bool.not_false, decide_false, eq_self, strEq, Bool.and_self, hB1.cell, hB2.cell, hB7.cell] <;> rfl))]; rfl) ?_
    refine WL.qq (by simp only [EN, Nat.reduceEqDiff, reduceIte, qv_move, k14_f8, decide_true, Bool.not_true, Bool.not_false, decide_false, eq_self, strEq, Bool.and_self, hB1.cell, hB2.cell, hB7.cell]; rfl) ?_
    refine WL.on (by rw [gOk_s (gd_at (t := 80) rfl (by simp only [EN, Nat.reduceEqDiff, reduceIte, decide_true, Bool.not_true, Bool.not_false, decide_false, eq_self, strEq, Bool.and_self, hB1.cell, hB2.cell, hB7.cell] <;> rfl))]; rfl) ?_
    refine WL.qq (by simp only [EN, Nat.reduceEqDiff, reduceIte, qv_binOp, binv_neq, eq37, Option.map_some, decide_true, Bool.not_true, Bool.not_false, decide_false, eq_self, strEq, Bool.and_self, hB1.cell, hB2.cell, hB7.cell]; rfl) ?_
    refine WL.qq (by simp only [EN, Nat.reduceEqDiff, reduceIte, qv_pick, pk_and, pk_or, GR, decide_true, Bool.not_true, Bool.not_false, decide_false, eq_self, strEq, Bool.and_self, hB1.cell, hB2.cell, hB7.cell]; rfl) ?_
    refine WL.qq (by simp only [EN, Nat.reduceEqDiff, reduceIte, qv_move, decide_true, Bool.not_true, Bool.not_false, decide_false, eq_self, strEq, Bool.and_self, hB1.cell, hB2.cell, hB7.cell]; rfl) ?_
    refine WL.on (by rw [gOk_s (gd_at (t := 84) rfl (by simp only [EN, Nat.reduceEqDiff, reduceIte, k15_f8, decide_true, Bool.not_true, Bool.not_false, decide_false, eq_self, strEq, Bool.and_self, hB1.cell, hB2.cell, hB7.cell] <;> rfl))]; rfl) ?_
    refine WL.qq (by simp only [EN, Nat.reduceEqDiff, reduceIte, qv_load, ld43, readN, AR, Nat.zero_add, Nat.reduceAdd, k15_f8, decide_true, Bool.not_true, Bool.not_false, decide_false, eq_self, strEq, Bool.and_self, hB1.cell, hB2.cell, hB7.cell]; rfl) ?_
    refine WL.on (by rw [gOk_s (gd_at (t := 84) rfl (by simp only [EN, Nat.reduceEqDiff, reduceIte, decide_true, Bool.not_true, Bool.not_false, decide_false, eq_self, strEq, Bool.and_self, hB1.cell, hB2.cell, hB7.cell] <;> rfl))]; rfl) ?_
    refine WL.qq (by refine qv_bld (by simp only [EN, Nat.reduceEqDiff, reduceIte, AR, decide_true, Bool.not_true, Bool.not_false, decide_false, eq_self, strEq, Bool.and_self, hB1.cell, hB2.cell, hB7.cell] <;> rfl) (by rw [bl43]; simp [Instr.fill, Value.cells]; rfl)) ?_
    refine WL.on (by rw [gOk_s (gd_at (t := 84) rfl (by simp only [EN, Nat.reduceEqDiff, reduceIte, decide_true, Bool.not_true, Bool.not_false, decide_false, eq_self, strEq, Bool.and_self, hB1.cell, hB2.cell, hB7.cell] <;> rfl))]; rfl) ?_
    refine WL.qq (by simp only [EN, Nat.reduceEqDiff, reduceIte, qv_binOp, binv_neq, eqs43, Option.map_some, decide_true, Bool.not_true, Bool.not_false, decide_false, eq_self, strEq, Bool.and_self, hB1.cell, hB2.cell, hB7.cell]; rfl) ?_
    refine WL.qq (by simp only [EN, Nat.reduceEqDiff, reduceIte, qv_pick, pk_and, pk_or, GR, decide_true, Bool.not_true, Bool.not_false, decide_false, eq_self, strEq, Bool.and_self, hB1.cell, hB2.cell, hB7.cell]; rfl) ?_
    refine WL.qq (by simp only [EN, Nat.reduceEqDiff, reduceIte, qv_move, decide_true, Bool.not_true, Bool.not_false, decide_false, eq_self, strEq, Bool.and_self, hB1.cell, hB2.cell, hB7.cell]; rfl) ?_
    refine WL.on (by rw [gOk_s (gd_at (t := 89) rfl (by simp only [EN, Nat.reduceEqDiff, reduceIte, k16_f8, decide_true, Bool.not_true, Bool.not_false, decide_false, eq_self, strEq, Bool.and_self, hB1.cell, hB2.cell, hB7.cell] <;> rfl))]; rfl) ?_
    refine WL.qq (by simp only [EN, Nat.reduceEqDiff, reduceIte, qv_move, k16_f8, decide_true, Bool.not_true, Bool.not_false, decide_false, eq_self, strEq, Bool.and_self, hB1.cell, hB2.cell, hB7.cell]; rfl) ?_
    refine WL.on (by rw [gOk_s (gd_at (t := 89) rfl (by simp only [EN, Nat.reduceEqDiff, reduceIte, decide_true, Bool.not_true, Bool.not_false, decide_false, eq_self, strEq, Bool.and_self, hB1.cell, hB2.cell, hB7.cell] <;> rfl))]; rfl) ?_
    refine WL.qq (by simp only [EN, Nat.reduceEqDiff, reduceIte, qv_binOp, binv_neq, eq37, Option.map_some, decide_true, Bool.not_true, Bool.not_false, decide_false, eq_self, strEq, Bool.and_self, hB1.cell, hB2.cell, hB7.cell]; rfl) ?_
    refine WL.qq (by simp only [EN, Nat.reduceEqDiff, reduceIte, qv_pick, pk_and, pk_or, GR, decide_true, Bool.not_true, Bool.not_false, decide_false, eq_self, strEq, Bool.and_self, hB1.cell, hB2.cell, hB7.cell]; rfl) ?_
    refine WL.qq (by simp only [EN, Nat.reduceEqDiff, reduceIte, qv_move, decide_true, Bool.not_true, Bool.not_false, decide_false, eq_self, strEq, Bool.and_self, hB1.cell, hB2.cell, hB7.cell]; rfl) ?_
    refine WL.on (by rw [gOk_s (gd_at (t := 93) rfl (by simp only [EN, Nat.reduceEqDiff, reduceIte, k17_f8, decide_true, Bool.not_true, Bool.not_false, decide_false, eq_self, strEq, Bool.and_self, hB1.cell, hB2.cell, hB7.cell] <;> rfl))]; rfl) ?_
    refine WL.qq (by simp only [EN, Nat.reduceEqDiff, reduceIte, qv_move, k17_f8, decide_true, Bool.not_true, Bool.not_false, decide_false, eq_self, strEq, Bool.and_self, hB1.cell, hB2.cell, hB7.cell]; rfl) ?_
    refine WL.on (by rw [gOk_s (gd_at (t := 93) rfl (by simp only [EN, Nat.reduceEqDiff, reduceIte, decide_true, Bool.not_true, Bool.not_false, decide_false, eq_self, strEq, Bool.and_self, hB1.cell, hB2.cell, hB7.cell] <;> rfl))]; rfl) ?_
    refine WL.qq (by simp only [EN, Nat.reduceEqDiff, reduceIte, qv_len, ln34, AR, decide_true, Bool.not_true, Bool.not_false, decide_false, eq_self, strEq, Bool.and_self, hB1.cell, hB2.cell, hB7.cell]; rfl) ?_
    refine WL.on (by rw [gOk_s (gd_at (t := 93) rfl (by simp only [EN, Nat.reduceEqDiff, reduceIte, decide_true, Bool.not_true, Bool.not_false, decide_false, eq_self, strEq, Bool.and_self, hB1.cell, hB2.cell, hB7.cell] <;> rfl))]; rfl) ?_
    refine WL.qq (by simp only [EN, Nat.reduceEqDiff, reduceIte, qv_binOp, binv_neq, eq3, Option.map_some, decide_true, Bool.not_true, Bool.not_false, decide_false, eq_self, strEq, Bool.and_self, hB1.cell, hB2.cell, hB7.cell]; rfl) ?_
    refine WL.qq (by simp only [EN, Nat.reduceEqDiff, reduceIte, qv_pick, pk_and, pk_or, GR, decide_true, Bool.not_true, Bool.not_false, decide_false, eq_self, strEq, Bool.and_self, hB1.cell, hB2.cell, hB7.cell]; rfl) ?_
    refine WL.qq (by simp only [EN, Nat.reduceEqDiff, reduceIte, qv_move, decide_true, Bool.not_true, Bool.not_false, decide_false, eq_self, strEq, Bool.and_self, hB1.cell, hB2.cell, hB7.cell]; rfl) ?_
    refine WL.on (by rw [gOk_s (gd_at (t := 98) rfl (by simp only [EN, Nat.reduceEqDiff, reduceIte, k18_f8, decide_true, Bool.not_true, Bool.not_false, decide_false, eq_self, strEq, Bool.and_self, hB1.cell, hB2.cell, hB7.cell] <;> rfl))]; rfl) ?_
    refine WL.qq (by simp only [EN, Nat.reduceEqDiff, reduceIte, qv_move, k18_f8, decide_true, Bool.not_true, Bool.not_false, decide_false, eq_self, strEq, Bool.and_self, hB1.cell, hB2.cell, hB7.cell]; rfl) ?_
    refine WL.on (by rw [gOk_s (gd_at (t := 98) rfl (by simp only [EN, Nat.reduceEqDiff, reduceIte, decide_true, Bool.not_true, Bool.not_false, decide_false, eq_self, strEq, Bool.and_self, hB1.cell, hB2.cell, hB7.cell] <;> rfl))]; rfl) ?_
    refine WL.qq (by simp only [EN, Nat.reduceEqDiff, reduceIte, qv_binOp, binv_neq, eq37, Option.map_some, decide_true, Bool.not_true, Bool.not_false, decide_false, eq_self, strEq, Bool.and_self, hB1.cell, hB2.cell, hB7.cell]; rfl) ?_
    refine WL.qq (by simp only [EN, Nat.reduceEqDiff, reduceIte, qv_pick, pk_and, pk_or, GR, decide_true, Bool.not_true, Bool.not_false, decide_false, eq_self, strEq, Bool.and_self, hB1.cell, hB2.cell, hB7.cell]; rfl) ?_
    refine WL.qq (by simp only [EN, Nat.reduceEqDiff, reduceIte, qv_move, decide_true, Bool.not_true, Bool.not_false, decide_false, eq_self, strEq, Bool.and_self, hB1.cell, hB2.cell, hB7.cell]; rfl) ?_
    refine WL.on (by rw [gOk_s (gd_at (t := 102) rfl (by simp only [EN, Nat.reduceEqDiff, reduceIte, k12_f8, decide_true, Bool.not_true, Bool.not_false, decide_false, eq_self, strEq, Bool.and_self, hB1.cell, hB2.cell, hB7.cell] <;> rfl))]; rfl) ?_
    refine WL.qq (by simp only [EN, Nat.reduceEqDiff, reduceIte, qv_move, k12_f8, decide_true, Bool.not_true, Bool.not_false, decide_false, eq_self, strEq, Bool.and_self, hB1.cell, hB2.cell, hB7.cell]; rfl) ?_
    refine WL.on (by rw [gOk_s (gd_at (t := 102) rfl (by simp only [EN, Nat.reduceEqDiff, reduceIte, k9_f8, decide_true, Bool.not_true, Bool.not_false, decide_false, eq_self, strEq, Bool.and_self, hB1.cell, hB2.cell, hB7.cell] <;> rfl))]; rfl) ?_
    refine WL.qq (by simp only [EN, Nat.reduceEqDiff, reduceIte, qv_fieldAddr, fa62_2, Nat.zero_add, Nat.reduceAdd, k9_f8, decide_true, Bool.not_true, Bool.not_false, decide_false, eq_self, strEq, Bool.and_self, hB1.cell, hB2.cell, hB7.cell]; rfl) ?_
    refine WL.on (by rw [gOk_s (gd_at (t := 102) rfl (by simp only [EN, Nat.reduceEqDiff, reduceIte, decide_true, Bool.not_true, Bool.not_false, decide_false, eq_self, strEq, Bool.and_self, hB1.cell, hB2.cell, hB7.cell] <;> rfl))]; rfl) ?_
    refine WL.qq (by simp only [EN, Nat.reduceEqDiff, reduceIte, qv_load, ld3, readN, AR, Nat.zero_add, Nat.reduceAdd, decide_true, Bool.not_true, Bool.not_false, decide_false, eq_self, strEq, Bool.and_self, hB1.cell, hB2.cell, hB7.cell]; rfl) ?_
    refine WL.on (by rw [gOk_s (gd_at (t := 102) rfl (by simp only [EN, Nat.reduceEqDiff, reduceIte, decide_true, Bool.not_true, Bool.not_false, decide_false, eq_self, strEq, Bool.and_self, hB1.cell, hB2.cell, hB7.cell] <;> rfl))]; rfl) ?_
    refine WL.ck Try.call23 (by simp only [EN, Nat.reduceEqDiff, reduceIte, AR, decide_true, Bool.not_true, Bool.not_false, decide_false, eq_self, strEq, Bool.and_self, hB1.cell, hB2.cell, hB7.cell]; exact n_Ack o.a _) ?_
    refine WL.on (by rw [gOk_s (gd_at (t := 102) rfl (by simp only [EN, Nat.reduceEqDiff, reduceIte, decide_true, Bool.not_true, Bool.not_false, decide_false, eq_self, strEq, Bool.and_self, hB1.cell, hB2.cell, hB7.cell] <;> rfl))]; rfl) ?_
    refine WL.qq (by simp only [EN, Nat.reduceEqDiff, reduceIte, qv_binOp, binv_neq, eq37, Option.map_some, decide_true, Bool.not_true, Bool.not_false, decide_false, eq_self, strEq, Bool.and_self, hB1.cell, hB2.cell, hB7.cell]; rfl) ?_
    refine WL.qq (by simp only [EN, Nat.reduceEqDiff, reduceIte, qv_pick, pk_and, pk_or, GR, decide_true, Bool.not_true, Bool.not_false, decide_false, eq_self, strEq, Bool.and_self, hB1.cell, hB2.cell, hB7.cell]; rfl) ?_
    refine WL.qq (by simp only [EN, Nat.reduceEqDiff, reduceIte, qv_move, decide_true, Bool.not_true, Bool.not_false, decide_false, eq_self, strEq, Bool.and_self, hB1.cell, hB2.cell, hB7.cell]; rfl) ?_
    refine WL.on (by rw [gOk_s (gd_at (t := 109) rfl (by simp only [EN, Nat.reduceEqDiff, reduceIte, k11_f8, decide_true, Bool.not_true, Bool.not_false, decide_false, eq_self, strEq, Bool.and_self, hB1.cell, hB2.cell, hB7.cell] <;> rfl))]; rfl) ?_
    refine WL.qq (by simp only [EN, Nat.reduceEqDiff, reduceIte, qv_move, k11_f8, decide_true, Bool.not_true, Bool.not_false, decide_false, eq_self, strEq, Bool.and_self, hB1.cell, hB2.cell, hB7.cell]; rfl) ?_
    refine WL.on (by rw [gOk_s (gd_at (t := 109) rfl (by simp only [EN, Nat.reduceEqDiff, reduceIte, decide_true, Bool.not_true, Bool.not_false, decide_false, eq_self, strEq, Bool.and_self, hB1.cell, hB2.cell, hB7.cell] <;> rfl))]; rfl) ?_
    refine WL.ck Try.call17 (by simp only [EN, Nat.reduceEqDiff, reduceIte, AR, decide_true, Bool.not_true, Bool.not_false, decide_false, eq_self, strEq, Bool.and_self, hB1.cell, hB2.cell, hB7.cell]; exact n_NextR) ?_
    refine WL.on (by rw [gOk_s (gd_at (t := 109) rfl (by simp only [EN, Nat.reduceEqDiff, reduceIte, decide_true, Bool.not_true, Bool.not_false, decide_false, eq_self, strEq, Bool.and_self, hB1.cell, hB2.cell, hB7.cell] <;> rfl))]; rfl) ?_
    refine WL.qq (by simp only [EN, Nat.reduceEqDiff, reduceIte, qv_binOp, binv_neq, eq3, Option.map_some, decide_true, Bool.not_true, Bool.not_false, decide_false, eq_self, strEq, Bool.and_self, hB1.cell, hB2.cell, hB7.cell]; rfl) ?_
    refine WL.qq (by simp only [EN, Nat.reduceEqDiff, reduceIte, qv_pick, pk_and, pk_or, GR, decide_true, Bool.not_true, Bool.not_false, decide_false, eq_self, strEq, Bool.and_self, hB1.cell, hB2.cell, hB7.cell]; rfl) ?_
    refine WL.qq (by simp only [EN, Nat.reduceEqDiff, reduceIte, qv_move, decide_true, Bool.not_true, Bool.not_false, decide_false, eq_self, strEq, Bool.and_self, hB1.cell, hB2.cell, hB7.cell]; rfl) ?_
    refine WL.on (by rw [gOk_s (gd_at (t := 114) rfl (by simp only [EN, Nat.reduceEqDiff, reduceIte, k12_f8, decide_true, Bool.not_true, Bool.not_false, decide_false, eq_self, strEq, Bool.and_self, hB1.cell, hB2.cell, hB7.cell] <;> rfl))]; rfl) ?_
    refine WL.qq (by simp only [EN, Nat.reduceEqDiff, reduceIte, qv_move, k12_f8, decide_true, Bool.not_true, Bool.not_false, decide_false, eq_self, strEq, Bool.and_self, hB1.cell, hB2.cell, hB7.cell]; rfl) ?_
    refine WL.on (by rw [gOk_s (gd_at (t := 114) rfl (by simp only [EN, Nat.reduceEqDiff, reduceIte, decide_true, Bool.not_true, Bool.not_false, decide_false, eq_self, strEq, Bool.and_self, hB1.cell, hB2.cell, hB7.cell] <;> rfl))]; rfl) ?_
    refine WL.ck Try.call26 (by simp only [EN, Nat.reduceEqDiff, reduceIte, AR, decide_true, Bool.not_true, Bool.not_false, decide_false, eq_self, strEq, Bool.and_self, hB1.cell, hB2.cell, hB7.cell]; exact n_NextS _) ?_
    refine WL.on (by rw [gOk_s (gd_at (t := 114) rfl (by simp only [EN, Nat.reduceEqDiff, reduceIte, decide_true, Bool.not_true, Bool.not_false, decide_false, eq_self, strEq, Bool.and_self, hB1.cell, hB2.cell, hB7.cell] <;> rfl))]; rfl) ?_
    refine WL.qq (by simp only [EN, Nat.reduceEqDiff, reduceIte, qv_binOp, binv_neq, eq3, Option.map_some, decide_true, Bool.not_true, Bool.not_false, decide_false, eq_self, strEq, Bool.and_self, hB1.cell, hB2.cell, hB7.cell]; rfl) ?_
    refine WL.qq (by simp only [EN, Nat.reduceEqDiff, reduceIte, qv_pick, pk_and, pk_or, GR, decide_true, Bool.not_true, Bool.not_false, decide_false, eq_self, strEq, Bool.and_self, hB1.cell, hB2.cell, hB7.cell]; rfl) ?_
    refine WL.qq (by simp only [EN, Nat.reduceEqDiff, reduceIte, qv_move, decide_true, Bool.not_true, Bool.not_false, decide_false, eq_self, strEq, Bool.and_self, hB1.cell, hB2.cell, hB7.cell]; rfl) ?_
    refine WL.on (by rw [gOk_s (gd_at (t := 119) rfl (by simp only [EN, Nat.reduceEqDiff, reduceIte, k11_f8, decide_true, Bool.not_true, Bool.not_false, decide_false, eq_self, strEq, Bool.and_self, hB1.cell, hB2.cell, hB7.cell] <;> rfl))]; rfl) ?_
    refine WL.qq (by simp only [EN, Nat.reduceEqDiff, reduceIte, qv_move, k11_f8, decide_true, Bool.not_true, Bool.not_false, decide_false, eq_self, strEq, Bool.and_self, hB1.cell, hB2.cell, hB7.cell]; rfl) ?_
    refine WL.on (by rw [gOk_s (gd_at (t := 119) rfl (by simp only [EN, Nat.reduceEqDiff, reduceIte, decide_true, Bool.not_true, Bool.not_false, decide_false, eq_self, strEq, Bool.and_self, hB1.cell, hB2.cell, hB7.cell] <;> rfl))]; rfl) ?_
    refine WL.ck Try.call29 (by simp only [EN, Nat.reduceEqDiff, reduceIte, AR, decide_true, Bool.not_true, Bool.not_false, decide_false, eq_self, strEq, Bool.and_self, hB1.cell, hB2.cell, hB7.cell]; exact n_MissR) ?_
    refine WL.on (by rw [gOk_s (gd_at (t := 119) rfl (by simp only [EN, Nat.reduceEqDiff, reduceIte, decide_true, Bool.not_true, Bool.not_false, decide_false, eq_self, strEq, Bool.and_self, hB1.cell, hB2.cell, hB7.cell] <;> rfl))]; rfl) ?_
    refine WL.qq (by simp only [EN, Nat.reduceEqDiff, reduceIte, qv_len, ln71, AR, decide_true, Bool.not_true, Bool.not_false, decide_false, eq_self, strEq, Bool.and_self, hB1.cell, hB2.cell, hB7.cell]; rfl) ?_
    refine WL.on (by rw [gOk_s (gd_at (t := 119) rfl (by simp only [EN, Nat.reduceEqDiff, reduceIte, decide_true, Bool.not_true, Bool.not_false, decide_false, eq_self, strEq, Bool.and_self, hB1.cell, hB2.cell, hB7.cell] <;> rfl))]; rfl) ?_
    refine WL.qq (by simp only [EN, Nat.reduceEqDiff, reduceIte, qv_binOp, binv_neq, eq3, Option.map_some, decide_true, Bool.not_true, Bool.not_false, decide_false, eq_self, strEq, Bool.and_self, hB1.cell, hB2.cell, hB7.cell]; rfl) ?_
    refine WL.qq (by simp only [EN, Nat.reduceEqDiff, reduceIte, qv_pick, pk_and, pk_or, GR, decide_true, Bool.not_true, Bool.not_false, decide_false, eq_self, strEq, Bool.and_self, hB1.cell, hB2.cell, hB7.cell]; rfl) ?_
    refine WL.qq (by simp only [EN, Nat.reduceEqDiff, reduceIte, qv_move, decide_true, Bool.not_true, Bool.not_false, decide_false, eq_self, strEq, Bool.and_self, hB1.cell, hB2.cell, hB7.cell]; rfl) ?_
    refine WL.on (by rw [gOk_s (gd_at (t := 125) rfl (by simp only [EN, Nat.reduceEqDiff, reduceIte, k11_f8, decide_true, Bool.not_true, Bool.not_false, decide_false, eq_self, strEq, Bool.and_self, hB1.cell, hB2.cell, hB7.cell] <;> rfl))]; rfl) ?_
    refine WL.qq (by simp only [EN, Nat.reduceEqDiff, reduceIte, qv_move, k11_f8, decide_true, Bool.not_true, Bool.not_false, decide_false, eq_self, strEq, Bool.and_self, hB1.cell, hB2.cell, hB7.cell]; rfl) ?_
    refine WL.on (by rw [gOk_s (gd_at (t := 125) rfl (by simp only [EN, Nat.reduceEqDiff, reduceIte, decide_true, Bool.not_true, Bool.not_false, decide_false, eq_self, strEq, Bool.and_self, hB1.cell, hB2.cell, hB7.cell] <;> rfl))]; rfl) ?_
    refine WL.ck Try.call30 (by simp only [EN, Nat.reduceEqDiff, reduceIte, AR, decide_true, Bool.not_true, Bool.not_false, decide_false, eq_self, strEq, Bool.and_self, hB1.cell, hB2.cell, hB7.cell]; exact n_BufR) ?_
    refine WL.on (by rw [gOk_s (gd_at (t := 125) rfl (by simp only [EN, Nat.reduceEqDiff, reduceIte, decide_true, Bool.not_true, Bool.not_false, decide_false, eq_self, strEq, Bool.and_self, hB1.cell, hB2.cell, hB7.cell] <;> rfl))]; rfl) ?_
    refine WL.qq (by simp only [EN, Nat.reduceEqDiff, reduceIte, qv_binOp, binv_neq, eq3, Option.map_some, decide_true, Bool.not_true, Bool.not_false, decide_false, eq_self, strEq, Bool.and_self, hB1.cell, hB2.cell, hB7.cell]; rfl) ?_
    refine WL.qq (by simp only [EN, Nat.reduceEqDiff, reduceIte, qv_pick, pk_and, pk_or, GR, decide_true, Bool.not_true, Bool.not_false, decide_false, eq_self, strEq, Bool.and_self, hB1.cell, hB2.cell, hB7.cell]; rfl) ?_
    refine WL.qq (by simp only [EN, Nat.reduceEqDiff, reduceIte, qv_move, decide_true, Bool.not_true, Bool.not_false, decide_false, eq_self, strEq, Bool.and_self, hB1.cell, hB2.cell, hB7.cell]; rfl) ?_
    refine WL.on (by rw [gOk_s (gd_at (t := 130) rfl (by simp only [EN, Nat.reduceEqDiff, reduceIte, k12_f8, decide_true, Bool.not_true, Bool.not_false, decide_false, eq_self, strEq, Bool.and_self, hB1.cell, hB2.cell, hB7.cell] <;> rfl))]; rfl) ?_
    refine WL.qq (by simp only [EN, Nat.reduceEqDiff, reduceIte, qv_move, k12_f8, decide_true, Bool.not_true, Bool.not_false, decide_false, eq_self, strEq, Bool.and_self, hB1.cell, hB2.cell, hB7.cell]; rfl) ?_
    refine WL.on (by rw [gOk_s (gd_at (t := 130) rfl (by simp only [EN, Nat.reduceEqDiff, reduceIte, decide_true, Bool.not_true, Bool.not_false, decide_false, eq_self, strEq, Bool.and_self, hB1.cell, hB2.cell, hB7.cell] <;> rfl))]; rfl) ?_
    refine WL.ck Try.call21 (by simp only [EN, Nat.reduceEqDiff, reduceIte, AR, decide_true, Bool.not_true, Bool.not_false, decide_false, eq_self, strEq, Bool.and_self, hB1.cell, hB2.cell, hB7.cell]; exact n_Pend _) ?_
    refine WL.on (by rw [gOk_s (gd_at (t := 130) rfl (by simp only [EN, Nat.reduceEqDiff, reduceIte, decide_true, Bool.not_true, Bool.not_false, decide_false, eq_self, strEq, Bool.and_self, hB1.cell, hB2.cell, hB7.cell] <;> rfl))]; rfl) ?_
    refine WL.qq (by simp only [EN, Nat.reduceEqDiff, reduceIte, qv_len, ln34, AR, decide_true, Bool.not_true, Bool.not_false, decide_false, eq_self, strEq, Bool.and_self, hB1.cell, hB2.cell, hB7.cell]; rfl) ?_
    refine WL.on (by rw [gOk_s (gd_at (t := 130) rfl (by simp only [EN, Nat.reduceEqDiff, reduceIte, decide_true, Bool.not_true, Bool.not_false, decide_false, eq_self, strEq, Bool.and_self, hB1.cell, hB2.cell, hB7.cell] <;> rfl))]; rfl) ?_
    refine WL.qq (by simp only [EN, Nat.reduceEqDiff, reduceIte, qv_binOp, binv_neq, eq3, Option.map_some, decide_true, Bool.not_true, Bool.not_false, decide_false, eq_self, strEq, Bool.and_self, hB1.cell, hB2.cell, hB7.cell]; rfl) ?_
    refine WL.qq (by simp only [EN, Nat.reduceEqDiff, reduceIte, qv_pick, pk_and, pk_or, GR, decide_true, Bool.not_true, Bool.not_false, decide_false, eq_self, strEq, Bool.and_self, hB1.cell, hB2.cell, hB7.cell]; rfl) ?_
    refine WL.qq (by simp only [EN, Nat.reduceEqDiff, reduceIte, qv_move, decide_true, Bool.not_true, Bool.not_false, decide_false, eq_self, strEq, Bool.and_self, hB1.cell, hB2.cell, hB7.cell]; rfl) ?_
    refine WL.on (by rw [gOk_s (gd_at (t := 136) rfl (by simp only [EN, Nat.reduceEqDiff, reduceIte, k11_f8, decide_true, Bool.not_true, Bool.not_false, decide_false, eq_self, strEq, Bool.and_self, hB1.cell, hB2.cell, hB7.cell] <;> rfl))]; rfl) ?_
    refine WL.qq (by simp only [EN, Nat.reduceEqDiff, reduceIte, qv_move, k11_f8, decide_true, Bool.not_true, Bool.not_false, decide_false, eq_self, strEq, Bool.and_self, hB1.cell, hB2.cell, hB7.cell]; rfl) ?_
    refine WL.on (by rw [gOk_s (gd_at (t := 136) rfl (by simp only [EN, Nat.reduceEqDiff, reduceIte, decide_true, Bool.not_true, Bool.not_false, decide_false, eq_self, strEq, Bool.and_self, hB1.cell, hB2.cell, hB7.cell] <;> rfl))]; rfl) ?_
    refine WL.ck Try.call18 (by simp only [EN, Nat.reduceEqDiff, reduceIte, AR, decide_true, Bool.not_true, Bool.not_false, decide_false, eq_self, strEq, Bool.and_self, hB1.cell, hB2.cell, hB7.cell]; exact n_CloneR) ?_
    refine WL.on (by rw [gOk_s (gd_at (t := 136) rfl (by simp only [EN, Nat.reduceEqDiff, reduceIte, decide_true, Bool.not_true, Bool.not_false, decide_false, eq_self, strEq, Bool.and_self, hB1.cell, hB2.cell, hB7.cell] <;> rfl))]; rfl) ?_
    refine WL.qq (by simp only [EN, Nat.reduceEqDiff, reduceIte, qv_binOp, binv_neq, eqz25, eqn25, eqm25, Option.map_some, decide_true, Bool.not_true, Bool.not_false, decide_false, eq_self, strEq, Bool.and_self, hB1.cell, hB2.cell, hB7.cell]; rfl) ?_
    refine WL.qq (by simp only [EN, Nat.reduceEqDiff, reduceIte, qv_pick, pk_and, pk_or, GR, decide_true, Bool.not_true, Bool.not_false, decide_false, eq_self, strEq, Bool.and_self, hB1.cell, hB2.cell, hB7.cell]; rfl) ?_
    refine WL.qq (by simp only [EN, Nat.reduceEqDiff, reduceIte, qv_move, decide_true, Bool.not_true, Bool.not_false, decide_false, eq_self, strEq, Bool.and_self, hB1.cell, hB2.cell, hB7.cell]; rfl) ?_
    refine WL.on (by rw [gOk_s (gd_at (t := 141) rfl (by simp only [EN, Nat.reduceEqDiff, reduceIte, k12_f8, decide_true, Bool.not_true, Bool.not_false, decide_false, eq_self, strEq, Bool.and_self, hB1.cell, hB2.cell, hB7.cell] <;> rfl))]; rfl) ?_
    refine WL.qq (by simp only [EN, Nat.reduceEqDiff, reduceIte, qv_move, k12_f8, decide_true, Bool.not_true, Bool.not_false, decide_false, eq_self, strEq, Bool.and_self, hB1.cell, hB2.cell, hB7.cell]; rfl) ?_
    refine WL.on (by rw [gOk_s (gd_at (t := 141) rfl (by simp only [EN, Nat.reduceEqDiff, reduceIte, decide_true, Bool.not_true, Bool.not_false, decide_false, eq_self, strEq, Bool.and_self, hB1.cell, hB2.cell, hB7.cell] <;> rfl))]; rfl) ?_
    refine WL.ck Try.call31 (by simp only [EN, Nat.reduceEqDiff, reduceIte, AR, decide_true, Bool.not_true, Bool.not_false, decide_false, eq_self, strEq, Bool.and_self, hB1.cell, hB2.cell, hB7.cell]; exact n_CloneS _) ?_
    refine WL.on (by rw [gOk_s (gd_at (t := 141) rfl (by simp only [EN, Nat.reduceEqDiff, reduceIte, decide_true, Bool.not_true, Bool.not_false, decide_false, eq_self, strEq, Bool.and_self, hB1.cell, hB2.cell, hB7.cell] <;> rfl))]; rfl) ?_
    refine WL.qq (by simp only [EN, Nat.reduceEqDiff, reduceIte, qv_binOp, binv_neq, eqz33, eqn33, eqm33, Option.map_some, decide_true, Bool.not_true, Bool.not_false, decide_false, eq_self, strEq, Bool.and_self, hB1.cell, hB2.cell, hB7.cell]; rfl) ?_
    refine WL.qq (by simp only [EN, Nat.reduceEqDiff, reduceIte, qv_pick, pk_and, pk_or, GR, decide_true, Bool.not_true, Bool.not_false, decide_false, eq_self, strEq, Bool.and_self, hB1.cell, hB2.cell, hB7.cell]; rfl) ?_
    refine WL.qq (by simp only [EN, Nat.reduceEqDiff, reduceIte, qv_move, decide_true, Bool.not_true, Bool.not_false, decide_false, eq_self, strEq, Bool.and_self, hB1.cell, hB2.cell, hB7.cell]; rfl) ?_
    refine WL.on (by rw [gOk_s (gd_at (t := 146) rfl (by simp only [EN, Nat.reduceEqDiff, reduceIte, k11_f8, decide_true, Bool.not_true, Bool.not_false, decide_false, eq_self, strEq, Bool.and_self, hB1.cell, hB2.cell, hB7.cell] <;> rfl))]; rfl) ?_
    refine WL.qq (by simp only [EN, Nat.reduceEqDiff, reduceIte, qv_move, k11_f8, decide_true, Bool.not_true, Bool.not_false, decide_false, eq_self, strEq, Bool.and_self, hB1.cell, hB2.cell, hB7.cell]; rfl) ?_
    refine WL.on (by rw [gOk_s (gd_at (t := 146) rfl (by simp only [EN, Nat.reduceEqDiff, reduceIte, decide_true, Bool.not_true, Bool.not_false, decide_false, eq_self, strEq, Bool.and_self, hB1.cell, hB2.cell, hB7.cell] <;> rfl))]; rfl) ?_
    refine WL.ck Try.call19 (by simp only [EN, Nat.reduceEqDiff, reduceIte, AR, decide_true, Bool.not_true, Bool.not_false, decide_false, eq_self, strEq, Bool.and_self, hB1.cell, hB2.cell, hB7.cell]; exact n_eqNN) ?_
    refine WL.on (by rw [gOk_s (gd_at (t := 146) rfl (by simp only [EN, Nat.reduceEqDiff, reduceIte, decide_true, Bool.not_true, Bool.not_false, decide_false, eq_self, strEq, Bool.and_self, hB1.cell, hB2.cell, hB7.cell] <;> rfl))]; rfl) ?_
    refine WL.qq (by simp only [EN, Nat.reduceEqDiff, reduceIte, qv_unOp, unv_not, decide_true, Bool.not_true, Bool.not_false, decide_false, eq_self, strEq, Bool.and_self, hB1.cell, hB2.cell, hB7.cell]; rfl) ?_
    refine WL.qq (by simp only [EN, Nat.reduceEqDiff, reduceIte, qv_pick, pk_and, pk_or, GR, decide_true, Bool.not_true, Bool.not_false, decide_false, eq_self, strEq, Bool.and_self, hB1.cell, hB2.cell, hB7.cell]; rfl) ?_
    refine WL.qq (by simp only [EN, Nat.reduceEqDiff, reduceIte, qv_move, decide_true, Bool.not_true, Bool.not_false, decide_false, eq_self, strEq, Bool.and_self, hB1.cell, hB2.cell, hB7.cell]; rfl) ?_
    refine WL.on (by rw [gOk_s (gd_at (t := 151) rfl (by simp only [EN, Nat.reduceEqDiff, reduceIte, k12_f8, decide_true, Bool.not_true, Bool.not_false, decide_false, eq_self, strEq, Bool.and_self, hB1.cell, hB2.cell, hB7.cell] <;> rfl))]; rfl) ?_
    refine WL.qq (by simp only [EN, Nat.reduceEqDiff, reduceIte, qv_move, k12_f8, decide_true, Bool.not_true, Bool.not_false, decide_false, eq_self, strEq, Bool.and_self, hB1.cell, hB2.cell, hB7.cell]; rfl) ?_
    refine WL.on (by rw [gOk_s (gd_at (t := 151) rfl (by simp only [EN, Nat.reduceEqDiff, reduceIte, decide_true, Bool.not_true, Bool.not_false, decide_false, eq_self, strEq, Bool.and_self, hB1.cell, hB2.cell, hB7.cell] <;> rfl))]; rfl) ?_
    refine WL.ck Try.call32 (by simp only [EN, Nat.reduceEqDiff, reduceIte, AR, decide_true, Bool.not_true, Bool.not_false, decide_false, eq_self, strEq, Bool.and_self, hB1.cell, hB2.cell, hB7.cell]; exact n_eqSNN _) ?_
    refine WL.on (by rw [gOk_s (gd_at (t := 151) rfl (by simp only [EN, Nat.reduceEqDiff, reduceIte, decide_true, Bool.not_true, Bool.not_false, decide_false, eq_self, strEq, Bool.and_self, hB1.cell, hB2.cell, hB7.cell] <;> rfl))]; rfl) ?_
    refine WL.qq (by simp only [EN, Nat.reduceEqDiff, reduceIte, qv_unOp, unv_not, decide_true, Bool.not_true, Bool.not_false, decide_false, eq_self, strEq, Bool.and_self, hB1.cell, hB2.cell, hB7.cell]; rfl) ?_
    refine WL.qq (by simp only [EN, Nat.reduceEqDiff, reduceIte, qv_pick, pk_and, pk_or, GR, decide_true, Bool.not_true, Bool.not_false, decide_false, eq_self, strEq, Bool.and_self, hB1.cell, hB2.cell, hB7.cell]; rfl) ?_
    refine WL.nil ?_
    refine th_norm ?_
    refine hx_cond (by simp only [EN, Nat.reduceEqDiff, reduceIte, decide_true, Bool.not_true, Bool.not_false, decide_false, eq_self, strEq, Bool.and_self, hB1.cell, hB2.cell, hB7.cell]; rfl) (fun hct155 => ?_) (fun hct155 => ?_)
    ·
      simp at hct155
    ·
      try simp only [BD] at hct155
      refine hx_skip ?_
      refine th_norm ?_
      refine hx_seq ?_
      refine hx_fresh (fun eF10 hfcf10 => ?_)
      have k0_f10 := hfcf10 0 rfl; try simp only [EN, Nat.reduceEqDiff, reduceIte, k0_f8, decide_true, Bool.not_true, Bool.not_false, decide_false, eq_self, strEq, Bool.and_self, hB1.cell, hB2.cell, hB7.cell] at k0_f10
      have k1_f10 := hfcf10 1 rfl; try simp only [EN, Nat.reduceEqDiff, reduceIte, k1_f8, decide_true, Bool.not_true, Bool.not_false, decide_false, eq_self, strEq, Bool.and_self, hB1.cell, hB2.cell, hB7.cell] at k1_f10
      have k3_f10 := hfcf10 3 rfl; try simp only [EN, Nat.reduceEqDiff, reduceIte, k3_f8, decide_true, Bool.not_true, Bool.not_false, decide_false, eq_self, strEq, Bool.and_self, hB1.cell, hB2.cell, hB7.cell] at k3_f10
      have k7_f10 := hfcf10 7 rfl; try simp only [EN, Nat.reduceEqDiff, reduceIte, k7_f8, decide_true, Bool.not_true, Bool.not_false, decide_false, eq_self, strEq, Bool.and_self, hB1.cell, hB2.cell, hB7.cell] at k7_f10
      have k9_f10 := hfcf10 9 rfl; try simp only [EN, Nat.reduceEqDiff, reduceIte, k9_f8, decide_true, Bool.not_true, Bool.not_false, decide_false, eq_self, strEq, Bool.and_self, hB1.cell, hB2.cell, hB7.cell] at k9_f10
      have k11_f10 := hfcf10 11 rfl; try simp only [EN, Nat.reduceEqDiff, reduceIte, k11_f8, decide_true, Bool.not_true, Bool.not_false, decide_false, eq_self, strEq, Bool.and_self, hB1.cell, hB2.cell, hB7.cell] at k11_f10
      have k12_f10 := hfcf10 12 rfl; try simp only [EN, Nat.reduceEqDiff, reduceIte, k12_f8, decide_true, Bool.not_true, Bool.not_false, decide_false, eq_self, strEq, Bool.and_self, hB1.cell, hB2.cell, hB7.cell] at k12_f10
      refine hx_region ?_
      refine WL.qq (by simp only [EN, Nat.reduceEqDiff, reduceIte, qv_move, k0_f10, decide_true, Bool.not_true, Bool.not_false, decide_false, eq_self, strEq, Bool.and_self, hB1.cell, hB2.cell, hB7.cell]; rfl) ?_
      refine WL.qq (by simp only [EN, Nat.reduceEqDiff, reduceIte, qv_move, k1_f10, decide_true, Bool.not_true, Bool.not_false, decide_false, eq_self, strEq, Bool.and_self, hB1.cell, hB2.cell, hB7.cell]; rfl) ?_
      refine WL.cg Try.call13 (by simp only [EN, Nat.reduceEqDiff, reduceIte, AR, decide_true, Bool.not_true, Bool.not_false, decide_false, eq_self, strEq, Bool.and_self, hB1.cell, hB2.cell, hB7.cell]; exact c_receiverN w hw al l cl) ?_
      intro h9 hx9
      replace hl := hl.ext hx9
      replace hops := hops.ext hx9
      replace hB1 := hB1.ext hx9
      replace hB2 := hB2.ext hx9
      replace hB7 := hB7.ext hx9
      refine WL.qq (by simp only [EN, Nat.reduceEqDiff, reduceIte, qv_move, decide_true, Bool.not_true, Bool.not_false, decide_false, eq_self, strEq, Bool.and_self, hB1.cell, hB2.cell, hB7.cell]; rfl) ?_
      refine WL.qq (by simp only [EN, Nat.reduceEqDiff, reduceIte, qv_extract, AR, decide_true, Bool.not_true, Bool.not_false, decide_false, eq_self, strEq, Bool.and_self, hB1.cell, hB2.cell, hB7.cell]; rfl) ?_
      refine WL.qq (by simp only [EN, Nat.reduceEqDiff, reduceIte, qv_extract, AR, decide_true, Bool.not_true, Bool.not_false, decide_false, eq_self, strEq, Bool.and_self, hB1.cell, hB2.cell, hB7.cell]; rfl) ?_
      refine WL.qq (by simp only [EN, Nat.reduceEqDiff, reduceIte, qv_extract, AR, decide_true, Bool.not_true, Bool.not_false, decide_false, eq_self, strEq, Bool.and_self, hB1.cell, hB2.cell, hB7.cell]; rfl) ?_
      have hzz := Ext.size ((hx1).trans ((hx2).trans ((hx3).trans ((hx5).trans ((hx6).trans ((hx7).trans ((hx8).trans (hx9))))))))
      refine WL.alloc2 zr27 ?_
      intro h10 B10 hx10 hlt10 hB10
      replace hl := hl.ext hx10
      replace hops := hops.ext hx10
      replace hB1 := hB1.ext hx10
      replace hB2 := hB2.ext hx10
      replace hB7 := hB7.ext hx10
      simp only [Value.cells] at hB10
      refine WL.qq (by simp only [EN, Nat.reduceEqDiff, reduceIte, qv_assign, decide_true, Bool.not_true, Bool.not_false, decide_false, eq_self, strEq, Bool.and_self, hB1.cell, hB2.cell, hB7.cell, hB10.cell]; rfl) ?_
      refine WL.store (by simp only [EN, Nat.reduceEqDiff, reduceIte, k0_f10, k1_f10, k3_f10, k7_f10, k9_f10, k11_f10, k12_f10, decide_true, Bool.not_true, Bool.not_false, decide_false, eq_self, strEq, Bool.and_self, hB1.cell, hB2.cell, hB7.cell, hB10.cell] <;> rfl) sz27 (by simp only [EN, Nat.reduceEqDiff, reduceIte, k0_f10, k1_f10, k3_f10, k7_f10, k9_f10, k11_f10, k12_f10, decide_true, Bool.not_true, Bool.not_false, decide_false, eq_self, strEq, Bool.and_self, hB1.cell, hB2.cell, hB7.cell, hB10.cell, Value.cells]; rfl) rfl hB10 (by simp) (by intro u hu; simp at hu; rcases hu with rfl | rfl | rfl <;> rfl) ?_
      intro h60 hw60
      have hE9 := hw60.ext ((hx1).trans ((hx2).trans ((hx3).trans ((hx5).trans ((hx6).trans ((hx7).trans ((hx8).trans ((hx9).trans (hx10))))))))) (by omega)
      refine WL.qq (by simp only [EN, Nat.reduceEqDiff, reduceIte, qv_assign, decide_true, Bool.not_true, Bool.not_false, decide_false, eq_self, strEq, Bool.and_self, hB1.cell, hB2.cell, hB7.cell, hB10.cell]; rfl) ?_
      refine WL.nil ?_
      refine th_norm ?_
      refine hx_seq ?_
      refine hx_seq ?_
      refine hx_region ?_
      refine WL.qq (by simp only [EN, Nat.reduceEqDiff, reduceIte, qv_move, decide_true, Bool.not_true, Bool.not_false, decide_false, eq_self, strEq, Bool.and_self, hB1.cell, hB2.cell, hB7.cell, hB10.cell]; rfl) ?_
      refine WL.qq (by simp only [EN, Nat.reduceEqDiff, reduceIte, qv_binOp, binv_eql, eqz25, eqn25, eqm25, Option.map_some, decide_true, Bool.not_true, Bool.not_false, decide_false, eq_self, strEq, Bool.and_self, hB1.cell, hB2.cell, hB7.cell, hB10.cell]; rfl) ?_
      refine WL.nil ?_
      refine th_norm ?_
      refine hx_cond (by simp only [EN, Nat.reduceEqDiff, reduceIte, decide_true, Bool.not_true, Bool.not_false, decide_false, eq_self, strEq, Bool.and_self, hB1.cell, hB2.cell, hB7.cell, hB10.cell]; rfl) (fun hct164 => ?_) (fun hct164 => ?_)
      ·
        try simp only [BD] at hct164
        refine hx_seq ?_
        refine hx_region ?_
        refine WL.qq (by simp only [EN, Nat.reduceEqDiff, reduceIte, qv_move, decide_true, Bool.not_true, Bool.not_false, decide_false, eq_self, strEq, Bool.and_self, hB1.cell, hB2.cell, hB7.cell, hB10.cell]; rfl) ?_
        refine WL.qq (by simp only [EN, Nat.reduceEqDiff, reduceIte, qv_move, decide_true, Bool.not_true, Bool.not_false, decide_false, eq_self, strEq, Bool.and_self, hB1.cell, hB2.cell, hB7.cell, hB10.cell]; rfl) ?_
        refine WL.ccg (gd_at (t := 166) rfl (by simp only [EN, Nat.reduceEqDiff, reduceIte, decide_true, Bool.not_true, Bool.not_false, decide_false, eq_self, strEq, Bool.and_self, hB1.cell, hB2.cell, hB7.cell, hB10.cell] <;> rfl)) Try.call12 (fun hg12_2 => by simp only [EN, Nat.reduceEqDiff, reduceIte, AR, decide_true, Bool.not_true, Bool.not_false, decide_false, eq_self, strEq, Bool.and_self, hB1.cell, hB2.cell, hB7.cell, hB10.cell, hg12_2, GR]; exact c_known49 _) ?_
        intro h11 hx11
        refine WL.qq (by simp only [EN, Nat.reduceEqDiff, reduceIte, qv_pick, pk_and, pk_or, GR, decide_true, Bool.not_true, Bool.not_false, decide_false, eq_self, strEq, Bool.and_self, hB1.cell, hB2.cell, hB7.cell, hB10.cell]; rfl) ?_
        refine WL.qq (by simp only [EN, Nat.reduceEqDiff, reduceIte, qv_assign, decide_true, Bool.not_true, Bool.not_false, decide_false, eq_self, strEq, Bool.and_self, hB1.cell, hB2.cell, hB7.cell, hB10.cell]; rfl) ?_
        refine WL.nil ?_
        refine th_norm ?_
        refine hx_ret ?_
        refine th_ret ?_
        refine fin_ret [.tmp 10] rfl rfl (by simp only [EN, Nat.reduceEqDiff, reduceIte, resv, k0_f10, k1_f10, k3_f10, k7_f10, k9_f10, k11_f10, k12_f10, decide_true, Bool.not_true, Bool.not_false, decide_false, eq_self, strEq, Bool.and_self, hB1.cell, hB2.cell, hB7.cell, hB10.cell]; rfl) ?_  -- ret 1 r12
        exact ⟨by simp [retOf], hE9.trans hx11⟩
      ·
        simp at hct164
set_option maxHeartbeats 4000000 in
theorem l_nil49 (w : Int) (hw : 1 ≤ w ∧ w ≤ 256) (al : Option Addr) (l : List M2) (cl : Nat) (x : M2) (ao : Option Addr) (os : List SOp) (co : Nat) (o : SOp) (hoo : SOk o) {h : Heap} (hl : SlG 2 msgL h al l) (ll : l.length ≤ 9223372036854775807) (hops : SlG 4 opL h ao os) (lo : os.length ≤ 9223372036854775807) (hok : ∀ o ∈ os, SOk o) :
    HCalls Try.prog 10 #[iV w, .slice al l.length cl, .agg (msgL x).toArray, .slice ao os.length co, .agg (opL o).toArray] h (Grow (.bool true) h) := by
  have kl := hl
  have kops := hops
  have heqS : ∀ (w n a : Int) (K : List M2), decide (eqS w n a K w n a K) = true := fun w n a K => decide_eq_true ⟨rfl, rfl, rfl, rfl⟩
  refine hcalls2 Try.func10 rfl (by decide +kernel) (by simp only [Try.ntmps10]; exact of_decide_eq_true rfl) ?_
  intro e hin
  have e0 := hin 0 _ rfl
  have e1 := hin 1 _ rfl
  have e2 := hin 2 _ rfl
  have e3 := hin 3 _ rfl
  have e4 := hin 4 _ rfl
  refine hx_seq ?_
  refine hx_region ?_
  refine WL.box2 (by simp only [EN, Nat.reduceEqDiff, reduceIte, Value.cells, e2, decide_true, Bool.not_true, Bool.not_false, decide_false, eq_self, strEq, Bool.and_self, heqS]; rfl) ?_
  intro h1 B1 hx1 hlt1 hB1
  replace hl := hl.ext hx1
  replace hops := hops.ext hx1
  refine WL.box2 (by simp only [EN, Nat.reduceEqDiff, reduceIte, Value.cells, e4, decide_true, Bool.not_true, Bool.not_false, decide_false, eq_self, strEq, Bool.and_self, heqS, hB1.cell]; rfl) ?_
  intro h2 B2 hx2 hlt2 hB2
  replace hl := hl.ext hx2
  replace hops := hops.ext hx2
  replace hB1 := hB1.ext hx2
  refine WL.qq (by simp only [EN, Nat.reduceEqDiff, reduceIte, qv_assign, decide_true, Bool.not_true, Bool.not_false, decide_false, eq_self, strEq, Bool.and_self, heqS, hB1.cell, hB2.cell]; rfl) ?_
  refine WL.nil ?_
  refine th_norm ?_
  refine hx_seq ?_
  refine hx_seq ?_
  refine hx_region ?_
  refine WL.qq (by simp only [EN, Nat.reduceEqDiff, reduceIte, qv_move, e1, decide_true, Bool.not_true, Bool.not_false, decide_false, eq_self, strEq, Bool.and_self, heqS, hB1.cell, hB2.cell]; rfl) ?_
  refine WL.ck Try.call11 (by simp only [EN, Nat.reduceEqDiff, reduceIte, AR, decide_true, Bool.not_true, Bool.not_false, decide_false, eq_self, strEq, Bool.and_self, heqS, hB1.cell, hB2.cell]; exact c_few al l cl ll hl) ?_
  refine WL.qq (by simp only [EN, Nat.reduceEqDiff, reduceIte, qv_unOp, unv_not, decide_true, Bool.not_true, Bool.not_false, decide_false, eq_self, strEq, Bool.and_self, heqS, hB1.cell, hB2.cell]; rfl) ?_
  refine WL.qq (by simp only [EN, Nat.reduceEqDiff, reduceIte, qv_move, decide_true, Bool.not_true, Bool.not_false, decide_false, eq_self, strEq, Bool.and_self, heqS, hB1.cell, hB2.cell]; rfl) ?_
  refine WL.cq (gd_at (t := 36) rfl (by simp only [EN, Nat.reduceEqDiff, reduceIte, decide_true, Bool.not_true, Bool.not_false, decide_false, eq_self, strEq, Bool.and_self, heqS, hB1.cell, hB2.cell] <;> rfl)) (fun hg1_4 => by simp only [EN, Nat.reduceEqDiff, reduceIte, qv_load, ld46, readN, AR, Nat.zero_add, Nat.reduceAdd, decide_true, Bool.not_true, Bool.not_false, decide_false, eq_self, strEq, Bool.and_self, heqS, hB1.cell, hB2.cell, hg1_4, GR]; rfl) ?_
  refine WL.geX (gd_at (t := 36) rfl (by simp only [EN, Nat.reduceEqDiff, reduceIte, decide_true, Bool.not_true, Bool.not_false, decide_false, eq_self, strEq, Bool.and_self, heqS, hB1.cell, hB2.cell] <;> rfl)) (fun hg1_5 => e_lit1X Try.underlying22 sz46 zr46 (by decide) (by simp only [EN, Nat.reduceEqDiff, reduceIte, Value.cells, decide_true, Bool.not_true, Bool.not_false, decide_false, eq_self, strEq, Bool.and_self, heqS, hB1.cell, hB2.cell, hg1_5, GR]; rfl) rfl) ?_
  intro v1_5 h3 hx3 w1_5 n1_5
  replace hl := hl.ext hx3
  replace hops := hops.ext hx3
  replace hB1 := hB1.ext hx3
  replace hB2 := hB2.ext hx3
  refine WL.cck (gd_at (t := 36) rfl (by simp only [EN, Nat.reduceEqDiff, reduceIte, decide_true, Bool.not_true, Bool.not_false, decide_false, eq_self, strEq, Bool.and_self, heqS, hB1.cell, hB2.cell] <;> rfl)) Try.call11 (fun hg1_6 => by simp only [EN, Nat.reduceEqDiff, reduceIte, AR, decide_true, Bool.not_true, Bool.not_false, decide_false, eq_self, strEq, Bool.and_self, heqS, hB1.cell, hB2.cell, hg1_6, GR]; exact c_few1 (w1_5 (by simpa using hg1_6))) ?_
  refine WL.cq (gd_at (t := 36) rfl (by simp only [EN, Nat.reduceEqDiff, reduceIte, decide_true, Bool.not_true, Bool.not_false, decide_false, eq_self, strEq, Bool.and_self, heqS, hB1.cell, hB2.cell] <;> rfl)) (fun hg1_7 => by simp only [EN, Nat.reduceEqDiff, reduceIte, qv_unOp, unv_not, decide_true, Bool.not_true, Bool.not_false, decide_false, eq_self, strEq, Bool.and_self, heqS, hB1.cell, hB2.cell, hg1_7, GR]; rfl) ?_
  refine WL.qq (by simp only [EN, Nat.reduceEqDiff, reduceIte, qv_pick, pk_and, pk_or, GR, decide_true, Bool.not_true, Bool.not_false, decide_false, eq_self, strEq, Bool.and_self, heqS, hB1.cell, hB2.cell]; rfl) ?_
  refine WL.qq (by simp only [EN, Nat.reduceEqDiff, reduceIte, qv_move, decide_true, Bool.not_true, Bool.not_false, decide_false, eq_self, strEq, Bool.and_self, heqS, hB1.cell, hB2.cell]; rfl) ?_
  refine WL.cq (gd_at (t := 42) rfl (by simp only [EN, Nat.reduceEqDiff, reduceIte, e3, decide_true, Bool.not_true, Bool.not_false, decide_false, eq_self, strEq, Bool.and_self, heqS, hB1.cell, hB2.cell] <;> rfl)) (fun hg1_10 => by simp only [EN, Nat.reduceEqDiff, reduceIte, qv_move, e3, decide_true, Bool.not_true, Bool.not_false, decide_false, eq_self, strEq, Bool.and_self, heqS, hB1.cell, hB2.cell, hg1_10, GR]; rfl) ?_
  refine WL.cq (gd_at (t := 42) rfl (by simp only [EN, Nat.reduceEqDiff, reduceIte, decide_true, Bool.not_true, Bool.not_false, decide_false, eq_self, strEq, Bool.and_self, heqS, hB1.cell, hB2.cell] <;> rfl)) (fun hg1_11 => by simp only [EN, Nat.reduceEqDiff, reduceIte, qv_len, ln57, AR, decide_true, Bool.not_true, Bool.not_false, decide_false, eq_self, strEq, Bool.and_self, heqS, hB1.cell, hB2.cell, hg1_11, GR]; rfl) ?_
  refine WL.cq (gd_at (t := 42) rfl (by simp only [EN, Nat.reduceEqDiff, reduceIte, decide_true, Bool.not_true, Bool.not_false, decide_false, eq_self, strEq, Bool.and_self, heqS, hB1.cell, hB2.cell] <;> rfl)) (fun hg1_12 => by simp only [EN, Nat.reduceEqDiff, reduceIte, qv_binOp, binv_gtr, decide_true, Bool.not_true, Bool.not_false, decide_false, eq_self, strEq, Bool.and_self, heqS, hB1.cell, hB2.cell, hg1_12, GR]; rfl) ?_
  refine WL.qq (by simp only [EN, Nat.reduceEqDiff, reduceIte, qv_pick, pk_and, pk_or, GR, decide_true, Bool.not_true, Bool.not_false, decide_false, eq_self, strEq, Bool.and_self, heqS, hB1.cell, hB2.cell]; rfl) ?_
  refine WL.qq (by simp only [EN, Nat.reduceEqDiff, reduceIte, qv_move, decide_true, Bool.not_true, Bool.not_false, decide_false, eq_self, strEq, Bool.and_self, heqS, hB1.cell, hB2.cell]; rfl) ?_
  refine WL.cq (gd_at (t := 47) rfl (by simp only [EN, Nat.reduceEqDiff, reduceIte, decide_true, Bool.not_true, Bool.not_false, decide_false, eq_self, strEq, Bool.and_self, heqS, hB1.cell, hB2.cell] <;> rfl)) (fun hg1_15 => by simp only [EN, Nat.reduceEqDiff, reduceIte, qv_fieldAddr, fa62_1, Nat.zero_add, Nat.reduceAdd, decide_true, Bool.not_true, Bool.not_false, decide_false, eq_self, strEq, Bool.and_self, heqS, hB1.cell, hB2.cell, hg1_15, GR]; rfl) ?_
  refine WL.cq (gd_at (t := 47) rfl (by simp only [EN, Nat.reduceEqDiff, reduceIte, decide_true, Bool.not_true, Bool.not_false, decide_false, eq_self, strEq, Bool.and_self, heqS, hB1.cell, hB2.cell] <;> rfl)) (fun hg1_16 => by simp only [EN, Nat.reduceEqDiff, reduceIte, qv_load, ld9, readN, AR, Nat.zero_add, Nat.reduceAdd, decide_true, Bool.not_true, Bool.not_false, decide_false, eq_self, strEq, Bool.and_self, heqS, hB1.cell, hB2.cell, hg1_16, GR]; rfl) ?_
  refine WL.cq (gd_at (t := 47) rfl (by simp only [EN, Nat.reduceEqDiff, reduceIte, decide_true, Bool.not_true, Bool.not_false, decide_false, eq_self, strEq, Bool.and_self, heqS, hB1.cell, hB2.cell] <;> rfl)) (fun hg1_17 => by simp only [EN, Nat.reduceEqDiff, reduceIte, qv_len, ln9, AR, decide_true, Bool.not_true, Bool.not_false, decide_false, eq_self, strEq, Bool.and_self, heqS, hB1.cell, hB2.cell, hg1_17, GR]; rfl) ?_
  refine WL.cq (gd_at (t := 47) rfl (by simp only [EN, Nat.reduceEqDiff, reduceIte, decide_true, Bool.not_true, Bool.not_false, decide_false, eq_self, strEq, Bool.and_self, heqS, hB1.cell, hB2.cell] <;> rfl)) (fun hg1_18 => by simp only [EN, Nat.reduceEqDiff, reduceIte, qv_binOp, binv_gtr, decide_true, Bool.not_true, Bool.not_false, decide_false, eq_self, strEq, Bool.and_self, heqS, hB1.cell, hB2.cell, hg1_18, GR]; rfl) ?_
  refine WL.qq (by simp only [EN, Nat.reduceEqDiff, reduceIte, qv_pick, pk_and, pk_or, GR, decide_true, Bool.not_true, Bool.not_false, decide_false, eq_self, strEq, Bool.and_self, heqS, hB1.cell, hB2.cell]; rfl) ?_
  refine WL.nil ?_
  refine th_norm ?_
  refine hx_cond (by simp only [EN, Nat.reduceEqDiff, reduceIte, decide_true, Bool.not_true, Bool.not_false, decide_false, eq_self, strEq, Bool.and_self, heqS, hB1.cell, hB2.cell]; rfl) (fun hct52 => ?_) (fun hct52 => ?_)
  ·
    try simp only [BD] at hct52
    refine hx_seq ?_
    refine hx_region ?_
    refine WL.cg Try.call12 (by simp only [EN, Nat.reduceEqDiff, reduceIte, AR, decide_true, Bool.not_true, Bool.not_false, decide_false, eq_self, strEq, Bool.and_self, heqS, hB1.cell, hB2.cell]; exact c_known49 _) ?_
    intro h4 hx4
    replace hl := hl.ext hx4
    replace hops := hops.ext hx4
    replace hB1 := hB1.ext hx4
    replace hB2 := hB2.ext hx4
    refine WL.qq (by simp only [EN, Nat.reduceEqDiff, reduceIte, qv_assign, decide_true, Bool.not_true, Bool.not_false, decide_false, eq_self, strEq, Bool.and_self, heqS, hB1.cell, hB2.cell]; rfl) ?_
    refine WL.nil ?_
    refine th_norm ?_
    refine hx_ret ?_
    refine th_ret ?_
    refine fin_ret [.tmp 10] rfl rfl (by simp only [EN, Nat.reduceEqDiff, reduceIte, resv, e0, e1, e2, e3, e4, decide_true, Bool.not_true, Bool.not_false, decide_false, eq_self, strEq, Bool.and_self, heqS, hB1.cell, hB2.cell]; rfl) ?_  -- ret 0 r2
    exact ⟨by simp [retOf], ((hx1).trans ((hx2).trans ((hx3).trans (hx4))))⟩
  ·
    try simp only [BD] at hct52
    have hfe : fewB l = true := (by cases h8 : fewB l; (rw [h8] at hct52; simp at hct52); rfl)
    obtain ⟨hl60, _⟩ := few_ok hfe
    have ho60 : os.length ≤ 60 := (by have h9 := hct52; rw [hfe] at h9; simp at h9; omega)
    obtain ⟨hG, hl0⟩ := rcF_ok w hw l
    obtain ⟨rn, hrn⟩ : ∃ n, (rcF w l).1 = n := ⟨_, rfl⟩
    obtain ⟨bf, hbf⟩ : ∃ bf, (rcF w l).2 = bf := ⟨_, rfl⟩
    rw [hrn, hbf] at hG hl0
    refine hx_skip ?_
    refine th_norm ?_
    refine hx_seq ?_
    refine hx_region ?_
    refine WL.qq (by simp only [EN, Nat.reduceEqDiff, reduceIte, qv_assign, decide_true, Bool.not_true, Bool.not_false, decide_false, eq_self, strEq, Bool.and_self, heqS, hB1.cell, hB2.cell]; rfl) ?_
    refine WL.nil ?_
    refine th_norm ?_
    refine hx_seq ?_
    refine hx_region ?_
    refine WL.qq (by simp only [EN, Nat.reduceEqDiff, reduceIte, qv_assign, decide_true, Bool.not_true, Bool.not_false, decide_false, eq_self, strEq, Bool.and_self, heqS, hB1.cell, hB2.cell]; rfl) ?_
    refine WL.nil ?_
    refine th_norm ?_
    refine hx_seq ?_
    refine hx_fresh (fun eF5 hfcf5 => ?_)
    have k0_f5 := hfcf5 0 rfl; try simp only [EN, Nat.reduceEqDiff, reduceIte, e0, decide_true, Bool.not_true, Bool.not_false, decide_false, eq_self, strEq, Bool.and_self, heqS, hB1.cell, hB2.cell] at k0_f5
    have k1_f5 := hfcf5 1 rfl; try simp only [EN, Nat.reduceEqDiff, reduceIte, e1, decide_true, Bool.not_true, Bool.not_false, decide_false, eq_self, strEq, Bool.and_self, heqS, hB1.cell, hB2.cell] at k1_f5
    have k3_f5 := hfcf5 3 rfl; try simp only [EN, Nat.reduceEqDiff, reduceIte, e3, decide_true, Bool.not_true, Bool.not_false, decide_false, eq_self, strEq, Bool.and_self, heqS, hB1.cell, hB2.cell] at k3_f5
    have k7_f5 := hfcf5 7 rfl; try simp only [EN, Nat.reduceEqDiff, reduceIte, decide_true, Bool.not_true, Bool.not_false, decide_false, eq_self, strEq, Bool.and_self, heqS, hB1.cell, hB2.cell] at k7_f5
    have k9_f5 := hfcf5 9 rfl; try simp only [EN, Nat.reduceEqDiff, reduceIte, decide_true, Bool.not_true, Bool.not_false, decide_false, eq_self, strEq, Bool.and_self, heqS, hB1.cell, hB2.cell] at k9_f5
    have k11_f5 := hfcf5 11 rfl; try simp only [EN, Nat.reduceEqDiff, reduceIte, decide_true, Bool.not_true, Bool.not_false, decide_false, eq_self, strEq, Bool.and_self, heqS, hB1.cell, hB2.cell] at k11_f5
    have k12_f5 := hfcf5 12 rfl; try simp only [EN, Nat.reduceEqDiff, reduceIte, decide_true, Bool.not_true, Bool.not_false, decide_false, eq_self, strEq, Bool.and_self, heqS, hB1.cell, hB2.cell] at k12_f5
    refine hx_region ?_
    refine WL.qq (by simp only [EN, Nat.reduceEqDiff, reduceIte, qv_move, k11_f5, decide_true, Bool.not_true, Bool.not_false, decide_false, eq_self, strEq, Bool.and_self, heqS, hB1.cell, hB2.cell]; rfl) ?_
    refine WL.qq (by simp only [EN, Nat.reduceEqDiff, reduceIte, qv_load, ld46, readN, AR, Nat.zero_add, Nat.reduceAdd, k7_f5, decide_true, Bool.not_true, Bool.not_false, decide_false, eq_self, strEq, Bool.and_self, heqS, hB1.cell, hB2.cell]; rfl) ?_
    refine WL.cg Try.call16 (by simp only [EN, Nat.reduceEqDiff, reduceIte, AR, decide_true, Bool.not_true, Bool.not_false, decide_false, eq_self, strEq, Bool.and_self, heqS, hB1.cell, hB2.cell]; exact n_AccR x) ?_
    intro h5 hx5
    replace hl := hl.ext hx5
    replace hops := hops.ext hx5
    replace hB1 := hB1.ext hx5
    replace hB2 := hB2.ext hx5
    refine WL.qq (by simp only [EN, Nat.reduceEqDiff, reduceIte, qv_move, decide_true, Bool.not_true, Bool.not_false, decide_false, eq_self, strEq, Bool.and_self, heqS, hB1.cell, hB2.cell]; rfl) ?_
    refine WL.qq (by simp only [EN, Nat.reduceEqDiff, reduceIte, qv_extract, AR, decide_true, Bool.not_true, Bool.not_false, decide_false, eq_self, strEq, Bool.and_self, heqS, hB1.cell, hB2.cell]; rfl) ?_
    refine WL.qq (by simp only [EN, Nat.reduceEqDiff, reduceIte, qv_extract, AR, decide_true, Bool.not_true, Bool.not_false, decide_false, eq_self, strEq, Bool.and_self, heqS, hB1.cell, hB2.cell]; rfl) ?_
    refine WL.qq (by simp only [EN, Nat.reduceEqDiff, reduceIte, qv_assign, decide_true, Bool.not_true, Bool.not_false, decide_false, eq_self, strEq, Bool.and_self, heqS, hB1.cell, hB2.cell]; rfl) ?_
    refine WL.qq (by simp only [EN, Nat.reduceEqDiff, reduceIte, qv_assign, decide_true, Bool.not_true, Bool.not_false, decide_false, eq_self, strEq, Bool.and_self, heqS, hB1.cell, hB2.cell]; rfl) ?_
    refine WL.nil ?_
    refine th_norm ?_
    refine hx_seq ?_
    refine hx_region ?_
    refine WL.qq (by simp only [EN, Nat.reduceEqDiff, reduceIte, qv_move, k12_f5, decide_true, Bool.not_true, Bool.not_false, decide_false, eq_self, strEq, Bool.and_self, heqS, hB1.cell, hB2.cell]; rfl) ?_
    refine WL.qq (by simp only [EN, Nat.reduceEqDiff, reduceIte, qv_fieldAddr, fa62_1, Nat.zero_add, Nat.reduceAdd, k9_f5, decide_true, Bool.not_true, Bool.not_false, decide_false, eq_self, strEq, Bool.and_self, heqS, hB1.cell, hB2.cell]; rfl) ?_
    refine WL.qq (by simp only [EN, Nat.reduceEqDiff, reduceIte, qv_load, ld9, readN, AR, Nat.zero_add, Nat.reduceAdd, decide_true, Bool.not_true, Bool.not_false, decide_false, eq_self, strEq, Bool.and_self, heqS, hB1.cell, hB2.cell]; rfl) ?_
    refine WL.cg Try.call22 (by simp only [EN, Nat.reduceEqDiff, reduceIte, AR, decide_true, Bool.not_true, Bool.not_false, decide_false, eq_self, strEq, Bool.and_self, heqS, hB1.cell, hB2.cell]; exact n_Send o.s _) ?_
    intro h6 hx6
    replace hl := hl.ext hx6
    replace hops := hops.ext hx6
    replace hB1 := hB1.ext hx6
    replace hB2 := hB2.ext hx6
    refine WL.qq (by simp only [EN, Nat.reduceEqDiff, reduceIte, qv_move, decide_true, Bool.not_true, Bool.not_false, decide_false, eq_self, strEq, Bool.and_self, heqS, hB1.cell, hB2.cell]; rfl) ?_
    refine WL.qq (by simp only [EN, Nat.reduceEqDiff, reduceIte, qv_extract, AR, decide_true, Bool.not_true, Bool.not_false, decide_false, eq_self, strEq, Bool.and_self, heqS, hB1.cell, hB2.cell]; rfl) ?_
    refine WL.qq (by simp only [EN, Nat.reduceEqDiff, reduceIte, qv_extract, AR, decide_true, Bool.not_true, Bool.not_false, decide_false, eq_self, strEq, Bool.and_self, heqS, hB1.cell, hB2.cell]; rfl) ?_
    refine WL.allocSt zr43 sz43 (fun u => by simp only [EN, Nat.reduceEqDiff, reduceIte, Value.cells, decide_true, Bool.not_true, Bool.not_false, decide_false, eq_self, strEq, Bool.and_self, heqS, hB1.cell, hB2.cell]; rfl) ⟨rfl, rfl⟩ (by simp [Value.oneCell']) ?_
    intro h7 B7 hx7 hlt7 hB7
    replace hl := hl.ext hx7
    replace hops := hops.ext hx7
    replace hB1 := hB1.ext hx7
    replace hB2 := hB2.ext hx7
    refine WL.qq (by simp only [EN, Nat.reduceEqDiff, reduceIte, qv_assign, decide_true, Bool.not_true, Bool.not_false, decide_false, eq_self, strEq, Bool.and_self, heqS, hB1.cell, hB2.cell, hB7.cell]; rfl) ?_
    refine WL.nil ?_
    refine th_norm ?_
    refine hx_seq ?_
    refine hx_region ?_
    refine WL.qq (by simp only [EN, Nat.reduceEqDiff, reduceIte, qv_move, k12_f5, decide_true, Bool.not_true, Bool.not_false, decide_false, eq_self, strEq, Bool.and_self, heqS, hB1.cell, hB2.cell, hB7.cell]; rfl) ?_
    refine WL.qq (by simp only [EN, Nat.reduceEqDiff, reduceIte, qv_fieldAddr, fa62_2, Nat.zero_add, Nat.reduceAdd, k9_f5, decide_true, Bool.not_true, Bool.not_false, decide_false, eq_self, strEq, Bool.and_self, heqS, hB1.cell, hB2.cell, hB7.cell]; rfl) ?_
    refine WL.qq (by simp only [EN, Nat.reduceEqDiff, reduceIte, qv_load, ld3, readN, AR, Nat.zero_add, Nat.reduceAdd, decide_true, Bool.not_true, Bool.not_false, decide_false, eq_self, strEq, Bool.and_self, heqS, hB1.cell, hB2.cell, hB7.cell]; rfl) ?_
    refine WL.qq (by simp only [EN, Nat.reduceEqDiff, reduceIte, qv_fieldAddr, fa62_3, Nat.zero_add, Nat.reduceAdd, k9_f5, decide_true, Bool.not_true, Bool.not_false, decide_false, eq_self, strEq, Bool.and_self, heqS, hB1.cell, hB2.cell, hB7.cell]; rfl) ?_
    refine WL.qq (by simp only [EN, Nat.reduceEqDiff, reduceIte, qv_load, ld3, readN, AR, Nat.zero_add, Nat.reduceAdd, decide_true, Bool.not_true, Bool.not_false, decide_false, eq_self, strEq, Bool.and_self, heqS, hB1.cell, hB2.cell, hB7.cell]; rfl) ?_
    refine WL.qq (by refine qv_bld (by simp only [EN, Nat.reduceEqDiff, reduceIte, AR, decide_true, Bool.not_true, Bool.not_false, decide_false, eq_self, strEq, Bool.and_self, heqS, hB1.cell, hB2.cell, hB7.cell] <;> rfl) (by rw [bl70]; simp [Instr.fill, Value.cells]; rfl)) ?_
    refine WL.cg Try.call28 (by simp only [EN, Nat.reduceEqDiff, reduceIte, AR, decide_true, Bool.not_true, Bool.not_false, decide_false, eq_self, strEq, Bool.and_self, heqS, hB1.cell, hB2.cell, hB7.cell]; exact n_Resend o.a o.b _) ?_
    intro h8 hx8
    replace hl := hl.ext hx8
    replace hops := hops.ext hx8
    replace hB1 := hB1.ext hx8
    replace hB2 := hB2.ext hx8
    replace hB7 := hB7.ext hx8
    refine WL.qq (by simp only [EN, Nat.reduceEqDiff, reduceIte, qv_move, decide_true, Bool.not_true, Bool.not_false, decide_false, eq_self, strEq, Bool.and_self, heqS, hB1.cell, hB2.cell, hB7.cell]; rfl) ?_
    refine WL.qq (by simp only [EN, Nat.reduceEqDiff, reduceIte, qv_extract, AR, decide_true, Bool.not_true, Bool.not_false, decide_false, eq_self, strEq, Bool.and_self, heqS, hB1.cell, hB2.cell, hB7.cell]; rfl) ?_
    refine WL.qq (by simp only [EN, Nat.reduceEqDiff, reduceIte, qv_extract, AR, decide_true, Bool.not_true, Bool.not_false, decide_false, eq_self, strEq, Bool.and_self, heqS, hB1.cell, hB2.cell, hB7.cell]; rfl) ?_
    refine WL.qq (by simp only [EN, Nat.reduceEqDiff, reduceIte, qv_assign, decide_true, Bool.not_true, Bool.not_false, decide_false, eq_self, strEq, Bool.and_self, heqS, hB1.cell, hB2.cell, hB7.cell]; rfl) ?_
    refine WL.qq (by simp only [EN, Nat.reduceEqDiff, reduceIte, qv_assign, decide_true, Bool.not_true, Bool.not_false, decide_false, eq_self, strEq, Bool.and_self, heqS, hB1.cell, hB2.cell, hB7.cell]; rfl) ?_
    refine WL.nil ?_
    refine th_norm ?_
    refine hx_seq ?_
    refine hx_seq ?_
    refine hx_fresh (fun eF8 hfcf8 => ?_)
    have k0_f8 := hfcf8 0 rfl; try simp only [EN, Nat.reduceEqDiff, reduceIte, k0_f5, decide_true, Bool.not_true, Bool.not_false, decide_false, eq_self, strEq, Bool.and_self, heqS, hB1.cell, hB2.cell, hB7.cell] at k0_f8
    have k1_f8 := hfcf8 1 rfl; try simp only [EN, Nat.reduceEqDiff, reduceIte, k1_f5, decide_true, Bool.not_true, Bool.not_false, decide_false, eq_self, strEq, Bool.and_self, heqS, hB1.cell, hB2.cell, hB7.cell] at k1_f8
    have k3_f8 := hfcf8 3 rfl; try simp only [EN, Nat.reduceEqDiff, reduceIte, k3_f5, decide_true, Bool.not_true, Bool.not_false, decide_false, eq_self, strEq, Bool.and_self, heqS, hB1.cell, hB2.cell, hB7.cell] at k3_f8
    have k7_f8 := hfcf8 7 rfl; try simp only [EN, Nat.reduceEqDiff, reduceIte, k7_f5, decide_true, Bool.not_true, Bool.not_false, decide_false, eq_self, strEq, Bool.and_self, heqS, hB1.cell, hB2.cell, hB7.cell] at k7_f8
    have k9_f8 := hfcf8 9 rfl; try simp only [EN, Nat.reduceEqDiff, reduceIte, k9_f5, decide_true, Bool.not_true, Bool.not_false, decide_false, eq_self, strEq, Bool.and_self, heqS, hB1.cell, hB2.cell, hB7.cell] at k9_f8
    have k11_f8 := hfcf8 11 rfl; try simp only [EN, Nat.reduceEqDiff, reduceIte, k11_f5, decide_true, Bool.not_true, Bool.not_false, decide_false, eq_self, strEq, Bool.and_self, heqS, hB1.cell, hB2.cell, hB7.cell] at k11_f8
    have k12_f8 := hfcf8 12 rfl; try simp only [EN, Nat.reduceEqDiff, reduceIte, k12_f5, decide_true, Bool.not_true, Bool.not_false, decide_false, eq_self, strEq, Bool.and_self, heqS, hB1.cell, hB2.cell, hB7.cell] at k12_f8
    have k13_f8 := hfcf8 13 rfl; try simp only [EN, Nat.reduceEqDiff, reduceIte, decide_true, Bool.not_true, Bool.not_false, decide_false, eq_self, strEq, Bool.and_self, heqS, hB1.cell, hB2.cell, hB7.cell] at k13_f8
    have k14_f8 := hfcf8 14 rfl; try simp only [EN, Nat.reduceEqDiff, reduceIte, decide_true, Bool.not_true, Bool.not_false, decide_false, eq_self, strEq, Bool.and_self, heqS, hB1.cell, hB2.cell, hB7.cell] at k14_f8
    have k15_f8 := hfcf8 15 rfl; try simp only [EN, Nat.reduceEqDiff, reduceIte, decide_true, Bool.not_true, Bool.not_false, decide_false, eq_self, strEq, Bool.and_self, heqS, hB1.cell, hB2.cell, hB7.cell] at k15_f8
    have k16_f8 := hfcf8 16 rfl; try simp only [EN, Nat.reduceEqDiff, reduceIte, decide_true, Bool.not_true, Bool.not_false, decide_false, eq_self, strEq, Bool.and_self, heqS, hB1.cell, hB2.cell, hB7.cell] at k16_f8
    have k17_f8 := hfcf8 17 rfl; try simp only [EN, Nat.reduceEqDiff, reduceIte, decide_true, Bool.not_true, Bool.not_false, decide_false, eq_self, strEq, Bool.and_self, heqS, hB1.cell, hB2.cell, hB7.cell] at k17_f8
    have k18_f8 := hfcf8 18 rfl; try simp only [EN, Nat.reduceEqDiff, reduceIte, decide_true, Bool.not_true, Bool.not_false, decide_false, eq_self, strEq, Bool.and_self, heqS, hB1.cell, hB2.cell, hB7.cell] at k18_f8
    refine hx_region ?_
    refine WL.qq (by simp only [EN, Nat.reduceEqDiff, reduceIte, qv_move, k13_f8, decide_true, Bool.not_true, Bool.not_false, decide_false, eq_self, strEq, Bool.and_self, heqS, hB1.cell, hB2.cell, hB7.cell]; rfl) ?_
    refine WL.qq (by simp only [EN, Nat.reduceEqDiff, reduceIte, qv_len, ln31, AR, decide_true, Bool.not_true, Bool.not_false, decide_false, eq_self, strEq, Bool.and_self, heqS, hB1.cell, hB2.cell, hB7.cell]; rfl) ?_
    refine WL.qq (by simp only [EN, Nat.reduceEqDiff, reduceIte, qv_binOp, binv_neq, eq3, Option.map_some, decide_true, Bool.not_true, Bool.not_false, decide_false, eq_self, strEq, Bool.and_self, heqS, hB1.cell, hB2.cell, hB7.cell]; rfl) ?_
    refine WL.qq (by simp only [EN, Nat.reduceEqDiff, reduceIte, qv_move, decide_true, Bool.not_true, Bool.not_false, decide_false, eq_self, strEq, Bool.and_self, heqS, hB1.cell, hB2.cell, hB7.cell]; rfl) ?_
    refine WL.on (by rw [gOk_s (gd_at (t := 80) rfl (by simp only [EN, Nat.reduceEqDiff, reduceIte, k14_f8, decide_true, Bool.not_true, Bool.not_false, decide_false, eq_self, strEq, Bool.and_self, heqS, hB1.cell, hB2.cell, hB7.cell] <;> rfl))]; rfl) ?_
    refine WL.qq (by simp only [EN, Nat.reduceEqDiff, reduceIte, qv_move, k14_f8, decide_true, Bool.not_true, Bool.not_false, decide_false, eq_self, strEq, Bool.and_self, heqS, hB1.cell, hB2.cell, hB7.cell]; rfl) ?_
    refine WL.on (by rw [gOk_s (gd_at (t := 80) rfl (by simp only [EN, Nat.reduceEqDiff, reduceIte, decide_true, Bool.not_true, Bool.not_false, decide_false, eq_self, strEq, Bool.and_self, heqS, hB1.cell, hB2.cell, hB7.cell] <;> rfl))]; rfl) ?_
    refine WL.qq (by simp only [EN, Nat.reduceEqDiff, reduceIte, qv_binOp, binv_neq, eq37, Option.map_some, decide_true, Bool.not_true, Bool.not_false, decide_false, eq_self, strEq, Bool.and_self, heqS, hB1.cell, hB2.cell, hB7.cell]; rfl) ?_
    refine WL.qq (by simp only [EN, Nat.reduceEqDiff, reduceIte, qv_pick, pk_and, pk_or, GR, decide_true, Bool.not_true, Bool.not_false, decide_false, eq_self, strEq, Bool.and_self, heqS, hB1.cell, hB2.cell, hB7.cell]; rfl) ?_
    refine WL.qq (by simp only [EN, Nat.reduceEqDiff, reduceIte, qv_move, decide_true, Bool.not_true, Bool.not_false, decide_false, eq_self, strEq, Bool.and_self, heqS, hB1.cell, hB2.cell, hB7.cell]; rfl) ?_
    refine WL.on (by rw [gOk_s (gd_at (t := 84) rfl (by simp only [EN, Nat.reduceEqDiff, reduceIte, k15_f8, decide_true, Bool.not_true, Bool.not_false, decide_false, eq_self, strEq, Bool.and_self, heqS, hB1.cell, hB2.cell, hB7.cell] <;> rfl))]; rfl) ?_
    refine WL.qq (by simp only [EN, Nat.reduceEqDiff, reduceIte, qv_load, ld43, readN, AR, Nat.zero_add, Nat.reduceAdd, k15_f8, decide_true, Bool.not_true, Bool.not_false, decide_false, eq_self, strEq, Bool.and_self, heqS, hB1.cell, hB2.cell, hB7.cell]; rfl) ?_
    refine WL.on (by rw [gOk_s (gd_at (t := 84) rfl (by simp only [EN, Nat.reduceEqDiff, reduceIte, decide_true, Bool.not_true, Bool.not_false, decide_false, eq_self, strEq, Bool.and_self, heqS, hB1.cell, hB2.cell, hB7.cell] <;> rfl))]; rfl) ?_
    refine WL.qq (by refine qv_bld (by simp only [EN, Nat.reduceEqDiff, reduceIte, AR, decide_true, Bool.not_true, Bool.not_false, decide_false, eq_self, strEq, Bool.and_self, heqS, hB1.cell, hB2.cell, hB7.cell] <;> rfl) (by rw [bl43]; simp [Instr.fill, Value.cells]; rfl)) ?_
    refine WL.on (by rw [gOk_s (gd_at (t := 84) rfl (by simp only [EN, Nat.reduceEqDiff, reduceIte, decide_true, Bool.not_true, Bool.not_false, decide_false, eq_self, strEq, Bool.and_self, heqS, hB1.cell, hB2.cell, hB7.cell] <;> rfl))]; rfl) ?_
    refine WL.qq (by simp only [EN, Nat.reduceEqDiff, reduceIte, qv_binOp, binv_neq, eqs43, Option.map_some, decide_true, Bool.not_true, Bool.not_false, decide_false, eq_self, strEq, Bool.and_self, heqS, hB1.cell, hB2.cell, hB7.cell]; rfl) ?_
    refine WL.qq (by simp only [EN, Nat.reduceEqDiff, reduceIte, qv_pick, pk_and, pk_or, GR, decide_true, Bool.not_true, Bool.not_false, decide_false, eq_self, strEq, Bool.and_self, heqS, hB1.cell, hB2.cell, hB7.cell]; rfl) ?_
    refine WL.qq (by simp only [EN, Nat.reduceEqDiff, reduceIte, qv_move, decide_true, Bool.not_true, Bool.not_false, decide_false, eq_self, strEq, Bool.and_self, heqS, hB1.cell, hB2.cell, hB7.cell]; rfl) ?_
    refine WL.on (by rw [gOk_s (gd_at (t := 89) rfl (by simp only [EN, Nat.reduceEqDiff, reduceIte, k16_f8, decide_true, Bool.not_true, Bool.not_false, decide_false, eq_self, strEq, Bool.and_self, heqS, hB1.cell, hB2.cell, hB7.cell] <;> rfl))]; rfl) ?_
    refine WL.qq (by simp only [EN, Nat.reduceEqDiff, reduceIte, qv_move, k16_f8, decide_true, Bool.not_true, Bool.not_false, decide_false, eq_self, strEq, Bool.and_self, heqS, hB1.cell, hB2.cell, hB7.cell]; rfl) ?_
    refine WL.on (by rw [gOk_s (gd_at (t := 89) rfl (by simp only [EN, Nat.reduceEqDiff, reduceIte, decide_true, Bool.not_true, Bool.not_false, decide_false, eq_self, strEq, Bool.and_self, heqS, hB1.cell, hB2.cell, hB7.cell] <;> rfl))]; rfl) ?_
    refine WL.qq (by simp only [EN, Nat.reduceEqDiff, reduceIte, qv_binOp, binv_neq, eq37, Option.map_some, decide_true, Bool.not_true, Bool.not_false, decide_false, eq_self, strEq, Bool.and_self, heqS, hB1.cell, hB2.cell, hB7.cell]; rfl) ?_
    refine WL.qq (by simp only [EN, Nat.reduceEqDiff, reduceIte, qv_pick, pk_and, pk_or, GR, decide_true, Bool.not_true, Bool.not_false, decide_false, eq_self, strEq, Bool.and_self, heqS, hB1.cell, hB2.cell, hB7.cell]; rfl) ?_
    refine WL.qq (by simp only [EN, Nat.reduceEqDiff, reduceIte, qv_move, decide_true, Bool.not_true, Bool.not_false, decide_false, eq_self, strEq, Bool.and_self, heqS, hB1.cell, hB2.cell, hB7.cell]; rfl) ?_
    refine WL.on (by rw [gOk_s (gd_at (t := 93) rfl (by simp only [EN, Nat.reduceEqDiff, reduceIte, k17_f8, decide_true, Bool.not_true, Bool.not_false, decide_false, eq_self, strEq, Bool.and_self, heqS, hB1.cell, hB2.cell, hB7.cell] <;> rfl))]; rfl) ?_
    refine WL.qq (by simp only [EN, Nat.reduceEqDiff, reduceIte, qv_move, k17_f8, decide_true, Bool.not_true, Bool.not_false, decide_false, eq_self, strEq, Bool.and_self, heqS, hB1.cell, hB2.cell, hB7.cell]; rfl) ?_
    refine WL.on (by rw [gOk_s (gd_at (t := 93) rfl (by simp only [EN, Nat.reduceEqDiff, reduceIte, decide_true, Bool.not_true, Bool.not_false, decide_false, eq_self, strEq, Bool.and_self, heqS, hB1.cell, hB2.cell, hB7.cell] <;> rfl))]; rfl) ?_
    refine WL.qq (by simp only [EN, Nat.reduceEqDiff, reduceIte, qv_len, ln34, AR, decide_true, Bool.not_true, Bool.not_false, decide_false, eq_self, strEq, Bool.and_self, heqS, hB1.cell, hB2.cell, hB7.cell]; rfl) ?_
    refine WL.on (by rw [gOk_s (gd_at (t := 93) rfl (by simp only [EN, Nat.reduceEqDiff, reduceIte, decide_true, Bool.not_true, Bool.not_false, decide_false, eq_self, strEq, Bool.and_self, heqS, hB1.cell, hB2.cell, hB7.cell] <;> rfl))]; rfl) ?_
    refine WL.qq (by simp only [EN, Nat.reduceEqDiff, reduceIte, qv_binOp, binv_neq, eq3, Option.map_some, decide_true, Bool.not_true, Bool.not_false, decide_false, eq_self, strEq, Bool.and_self, heqS, hB1.cell, hB2.cell, hB7.cell]; rfl) ?_
    refine WL.qq (by simp only [EN, Nat.reduceEqDiff, reduceIte, qv_pick, pk_and, pk_or, GR, decide_true, Bool.not_true, Bool.not_false, decide_false, eq_self, strEq, Bool.and_self, heqS, hB1.cell, hB2.cell, hB7.cell]; rfl) ?_
    refine WL.qq (by simp only [EN, Nat.reduceEqDiff, reduceIte, qv_move, decide_true, Bool.not_true, Bool.not_false, decide_false, eq_self, strEq, Bool.and_self, heqS, hB1.cell, hB2.cell, hB7.cell]; rfl) ?_
    refine WL.on (by rw [gOk_s (gd_at (t := 98) rfl (by simp only [EN, Nat.reduceEqDiff, reduceIte, k18_f8, decide_true, Bool.not_true, Bool.not_false, decide_false, eq_self, strEq, Bool.and_self, heqS, hB1.cell, hB2.cell, hB7.cell] <;> rfl))]; rfl) ?_
    refine WL.qq (by simp only [EN, Nat.reduceEqDiff, reduceIte, qv_move, k18_f8, decide_true, Bool.not_true, Bool.not_false, decide_false, eq_self, strEq, Bool.and_self, heqS, hB1.cell, hB2.cell, hB7.cell]; rfl) ?_
    refine WL.on (by rw [gOk_s (gd_at (t := 98) rfl (by simp only [EN, Nat.reduceEqDiff, reduceIte, decide_true, Bool.not_true, Bool.not_false, decide_false, eq_self, strEq, Bool.and_self, heqS, hB1.cell, hB2.cell, hB7.cell] <;> rfl))]; rfl) ?_
    refine WL.qq (by simp only [EN, Nat.reduceEqDiff, reduceIte, qv_binOp, binv_neq, eq37, Option.map_some, decide_true, Bool.not_true, Bool.not_false, decide_false, eq_self, strEq, Bool.and_self, heqS, hB1.cell, hB2.cell, hB7.cell]; rfl) ?_
    refine WL.qq (by simp only [EN, Nat.reduceEqDiff, reduceIte, qv_pick, pk_and, pk_or, GR, decide_true, Bool.not_true, Bool.not_false, decide_false, eq_self, strEq, Bool.and_self, heqS, hB1.cell, hB2.cell, hB7.cell]; rfl) ?_
    refine WL.qq (by simp only [EN, Nat.reduceEqDiff, reduceIte, qv_move, decide_true, Bool.not_true, Bool.not_false, decide_false, eq_self, strEq, Bool.and_self, heqS, hB1.cell, hB2.cell, hB7.cell]; rfl) ?_
    refine WL.on (by rw [gOk_s (gd_at (t := 102) rfl (by simp only [EN, Nat.reduceEqDiff, reduceIte, k12_f8, decide_true, Bool.not_true, Bool.not_false, decide_false, eq_self, strEq, Bool.and_self, heqS, hB1.cell, hB2.cell, hB7.cell] <;> rfl))]; rfl) ?_
    refine WL.qq (by simp only [EN, Nat.reduceEqDiff, reduceIte, qv_move, k12_f8, decide_true, Bool.not_true, Bool.not_false, decide_false, eq_self, strEq, Bool.and_self, heqS, hB1.cell, hB2.cell, hB7.cell]; rfl) ?_
    refine WL.on (by rw [gOk_s (gd_at (t := 102) rfl (by simp only [EN, Nat.reduceEqDiff, reduceIte, k9_f8, decide_true, Bool.not_true, Bool.not_false, decide_false, eq_self, strEq, Bool.and_self, heqS, hB1.cell, hB2.cell, hB7.cell] <;> rfl))]; rfl) ?_
    refine WL.qq (by simp only [EN, Nat.reduceEqDiff, reduceIte, qv_fieldAddr, fa62_2, Nat.zero_add, Nat.reduceAdd, k9_f8, decide_true, Bool.not_true, Bool.not_false, decide_false, eq_self, strEq, Bool.and_self, heqS, hB1.cell, hB2.cell, hB7.cell]; rfl) ?_
    refine WL.on (by rw [gOk_s (gd_at (t := 102) rfl (by simp only [EN, Nat.reduceEqDiff, reduceIte, decide_true, Bool.not_true, Bool.not_false, decide_false, eq_self, strEq, Bool.and_self, heqS, hB1.cell, hB2.cell, hB7.cell] <;> rfl))]; rfl) ?_
    refine WL.qq (by simp only [EN, Nat.reduceEqDiff, reduceIte, qv_load, ld3, readN, AR, Nat.zero_add, Nat.reduceAdd, decide_true, Bool.not_true, Bool.not_false, decide_false, eq_self, strEq, Bool.and_self, heqS, hB1.cell, hB2.cell, hB7.cell]; rfl) ?_
    refine WL.on (by rw [gOk_s (gd_at (t := 102) rfl (by simp only [EN, Nat.reduceEqDiff, reduceIte, decide_true, Bool.not_true, Bool.not_false, decide_false, eq_self, strEq, Bool.and_self, heqS, hB1.cell, hB2.cell, hB7.cell] <;> rfl))]; rfl) ?_
    refine WL.ck Try.call23 (by simp only [EN, Nat.reduceEqDiff, reduceIte, AR, decide_true, Bool.not_true, Bool.not_false, decide_false, eq_self, strEq, Bool.and_self, heqS, hB1.cell, hB2.cell, hB7.cell]; exact n_Ack o.a _) ?_
    refine WL.on (by rw [gOk_s (gd_at (t := 102) rfl (by simp only [EN, Nat.reduceEqDiff, reduceIte, decide_true, Bool.not_true, Bool.not_false, decide_false, eq_self, strEq, Bool.and_self, heqS, hB1.cell, hB2.cell, hB7.cell] <;> rfl))]; rfl) ?_
    refine WL.qq (by simp only [EN, Nat.reduceEqDiff, reduceIte, qv_binOp, binv_neq, eq37, Option.map_some, decide_true, Bool.not_true, Bool.not_false, decide_false, eq_self, strEq, Bool.and_self, heqS, hB1.cell, hB2.cell, hB7.cell]; rfl) ?_
    refine WL.qq (by simp only [EN, Nat.reduceEqDiff, reduceIte, qv_pick, pk_and, pk_or, GR, decide_true, Bool.not_true, Bool.not_false, decide_false, eq_self, strEq, Bool.and_self, heqS, hB1.cell, hB2.cell, hB7.cell]; rfl) ?_
    refine WL.qq (by simp only [EN, Nat.reduceEqDiff, reduceIte, qv_move, decide_true, Bool.not_true, Bool.not_false, decide_false, eq_self, strEq, Bool.and_self, heqS, hB1.cell, hB2.cell, hB7.cell]; rfl) ?_
    refine WL.on (by rw [gOk_s (gd_at (t := 109) rfl (by simp only [EN, Nat.reduceEqDiff, reduceIte, k11_f8, decide_true, Bool.not_true, Bool.not_false, decide_false, eq_self, strEq, Bool.and_self, heqS, hB1.cell, hB2.cell, hB7.cell] <;> rfl))]; rfl) ?_
    refine WL.qq (by simp only [EN, Nat.reduceEqDiff, reduceIte, qv_move, k11_f8, decide_true, Bool.not_true, Bool.not_false, decide_false, eq_self, strEq, Bool.and_self, heqS, hB1.cell, hB2.cell, hB7.cell]; rfl) ?_
    refine WL.on (by rw [gOk_s (gd_at (t := 109) rfl (by simp only [EN, Nat.reduceEqDiff, reduceIte, decide_true, Bool.not_true, Bool.not_false, decide_false, eq_self, strEq, Bool.and_self, heqS, hB1.cell, hB2.cell, hB7.cell] <;> rfl))]; rfl) ?_
    refine WL.ck Try.call17 (by simp only [EN, Nat.reduceEqDiff, reduceIte, AR, decide_true, Bool.not_true, Bool.not_false, decide_false, eq_self, strEq, Bool.and_self, heqS, hB1.cell, hB2.cell, hB7.cell]; exact n_NextR) ?_
    refine WL.on (by rw [gOk_s (gd_at (t := 109) rfl (by simp only [EN, Nat.reduceEqDiff, reduceIte, decide_true, Bool.not_true, Bool.not_false, decide_false, eq_self, strEq, Bool.and_self, heqS, hB1.cell, hB2.cell, hB7.cell] <;> rfl))]; rfl) ?_
    refine WL.qq (by simp only [EN, Nat.reduceEqDiff, reduceIte, qv_binOp, binv_neq, eq3, Option.map_some, decide_true, Bool.not_true, Bool.not_false, decide_false, eq_self, strEq, Bool.and_self, heqS, hB1.cell, hB2.cell, hB7.cell]; rfl) ?_
    refine WL.qq (by simp only [EN, Nat.reduceEqDiff, reduceIte, qv_pick, pk_and, pk_or, GR, decide_true, Bool.not_true, Bool.not_false, decide_false, eq_self, strEq, Bool.and_self, heqS, hB1.cell, hB2.cell, hB7.cell]; rfl) ?_
    refine WL.qq (by simp only [EN, Nat.reduceEqDiff, reduceIte, qv_move, decide_true, Bool.not_true, Bool.not_false, decide_false, eq_self, strEq, Bool.and_self, heqS, hB1.cell, hB2.cell, hB7.cell]; rfl) ?_
    refine WL.on (by rw [gOk_s (gd_at (t := 114) rfl (by simp only [EN, Nat.reduceEqDiff, reduceIte, k12_f8, decide_true, Bool.not_true, Bool.not_false, decide_false, eq_self, strEq, Bool.and_self, heqS, hB1.cell, hB2.cell, hB7.cell] <;> rfl))]; rfl) ?_
    refine WL.qq (by simp only [EN, Nat.reduceEqDiff, reduceIte, qv_move, k12_f8, decide_true, Bool.not_true, Bool.not_false, decide_false, eq_self, strEq, Bool.and_self, heqS, hB1.cell, hB2.cell, hB7.cell]; rfl) ?_
    refine WL.on (by rw [gOk_s (gd_at (t := 114) rfl (by simp only [EN, Nat.reduceEqDiff, reduceIte, decide_true, Bool.not_true, Bool.not_false, decide_false, eq_self, strEq, Bool.and_self, heqS, hB1.cell, hB2.cell, hB7.cell] <;> rfl))]; rfl) ?_
    refine WL.ck Try.call26 (by simp only [EN, Nat.reduceEqDiff, reduceIte, AR, decide_true, Bool.not_true, Bool.not_false, decide_false, eq_self, strEq, Bool.and_self, heqS, hB1.cell, hB2.cell, hB7.cell]; exact n_NextS _) ?_
    refine WL.on (by rw [gOk_s (gd_at (t := 114) rfl (by simp only [EN, Nat.reduceEqDiff, reduceIte, decide_true, Bool.not_true, Bool.not_false, decide_false, eq_self, strEq, Bool.and_self, heqS, hB1.cell, hB2.cell, hB7.cell] <;> rfl))]; rfl) ?_
    refine WL.qq (by simp only [EN, Nat.reduceEqDiff, reduceIte, qv_binOp, binv_neq, eq3, Option.map_some, decide_true, Bool.not_true, Bool.not_false, decide_false, eq_self, strEq, Bool.and_self, heqS, hB1.cell, hB2.cell, hB7.cell]; rfl) ?_
    refine WL.qq (by simp only [EN, Nat.reduceEqDiff, reduceIte, qv_pick, pk_and, pk_or, GR, decide_true, Bool.not_true, Bool.not_false, decide_false, eq_self, strEq, Bool.and_self, heqS, hB1.cell, hB2.cell, hB7.cell]; rfl) ?_
    refine WL.qq (by simp only [EN, Nat.reduceEqDiff, reduceIte, qv_move, decide_true, Bool.not_true, Bool.not_false, decide_false, eq_self, strEq, Bool.and_self, heqS, hB1.cell, hB2.cell, hB7.cell]; rfl) ?_
    refine WL.on (by rw [gOk_s (gd_at (t := 119) rfl (by simp only [EN, Nat.reduceEqDiff, reduceIte, k11_f8, decide_true, Bool.not_true, Bool.not_false, decide_false, eq_self, strEq, Bool.and_self, heqS, hB1.cell, hB2.cell, hB7.cell] <;> rfl))]; rfl) ?_
    refine WL.qq (by simp only [EN, Nat.reduceEqDiff, reduceIte, qv_move, k11_f8, decide_true, Bool.not_true, Bool.not_false, decide_false, eq_self, strEq, Bool.and_self, heqS, hB1.cell, hB2.cell, hB7.cell]; rfl) ?_
    refine WL.on (by rw [gOk_s (gd_at (t := 119) rfl (by simp only [EN, Nat.reduceEqDiff, reduceIte, decide_true, Bool.not_true, Bool.not_false, decide_false, eq_self, strEq, Bool.and_self, heqS, hB1.cell, hB2.cell, hB7.cell] <;> rfl))]; rfl) ?_
    refine WL.ck Try.call29 (by simp only [EN, Nat.reduceEqDiff, reduceIte, AR, decide_true, Bool.not_true, Bool.not_false, decide_false, eq_self, strEq, Bool.and_self, heqS, hB1.cell, hB2.cell, hB7.cell]; exact n_MissR) ?_
    refine WL.on (by rw [gOk_s (gd_at (t := 119) rfl (by simp only [EN, Nat.reduceEqDiff, reduceIte, decide_true, Bool.not_true, Bool.not_false, decide_false, eq_self, strEq, Bool.and_self, heqS, hB1.cell, hB2.cell, hB7.cell] <;> rfl))]; rfl) ?_
    refine WL.qq (by simp only [EN, Nat.reduceEqDiff, reduceIte, qv_len, ln71, AR, decide_true, Bool.not_true, Bool.not_false, decide_false, eq_self, strEq, Bool.and_self, heqS, hB1.cell, hB2.cell, hB7.cell]; rfl) ?_
    refine WL.on (by rw [gOk_s (gd_at (t := 119) rfl (by simp only [EN, Nat.reduceEqDiff, reduceIte, decide_true, Bool.not_true, Bool.not_false, decide_false, eq_self, strEq, Bool.and_self, heqS, hB1.cell, hB2.cell, hB7.cell] <;> rfl))]; rfl) ?_
    refine WL.qq (by simp only [EN, Nat.reduceEqDiff, reduceIte, qv_binOp, binv_neq, eq3, Option.map_some, decide_true, Bool.not_true, Bool.not_false, decide_false, eq_self, strEq, Bool.and_self, heqS, hB1.cell, hB2.cell, hB7.cell]; rfl) ?_
    refine WL.qq (by simp only [EN, Nat.reduceEqDiff, reduceIte, qv_pick, pk_and, pk_or, GR, decide_true, Bool.not_true, Bool.not_false, decide_false, eq_self, strEq, Bool.and_self, heqS, hB1.cell, hB2.cell, hB7.cell]; rfl) ?_
    refine WL.qq (by simp only [EN, Nat.reduceEqDiff, reduceIte, qv_move, decide_true, Bool.not_true, Bool.not_false, decide_false, eq_self, strEq, Bool.and_self, heqS, hB1.cell, hB2.cell, hB7.cell]; rfl) ?_
    refine WL.on (by rw [gOk_s (gd_at (t := 125) rfl (by simp only [EN, Nat.reduceEqDiff, reduceIte, k11_f8, decide_true, Bool.not_true, Bool.not_false, decide_false, eq_self, strEq, Bool.and_self, heqS, hB1.cell, hB2.cell, hB7.cell] <;> rfl))]; rfl) ?_
    refine WL.qq (by simp only [EN, Nat.reduceEqDiff, reduceIte, qv_move, k11_f8, decide_true, Bool.not_true, Bool.not_false, decide_false, eq_self, strEq, Bool.and_self, heqS, hB1.cell, hB2.cell, hB7.cell]; rfl) ?_
    refine WL.on (by rw [gOk_s (gd_at (t := 125) rfl (by simp only [EN, Nat.reduceEqDiff, reduceIte, decide_true, Bool.not_true, Bool.not_false, decide_false, eq_self, strEq, Bool.and_self, heqS, hB1.cell, hB2.cell, hB7.cell] <;> rfl))]; rfl) ?_
    refine WL.ck Try.call30 (by simp only [EN, Nat.reduceEqDiff, reduceIte, AR, decide_true, Bool.not_true, Bool.not_false, decide_false, eq_self, strEq, Bool.and_self, heqS, hB1.cell, hB2.cell, hB7.cell]; exact n_BufR) ?_
    refine WL.on (by rw [gOk_s (gd_at (t := 125) rfl (by simp only [EN, Nat.reduceEqDiff, reduceIte, decide_true, Bool.not_true, Bool.not_false, decide_false, eq_self, strEq, Bool.and_self, heqS, hB1.cell, hB2.cell, hB7.cell] <;> rfl))]; rfl) ?_
    refine WL.qq (by simp only [EN, Nat.reduceEqDiff, reduceIte, qv_binOp, binv_neq, eq3, Option.map_some, decide_true, Bool.not_true, Bool.not_false, decide_false, eq_self, strEq, Bool.and_self, heqS, hB1.cell, hB2.cell, hB7.cell]; rfl) ?_
    refine WL.qq (by simp only [EN, Nat.reduceEqDiff, reduceIte, qv_pick, pk_and, pk_or, GR, decide_true, Bool.not_true, Bool.not_false, decide_false, eq_self, strEq, Bool.and_self, heqS, hB1.cell, hB2.cell, hB7.cell]; rfl) ?_
    refine WL.qq (by simp only [EN, Nat.reduceEqDiff, reduceIte, qv_move, decide_true, Bool.not_true, Bool.not_false, decide_false, eq_self, strEq, Bool.and_self, heqS, hB1.cell, hB2.cell, hB7.cell]; rfl) ?_
    refine WL.on (by rw [gOk_s (gd_at (t := 130) rfl (by simp only [EN, Nat.reduceEqDiff, reduceIte, k12_f8, decide_true, Bool.not_true, Bool.not_false, decide_false, eq_self, strEq, Bool.and_self, heqS, hB1.cell, hB2.cell, hB7.cell] <;> rfl))]; rfl) ?_
    refine WL.qq (by simp only [EN, Nat.reduceEqDiff, reduceIte, qv_move, k12_f8, decide_true, Bool.not_true, Bool.not_false, decide_false, eq_self, strEq, Bool.and_self, heqS, hB1.cell, hB2.cell, hB7.cell]; rfl) ?_
    refine WL.on (by rw [gOk_s (gd_at (t := 130) rfl (by simp only [EN, Nat.reduceEqDiff, reduceIte, decide_true, Bool.not_true, Bool.not_false, decide_false, eq_self, strEq, Bool.and_self, heqS, hB1.cell, hB2.cell, hB7.cell] <;> rfl))]; rfl) ?_
    refine WL.ck Try.call21 (by simp only [EN, Nat.reduceEqDiff, reduceIte, AR, decide_true, Bool.not_true, Bool.not_false, decide_false, eq_self, strEq, Bool.and_self, heqS, hB1.cell, hB2.cell, hB7.cell]; exact n_Pend _) ?_
    refine WL.on (by rw [gOk_s (gd_at (t := 130) rfl (by simp only [EN, Nat.reduceEqDiff, reduceIte, decide_true, Bool.not_true, Bool.not_false, decide_false, eq_self, strEq, Bool.and_self, heqS, hB1.cell, hB2.cell, hB7.cell] <;> rfl))]; rfl) ?_
    refine WL.qq (by simp only [EN, Nat.reduceEqDiff, reduceIte, qv_len, ln34, AR, decide_true, Bool.not_true, Bool.not_false, decide_false, eq_self, strEq, Bool.and_self, heqS, hB1.cell, hB2.cell, hB7.cell]; rfl) ?_
    refine WL.on (by rw [gOk_s (gd_at (t := 130) rfl (by simp only [EN, Nat.reduceEqDiff, reduceIte, decide_true, Bool.not_true, Bool.not_false, decide_false, eq_self, strEq, Bool.and_self, heqS, hB1.cell, hB2.cell, hB7.cell] <;> rfl))]; rfl) ?_
    refine WL.qq (by simp only [EN, Nat.reduceEqDiff, reduceIte, qv_binOp, binv_neq, eq3, Option.map_some, decide_true, Bool.not_true, Bool.not_false, decide_false, eq_self, strEq, Bool.and_self, heqS, hB1.cell, hB2.cell, hB7.cell]; rfl) ?_
    refine WL.qq (by simp only [EN, Nat.reduceEqDiff, reduceIte, qv_pick, pk_and, pk_or, GR, decide_true, Bool.not_true, Bool.not_false, decide_false, eq_self, strEq, Bool.and_self, heqS, hB1.cell, hB2.cell, hB7.cell]; rfl) ?_
    refine WL.qq (by simp only [EN, Nat.reduceEqDiff, reduceIte, qv_move, decide_true, Bool.not_true, Bool.not_false, decide_false, eq_self, strEq, Bool.and_self, heqS, hB1.cell, hB2.cell, hB7.cell]; rfl) ?_
    refine WL.on (by rw [gOk_s (gd_at (t := 136) rfl (by simp only [EN, Nat.reduceEqDiff, reduceIte, k11_f8, decide_true, Bool.not_true, Bool.not_false, decide_false, eq_self, strEq, Bool.and_self, heqS, hB1.cell, hB2.cell, hB7.cell] <;> rfl))]; rfl) ?_
    refine WL.qq (by simp only [EN, Nat.reduceEqDiff, reduceIte, qv_move, k11_f8, decide_true, Bool.not_true, Bool.not_false, decide_false, eq_self, strEq, Bool.and_self, heqS, hB1.cell, hB2.cell, hB7.cell]; rfl) ?_
    refine WL.on (by rw [gOk_s (gd_at (t := 136) rfl (by simp only [EN, Nat.reduceEqDiff, reduceIte, decide_true, Bool.not_true, Bool.not_false, decide_false, eq_self, strEq, Bool.and_self, heqS, hB1.cell, hB2.cell, hB7.cell] <;> rfl))]; rfl) ?_
    refine WL.ck Try.call18 (by simp only [EN, Nat.reduceEqDiff, reduceIte, AR, decide_true, Bool.not_true, Bool.not_false, decide_false, eq_self, strEq, Bool.and_self, heqS, hB1.cell, hB2.cell, hB7.cell]; exact n_CloneR) ?_
    refine WL.on (by rw [gOk_s (gd_at (t := 136) rfl (by simp only [EN, Nat.reduceEqDiff, reduceIte, decide_true, Bool.not_true, Bool.not_false, decide_false, eq_self, strEq, Bool.and_self, heqS, hB1.cell, hB2.cell, hB7.cell] <;> rfl))]; rfl) ?_
    refine WL.qq (by simp only [EN, Nat.reduceEqDiff, reduceIte, qv_binOp, binv_neq, eqz25, eqn25, eqm25, Option.map_some, decide_true, Bool.not_true, Bool.not_false, decide_false, eq_self, strEq, Bool.and_self, heqS, hB1.cell, hB2.cell, hB7.cell]; rfl) ?_
    refine WL.qq (by simp only [EN, Nat.reduceEqDiff, reduceIte, qv_pick, pk_and, pk_or, GR, decide_true, Bool.not_true, Bool.not_false, decide_false, eq_self, strEq, Bool.and_self, heqS, hB1.cell, hB2.cell, hB7.cell]; rfl) ?_
    refine WL.qq (by simp only [EN, Nat.reduceEqDiff, reduceIte, qv_move, decide_true, Bool.not_true, Bool.not_false, decide_false, eq_self, strEq, Bool.and_self, heqS, hB1.cell, hB2.cell, hB7.cell]; rfl) ?_
    refine WL.on (by rw [gOk_s (gd_at (t := 141) rfl (by simp only [EN, Nat.reduceEqDiff, reduceIte, k12_f8, decide_true, Bool.not_true, Bool.not_false, decide_false, eq_self, strEq, Bool.and_self, heqS, hB1.cell, hB2.cell, hB7.cell] <;> rfl))]; rfl) ?_
    refine WL.qq (by simp only [EN, Nat.reduceEqDiff, reduceIte, qv_move, k12_f8, decide_true, Bool.not_true, Bool.not_false, decide_false, eq_self, strEq, Bool.and_self, heqS, hB1.cell, hB2.cell, hB7.cell]; rfl) ?_
    refine WL.on (by rw [gOk_s (gd_at (t := 141) rfl (by simp only [EN, Nat.reduceEqDiff, reduceIte, decide_true, Bool.not_true, Bool.not_false, decide_false, eq_self, strEq, Bool.and_self, heqS, hB1.cell, hB2.cell, hB7.cell] <;> rfl))]; rfl) ?_
    refine WL.ck Try.call31 (by simp only [EN, Nat.reduceEqDiff, reduceIte, AR, decide_true, Bool.not_true, Bool.not_false, decide_false, eq_self, strEq, Bool.and_self, heqS, hB1.cell, hB2.cell, hB7.cell]; exact n_CloneS _) ?_
    refine WL.on (by rw [gOk_s (gd_at (t := 141) rfl (by simp only [EN, Nat.reduceEqDiff, reduceIte, decide_true, Bool.not_true, Bool.not_false, decide_false, eq_self, strEq, Bool.and_self, heqS, hB1.cell, hB2.cell, hB7.cell] <;> rfl))]; rfl) ?_
    refine WL.qq (by simp only [EN, Nat.reduceEqDiff, reduceIte, qv_binOp, binv_neq, eqz33, eqn33, eqm33, Option.map_some, decide_true, Bool.not_true, Bool.not_false, decide_false, eq_self, strEq, Bool.and_self, heqS, hB1.cell, hB2.cell, hB7.cell]; rfl) ?_
    refine WL.qq (by simp only [EN, Nat.reduceEqDiff, reduceIte, qv_pick, pk_and, pk_or, GR, decide_true, Bool.not_true, Bool.not_false, decide_false, eq_self, strEq, Bool.and_self, heqS, hB1.cell, hB2.cell, hB7.cell]; rfl) ?_
    refine WL.qq (by simp only [EN, Nat.reduceEqDiff, reduceIte, qv_move, decide_true, Bool.not_true, Bool.not_false, decide_false, eq_self, strEq, Bool.and_self, heqS, hB1.cell, hB2.cell, hB7.cell]; rfl) ?_
    refine WL.on (by rw [gOk_s (gd_at (t := 146) rfl (by simp only [EN, Nat.reduceEqDiff, reduceIte, k11_f8, decide_true, Bool.not_true, Bool.not_false, decide_false, eq_self, strEq, Bool.and_self, heqS, hB1.cell, hB2.cell, hB7.cell] <;> rfl))]; rfl) ?_
    refine WL.qq (by simp only [EN, Nat.reduceEqDiff, reduceIte, qv_move, k11_f8, decide_true, Bool.not_true, Bool.not_false, decide_false, eq_self, strEq, Bool.and_self, heqS, hB1.cell, hB2.cell, hB7.cell]; rfl) ?_
    refine WL.on (by rw [gOk_s (gd_at (t := 146) rfl (by simp only [EN, Nat.reduceEqDiff, reduceIte, decide_true, Bool.not_true, Bool.not_false, decide_false, eq_self, strEq, Bool.and_self, heqS, hB1.cell, hB2.cell, hB7.cell] <;> rfl))]; rfl) ?_
    refine WL.ck Try.call19 (by simp only [EN, Nat.reduceEqDiff, reduceIte, AR, decide_true, Bool.not_true, Bool.not_false, decide_false, eq_self, strEq, Bool.and_self, heqS, hB1.cell, hB2.cell, hB7.cell]; exact n_eqNN) ?_
    refine WL.on (by rw [gOk_s (gd_at (t := 146) rfl (by simp only [EN, Nat.reduceEqDiff, reduceIte, decide_true, Bool.not_true, Bool.not_false, decide_false, eq_self, strEq, Bool.and_self, heqS, hB1.cell, hB2.cell, hB7.cell] <;> rfl))]; rfl) ?_
    refine WL.qq (by simp only [EN, Nat.reduceEqDiff, reduceIte, qv_unOp, unv_not, decide_true, Bool.not_true, Bool.not_false, decide_false, eq_self, strEq, Bool.and_self, heqS, hB1.cell, hB2.cell, hB7.cell]; rfl) ?_
    refine WL.qq (by simp only [EN, Nat.reduceEqDiff, reduceIte, qv_pick, pk_and, pk_or, GR, decide_true, Bool.not_true, Bool.not_false, decide_false, eq_self, strEq, Bool.and_self, heqS, hB1.cell, hB2.cell, hB7.cell]; rfl) ?_
    refine WL.qq (by simp only [EN, Nat.reduceEqDiff, reduceIte, qv_move, decide_true, Bool.not_true, Bool.not_false, decide_false, eq_self, strEq, Bool.and_self, heqS, hB1.cell, hB2.cell, hB7.cell]; rfl) ?_
    refine WL.on (by rw [gOk_s (gd_at (t := 151) rfl (by simp only [EN, Nat.reduceEqDiff, reduceIte, k12_f8, decide_true, Bool.not_true, Bool.not_false, decide_false, eq_self, strEq, Bool.and_self, heqS, hB1.cell, hB2.cell, hB7.cell] <;> rfl))]; rfl) ?_
    refine WL.qq (by simp only [EN, Nat.reduceEqDiff, reduceIte, qv_move, k12_f8, decide_true, Bool.not_true, Bool.not_false, decide_false, eq_self, strEq, Bool.and_self, heqS, hB1.cell, hB2.cell, hB7.cell]; rfl) ?_
    refine WL.on (by rw [gOk_s (gd_at (t := 151) rfl (by simp only [EN, Nat.reduceEqDiff, reduceIte, decide_true, Bool.not_true, Bool.not_false, decide_false, eq_self, strEq, Bool.and_self, heqS, hB1.cell, hB2.cell, hB7.cell] <;> rfl))]; rfl) ?_
    refine WL.ck Try.call32 (by simp only [EN, Nat.reduceEqDiff, reduceIte, AR, decide_true, Bool.not_true, Bool.not_false, decide_false, eq_self, strEq, Bool.and_self, heqS, hB1.cell, hB2.cell, hB7.cell]; exact n_eqSNN _) ?_
    refine WL.on (by rw [gOk_s (gd_at (t := 151) rfl (by simp only [EN, Nat.reduceEqDiff, reduceIte, decide_true, Bool.not_true, Bool.not_false, decide_false, eq_self, strEq, Bool.and_self, heqS, hB1.cell, hB2.cell, hB7.cell] <;> rfl))]; rfl) ?_
    refine WL.qq (by simp only [EN, Nat.reduceEqDiff, reduceIte, qv_unOp, unv_not, decide_true, Bool.not_true, Bool.not_false, decide_false, eq_self, strEq, Bool.and_self, heqS, hB1.cell, hB2.cell, hB7.cell]; rfl) ?_
    refine WL.qq (by simp only [EN, Nat.reduceEqDiff, reduceIte, qv_pick, pk_and, pk_or, GR, decide_true, Bool.not_true, Bool.not_false, decide_false, eq_self, strEq, Bool.and_self, heqS, hB1.cell, hB2.cell, hB7.cell]; rfl) ?_
    refine WL.nil ?_
    refine th_norm ?_
    refine hx_cond (by simp only [EN, Nat.reduceEqDiff, reduceIte, decide_true, Bool.not_true, Bool.not_false, decide_false, eq_self, strEq, Bool.and_self, heqS, hB1.cell, hB2.cell, hB7.cell]; rfl) (fun hct155 => ?_) (fun hct155 => ?_)
    ·
      simp at hct155
    ·
      try simp only [BD] at hct155
      refine hx_skip ?_
      refine th_norm ?_
      refine hx_seq ?_
      refine hx_fresh (fun eF10 hfcf10 => ?_)
      have k0_f10 := hfcf10 0 rfl; try simp only [EN, Nat.reduceEqDiff, reduceIte, k0_f8, decide_true, Bool.not_true, Bool.not_false, decide_false, eq_self, strEq, Bool.and_self, heqS, hB1.cell, hB2.cell, hB7.cell] at k0_f10
      have k1_f10 := hfcf10 1 rfl; try simp only [EN, Nat.reduceEqDiff, reduceIte, k1_f8, decide_true, Bool.not_true, Bool.not_false, decide_false, eq_self, strEq, Bool.and_self, heqS, hB1.cell, hB2.cell, hB7.cell] at k1_f10
      have k3_f10 := hfcf10 3 rfl; try simp only [EN, Nat.reduceEqDiff, reduceIte, k3_f8, decide_true, Bool.not_true, Bool.not_false, decide_false, eq_self, strEq, Bool.and_self, heqS, hB1.cell, hB2.cell, hB7.cell] at k3_f10
      have k7_f10 := hfcf10 7 rfl; try simp only [EN, Nat.reduceEqDiff, reduceIte, k7_f8, decide_true, Bool.not_true, Bool.not_false, decide_false, eq_self, strEq, Bool.and_self, heqS, hB1.cell, hB2.cell, hB7.cell] at k7_f10
      have k9_f10 := hfcf10 9 rfl; try simp only [EN, Nat.reduceEqDiff, reduceIte, k9_f8, decide_true, Bool.not_true, Bool.not_false, decide_false, eq_self, strEq, Bool.and_self, heqS, hB1.cell, hB2.cell, hB7.cell] at k9_f10
      have k11_f10 := hfcf10 11 rfl; try simp only [EN, Nat.reduceEqDiff, reduceIte, k11_f8, decide_true, Bool.not_true, Bool.not_false, decide_false, eq_self, strEq, Bool.and_self, heqS, hB1.cell, hB2.cell, hB7.cell] at k11_f10
      have k12_f10 := hfcf10 12 rfl; try simp only [EN, Nat.reduceEqDiff, reduceIte, k12_f8, decide_true, Bool.not_true, Bool.not_false, decide_false, eq_self, strEq, Bool.and_self, heqS, hB1.cell, hB2.cell, hB7.cell] at k12_f10
      refine hx_region ?_
      refine WL.qq (by simp only [EN, Nat.reduceEqDiff, reduceIte, qv_move, k0_f10, decide_true, Bool.not_true, Bool.not_false, decide_false, eq_self, strEq, Bool.and_self, heqS, hB1.cell, hB2.cell, hB7.cell]; rfl) ?_
      refine WL.qq (by simp only [EN, Nat.reduceEqDiff, reduceIte, qv_move, k1_f10, decide_true, Bool.not_true, Bool.not_false, decide_false, eq_self, strEq, Bool.and_self, heqS, hB1.cell, hB2.cell, hB7.cell]; rfl) ?_
      have hX8 := ((hx1).trans ((hx2).trans ((hx3).trans ((hx5).trans ((hx6).trans ((hx7).trans (hx8)))))))
      refine WL.ce Try.call13 (by simp only [EN, Nat.reduceEqDiff, reduceIte, AR, decide_true, Bool.not_true, Bool.not_false, decide_false, eq_self, strEq, Bool.and_self, heqS, hB1.cell, hB2.cell, hB7.cell]; exact (c_receiver w hw al l cl (by omega) hl).mono (fun v h' hh => by obtain ⟨p, u, e1, e2, e3⟩ := hh; exact (⟨e2.E, p, u, e1, hrn ▸ hbf ▸ e2, hrn ▸ hbf ▸ e3⟩ : Ext _ h' ∧ ∃ p u, v = .tuple #[.pointer (some ⟨p, 0, none⟩), u, .bool true] ∧ TR _ h' p w rn bf ∧ RT h' u w rn bf))) ?_
      rintro _ h9 ⟨hx9, p, u1, rfl, hT, hR⟩
      replace hl := hl.ext hx9
      replace hops := hops.ext hx9
      replace hB1 := hB1.ext hx9
      replace hB2 := hB2.ext hx9
      replace hB7 := hB7.ext hx9
      simp only [put_some]
      obtain ⟨a6, c6, rfl, hs6, hc6⟩ := hR.ex
      refine WL.qq (by simp only [EN, Nat.reduceEqDiff, reduceIte, qv_move, decide_true, Bool.not_true, Bool.not_false, decide_false, eq_self, strEq, Bool.and_self, heqS, hB1.cell, hB2.cell, hB7.cell]; rfl) ?_
      refine WL.qq (by simp only [EN, Nat.reduceEqDiff, reduceIte, qv_extract, AR, decide_true, Bool.not_true, Bool.not_false, decide_false, eq_self, strEq, Bool.and_self, heqS, hB1.cell, hB2.cell, hB7.cell]; rfl) ?_
      refine WL.qq (by simp only [EN, Nat.reduceEqDiff, reduceIte, qv_extract, AR, decide_true, Bool.not_true, Bool.not_false, decide_false, eq_self, strEq, Bool.and_self, heqS, hB1.cell, hB2.cell, hB7.cell]; rfl) ?_
      refine WL.qq (by simp only [EN, Nat.reduceEqDiff, reduceIte, qv_extract, AR, decide_true, Bool.not_true, Bool.not_false, decide_false, eq_self, strEq, Bool.and_self, heqS, hB1.cell, hB2.cell, hB7.cell]; rfl) ?_
      have hzz := Ext.size ((hx1).trans ((hx2).trans ((hx3).trans ((hx5).trans ((hx6).trans ((hx7).trans ((hx8).trans (hx9))))))))
      replace hT := hT.base hX8; have q1 := (Array.getElem?_eq_some_iff.1 hB1).1; have q2 := (Array.getElem?_eq_some_iff.1 hB2).1
      refine WL.alloc2 zr27 ?_
      intro h10 B10 hx10 hlt10 hB10
      replace hl := hl.ext hx10
      replace hops := hops.ext hx10
      replace hB1 := hB1.ext hx10
      replace hB2 := hB2.ext hx10
      replace hB7 := hB7.ext hx10
      replace hT := hT.ext hx10
      replace hs6 := hs6.ext hx10
      simp only [Value.cells] at hB10
      refine WL.qq (by simp only [EN, Nat.reduceEqDiff, reduceIte, qv_assign, decide_true, Bool.not_true, Bool.not_false, decide_false, eq_self, strEq, Bool.and_self, heqS, hB1.cell, hB2.cell, hB7.cell, hB10.cell]; rfl) ?_
      refine WL.store (by simp only [EN, Nat.reduceEqDiff, reduceIte, k0_f10, k1_f10, k3_f10, k7_f10, k9_f10, k11_f10, k12_f10, decide_true, Bool.not_true, Bool.not_false, decide_false, eq_self, strEq, Bool.and_self, heqS, hB1.cell, hB2.cell, hB7.cell, hB10.cell] <;> rfl) sz27 (by simp only [EN, Nat.reduceEqDiff, reduceIte, k0_f10, k1_f10, k3_f10, k7_f10, k9_f10, k11_f10, k12_f10, decide_true, Bool.not_true, Bool.not_false, decide_false, eq_self, strEq, Bool.and_self, heqS, hB1.cell, hB2.cell, hB7.cell, hB10.cell, Value.cells]; rfl) rfl hB10 (by simp) (by intro u hu; simp at hu; rcases hu with rfl | rfl | rfl <;> rfl) ?_
      intro h60 hw60
      simp only [splc, List.take_succ_cons, List.take_zero, List.take_nil, List.drop_succ_cons, List.drop_zero, List.drop_nil, List.cons_append, List.nil_append, List.length_cons, List.length_nil, Nat.zero_add, Nat.add_zero, Nat.reduceAdd, List.append_nil] at hw60
      have hn10 : h.size ≤ B10 := (by omega)
      have hE60 : Ext h h60 := hw60.ext ((hx1).trans ((hx2).trans ((hx3).trans ((hx5).trans ((hx6).trans ((hx7).trans ((hx8).trans ((hx9).trans (hx10))))))))) hn10
      replace hl := kl.ext hE60
      replace hops := kops.ext hE60
      replace hT := hT.wr hB10 (by decide) hw60 hn10
      replace hs6 := hs6.wr hw60 hB10 (by decide)
      replace hB1 := hB1.wr hw60 (by omega)
      replace hB2 := hB2.wr hw60 (by omega)
      replace hB10 := hw60.at_
      refine WL.qq (by simp only [EN, Nat.reduceEqDiff, reduceIte, qv_assign, decide_true, Bool.not_true, Bool.not_false, decide_false, eq_self, strEq, Bool.and_self, heqS, hB1.cell, hB2.cell, hB7.cell, hB10.cell]; rfl) ?_
      refine WL.nil ?_
      refine th_norm ?_
      refine hx_seq ?_
      refine hx_seq ?_
      refine hx_region ?_
      refine WL.qq (by simp only [EN, Nat.reduceEqDiff, reduceIte, qv_move, decide_true, Bool.not_true, Bool.not_false, decide_false, eq_self, strEq, Bool.and_self, heqS, hB1.cell, hB2.cell, hB7.cell, hB10.cell]; rfl) ?_
      refine WL.qq (by simp only [EN, Nat.reduceEqDiff, reduceIte, qv_binOp, binv_eql, eqz25, eqn25, eqm25, Option.map_some, decide_true, Bool.not_true, Bool.not_false, decide_false, eq_self, strEq, Bool.and_self, heqS, hB1.cell, hB2.cell, hB7.cell, hB10.cell]; rfl) ?_
      refine WL.nil ?_
      refine th_norm ?_
      refine hx_cond (by simp only [EN, Nat.reduceEqDiff, reduceIte, decide_true, Bool.not_true, Bool.not_false, decide_false, eq_self, strEq, Bool.and_self, heqS, hB1.cell, hB2.cell, hB7.cell, hB10.cell]; rfl) (fun hct164 => ?_) (fun hct164 => ?_)
      ·
        simp at hct164
      ·
        try simp only [BD] at hct164
        refine hx_skip ?_
        refine th_norm ?_
        refine hx_seq ?_
        refine hx_region ?_
        have kT := hT; have kl2 := hl; have kops2 := hops; have kB1 := hB1; have kB2 := hB2; have kB10 := hB10; have ks6 := hs6
        refine WL.qq (by simp only [EN, Nat.reduceEqDiff, reduceIte, qv_move, decide_true, Bool.not_true, Bool.not_false, decide_false, eq_self, strEq, Bool.and_self, heqS, hB1.cell, hB2.cell, hB7.cell, hB10.cell]; rfl) ?_
        refine WL.ce Try.call18 (by simp only [EN, Nat.reduceEqDiff, reduceIte, AR, decide_true, Bool.not_true, Bool.not_false, decide_false, eq_self, strEq, Bool.and_self, heqS, hB1.cell, hB2.cell, hB7.cell, hB10.cell]; exact tr_Clone hT) ?_
        rintro _ h11 ⟨hx11, q, rfl, hQ⟩
        replace hl := hl.ext hx11
        replace hops := hops.ext hx11
        replace hB1 := hB1.ext hx11
        replace hB2 := hB2.ext hx11
        replace hT := hT.ext hx11
        replace hs6 := hs6.ext hx11
        replace hB10 := hB10.ext hx11
        simp only [put_some]
        refine WL.qq (by simp only [EN, Nat.reduceEqDiff, reduceIte, qv_assign, decide_true, Bool.not_true, Bool.not_false, decide_false, eq_self, strEq, Bool.and_self, heqS, hB1.cell, hB2.cell, hB7.cell, hB10.cell]; rfl) ?_
        refine WL.nil ?_
        refine th_norm ?_
        refine hx_seq ?_
        refine hx_region ?_
        refine WL.qq (by simp only [EN, Nat.reduceEqDiff, reduceIte, qv_move, decide_true, Bool.not_true, Bool.not_false, decide_false, eq_self, strEq, Bool.and_self, heqS, hB1.cell, hB2.cell, hB7.cell, hB10.cell]; rfl) ?_
        refine WL.qq (by simp only [EN, Nat.reduceEqDiff, reduceIte, qv_load, ld46, readN, AR, Nat.zero_add, Nat.reduceAdd, k7_f10, decide_true, Bool.not_true, Bool.not_false, decide_false, eq_self, strEq, Bool.and_self, heqS, hB1.cell, hB2.cell, hB7.cell, hB10.cell]; rfl) ?_
        refine WL.ce Try.call16 (by simp only [EN, Nat.reduceEqDiff, reduceIte, AR, decide_true, Bool.not_true, Bool.not_false, decide_false, eq_self, strEq, Bool.and_self, heqS, hB1.cell, hB2.cell, hB7.cell, hB10.cell]; exact tr_Accept x hG hQ) ?_
        rintro _ h30 ⟨a3, c3, rfl, _, hQ2, _⟩
        simp only [put_some]
        replace hT := kT.ext hQ2.E
        replace hl := kl2.ext hQ2.E
        replace hops := kops2.ext hQ2.E
        replace hB1 := kB1.ext hQ2.E
        replace hB2 := kB2.ext hQ2.E
        replace hB10 := kB10.ext hQ2.E
        replace hs6 := ks6.ext hQ2.E
        have hE30 := hE60.trans hQ2.E
        have kops30 := hops
        have kB230 := hB2
        refine WL.nil ?_
        refine th_norm ?_
        refine hx_seq ?_
        refine hx_fresh (fun eF15 hfcf15 => ?_)
        have k0_f15 := hfcf15 0 rfl; try simp only [EN, Nat.reduceEqDiff, reduceIte, k0_f10, decide_true, Bool.not_true, Bool.not_false, decide_false, eq_self, strEq, Bool.and_self, heqS, hB1.cell, hB2.cell, hB7.cell, hB10.cell] at k0_f15
        have k3_f15 := hfcf15 3 rfl; try simp only [EN, Nat.reduceEqDiff, reduceIte, k3_f10, decide_true, Bool.not_true, Bool.not_false, decide_false, eq_self, strEq, Bool.and_self, heqS, hB1.cell, hB2.cell, hB7.cell, hB10.cell] at k3_f15
        have k9_f15 := hfcf15 9 rfl; try simp only [EN, Nat.reduceEqDiff, reduceIte, k9_f10, decide_true, Bool.not_true, Bool.not_false, decide_false, eq_self, strEq, Bool.and_self, heqS, hB1.cell, hB2.cell, hB7.cell, hB10.cell] at k9_f15
        have k11_f15 := hfcf15 11 rfl; try simp only [EN, Nat.reduceEqDiff, reduceIte, k11_f10, decide_true, Bool.not_true, Bool.not_false, decide_false, eq_self, strEq, Bool.and_self, heqS, hB1.cell, hB2.cell, hB7.cell, hB10.cell] at k11_f15
        have k12_f15 := hfcf15 12 rfl; try simp only [EN, Nat.reduceEqDiff, reduceIte, k12_f10, decide_true, Bool.not_true, Bool.not_false, decide_false, eq_self, strEq, Bool.and_self, heqS, hB1.cell, hB2.cell, hB7.cell, hB10.cell] at k12_f15
        have k19_f15 := hfcf15 19 rfl; try simp only [EN, Nat.reduceEqDiff, reduceIte, decide_true, Bool.not_true, Bool.not_false, decide_false, eq_self, strEq, Bool.and_self, heqS, hB1.cell, hB2.cell, hB7.cell, hB10.cell] at k19_f15
        have k20_f15 := hfcf15 20 rfl; try simp only [EN, Nat.reduceEqDiff, reduceIte, decide_true, Bool.not_true, Bool.not_false, decide_false, eq_self, strEq, Bool.and_self, heqS, hB1.cell, hB2.cell, hB7.cell, hB10.cell] at k20_f15
        refine hx_region ?_
        refine WL.qq (by simp only [EN, Nat.reduceEqDiff, reduceIte, qv_move, k0_f15, decide_true, Bool.not_true, Bool.not_false, decide_false, eq_self, strEq, Bool.and_self, heqS, hB1.cell, hB2.cell, hB7.cell, hB10.cell]; rfl) ?_
        refine WL.ce Try.call20 (by simp only [EN, Nat.reduceEqDiff, reduceIte, AR, decide_true, Bool.not_true, Bool.not_false, decide_false, eq_self, strEq, Bool.and_self, heqS, hB1.cell, hB2.cell, hB7.cell, hB10.cell]; exact ts_new w hw h30) ?_
        rintro _ h12 ⟨hx12, p3, rfl, hTS⟩
        replace hl := hl.ext hx12
        replace hops := hops.ext hx12
        replace hB1 := hB1.ext hx12
        replace hB2 := hB2.ext hx12
        replace hT := hT.ext hx12
        replace hs6 := hs6.ext hx12
        replace hB10 := hB10.ext hx12
        simp only [put_some]
        refine WL.qq (by simp only [EN, Nat.reduceEqDiff, reduceIte, qv_move, decide_true, Bool.not_true, Bool.not_false, decide_false, eq_self, strEq, Bool.and_self, heqS, hB1.cell, hB2.cell, hB7.cell, hB10.cell]; rfl) ?_
        refine WL.qq (by simp only [EN, Nat.reduceEqDiff, reduceIte, qv_extract, AR, decide_true, Bool.not_true, Bool.not_false, decide_false, eq_self, strEq, Bool.and_self, heqS, hB1.cell, hB2.cell, hB7.cell, hB10.cell]; rfl) ?_
        refine WL.qq (by simp only [EN, Nat.reduceEqDiff, reduceIte, qv_extract, AR, decide_true, Bool.not_true, Bool.not_false, decide_false, eq_self, strEq, Bool.and_self, heqS, hB1.cell, hB2.cell, hB7.cell, hB10.cell]; rfl) ?_
        refine WL.qq (by simp only [EN, Nat.reduceEqDiff, reduceIte, qv_assign, decide_true, Bool.not_true, Bool.not_false, decide_false, eq_self, strEq, Bool.and_self, heqS, hB1.cell, hB2.cell, hB7.cell, hB10.cell]; rfl) ?_
        refine WL.qq (by simp only [EN, Nat.reduceEqDiff, reduceIte, qv_assign, decide_true, Bool.not_true, Bool.not_false, decide_false, eq_self, strEq, Bool.and_self, heqS, hB1.cell, hB2.cell, hB7.cell, hB10.cell]; rfl) ?_
        refine WL.nil ?_
        refine th_norm ?_
        refine hx_seq ?_
        refine hx_seq ?_
        refine hx_region ?_
        refine WL.qq (by simp only [EN, Nat.reduceEqDiff, reduceIte, qv_move, decide_true, Bool.not_true, Bool.not_false, decide_false, eq_self, strEq, Bool.and_self, heqS, hB1.cell, hB2.cell, hB7.cell, hB10.cell]; rfl) ?_
        refine WL.qq (by simp only [EN, Nat.reduceEqDiff, reduceIte, qv_binOp, binv_neq, eq37, Option.map_some, decide_true, Bool.not_true, Bool.not_false, decide_false, eq_self, strEq, Bool.and_self, heqS, hB1.cell, hB2.cell, hB7.cell, hB10.cell]; rfl) ?_
        refine WL.qq (by simp only [EN, Nat.reduceEqDiff, reduceIte, qv_move, decide_true, Bool.not_true, Bool.not_false, decide_false, eq_self, strEq, Bool.and_self, heqS, hB1.cell, hB2.cell, hB7.cell, hB10.cell]; rfl) ?_
        refine WL.on (by rw [gOk_s (gd_at (t := 181) rfl (by simp only [EN, Nat.reduceEqDiff, reduceIte, k19_f15, decide_true, Bool.not_true, Bool.not_false, decide_false, eq_self, strEq, Bool.and_self, heqS, hB1.cell, hB2.cell, hB7.cell, hB10.cell] <;> rfl))]; rfl) ?_
        refine WL.qq (by simp only [EN, Nat.reduceEqDiff, reduceIte, qv_move, k19_f15, decide_true, Bool.not_true, Bool.not_false, decide_false, eq_self, strEq, Bool.and_self, heqS, hB1.cell, hB2.cell, hB7.cell, hB10.cell]; rfl) ?_
        refine WL.on (by rw [gOk_s (gd_at (t := 181) rfl (by simp only [EN, Nat.reduceEqDiff, reduceIte, k20_f15, decide_true, Bool.not_true, Bool.not_false, decide_false, eq_self, strEq, Bool.and_self, heqS, hB1.cell, hB2.cell, hB7.cell, hB10.cell] <;> rfl))]; rfl) ?_
        refine WL.qq (by simp only [EN, Nat.reduceEqDiff, reduceIte, qv_load, ld27, readN, AR, Nat.zero_add, Nat.reduceAdd, k20_f15, decide_true, Bool.not_true, Bool.not_false, decide_false, eq_self, strEq, Bool.and_self, heqS, hB1.cell, hB2.cell, hB7.cell, hB10.cell]; rfl) ?_
        refine WL.on (by rw [gOk_s (gd_at (t := 181) rfl (by simp only [EN, Nat.reduceEqDiff, reduceIte, decide_true, Bool.not_true, Bool.not_false, decide_false, eq_self, strEq, Bool.and_self, heqS, hB1.cell, hB2.cell, hB7.cell, hB10.cell] <;> rfl))]; rfl) ?_
        refine WL.cg Try.call33 (by simp only [EN, Nat.reduceEqDiff, reduceIte, AR, decide_true, Bool.not_true, Bool.not_false, decide_false, eq_self, strEq, Bool.and_self, heqS, hB1.cell, hB2.cell, hB7.cell, hB10.cell]; exact c_received hG hT ⟨a6, c6, rfl, hs6, hc6⟩) ?_
        intro h13 hx13
        replace hl := hl.ext hx13
        replace hops := hops.ext hx13
        replace hB1 := hB1.ext hx13
        replace hB2 := hB2.ext hx13
        replace hT := hT.ext hx13
        replace hs6 := hs6.ext hx13
        replace hB10 := hB10.ext hx13
        replace hTS := hTS.ext hx13
        refine WL.on (by rw [gOk_s (gd_at (t := 181) rfl (by simp only [EN, Nat.reduceEqDiff, reduceIte, decide_true, Bool.not_true, Bool.not_false, decide_false, eq_self, strEq, Bool.and_self, heqS, hB1.cell, hB2.cell, hB7.cell, hB10.cell] <;> rfl))]; rfl) ?_
        refine WL.qq (by simp only [EN, Nat.reduceEqDiff, reduceIte, qv_unOp, unv_not, decide_true, Bool.not_true, Bool.not_false, decide_false, eq_self, strEq, Bool.and_self, heqS, hB1.cell, hB2.cell, hB7.cell, hB10.cell]; rfl) ?_
        refine WL.qq (by simp only [EN, Nat.reduceEqDiff, reduceIte, qv_pick, pk_and, pk_or, GR, decide_true, Bool.not_true, Bool.not_false, decide_false, eq_self, strEq, Bool.and_self, heqS, hB1.cell, hB2.cell, hB7.cell, hB10.cell]; rfl) ?_
        refine WL.qq (by simp only [EN, Nat.reduceEqDiff, reduceIte, qv_move, decide_true, Bool.not_true, Bool.not_false, decide_false, eq_self, strEq, Bool.and_self, heqS, hB1.cell, hB2.cell, hB7.cell, hB10.cell]; rfl) ?_
        refine WL.on (by rw [gOk_s (gd_at (t := 187) rfl (by simp only [EN, Nat.reduceEqDiff, reduceIte, k19_f15, decide_true, Bool.not_true, Bool.not_false, decide_false, eq_self, strEq, Bool.and_self, heqS, hB1.cell, hB2.cell, hB7.cell, hB10.cell] <;> rfl))]; rfl) ?_
        refine WL.qq (by simp only [EN, Nat.reduceEqDiff, reduceIte, qv_move, k19_f15, decide_true, Bool.not_true, Bool.not_false, decide_false, eq_self, strEq, Bool.and_self, heqS, hB1.cell, hB2.cell, hB7.cell, hB10.cell]; rfl) ?_
        refine WL.on (by rw [gOk_s (gd_at (t := 187) rfl (by simp only [EN, Nat.reduceEqDiff, reduceIte, decide_true, Bool.not_true, Bool.not_false, decide_false, eq_self, strEq, Bool.and_self, heqS, hB1.cell, hB2.cell, hB7.cell, hB10.cell] <;> rfl))]; rfl) ?_
        refine WL.ck Try.call19 (by simp only [EN, Nat.reduceEqDiff, reduceIte, AR, decide_true, Bool.not_true, Bool.not_false, decide_false, eq_self, strEq, Bool.and_self, heqS, hB1.cell, hB2.cell, hB7.cell, hB10.cell]; exact n_eqT p) ?_
        refine WL.qq (by simp only [EN, Nat.reduceEqDiff, reduceIte, qv_pick, pk_and, pk_or, GR, decide_true, Bool.not_true, Bool.not_false, decide_false, eq_self, strEq, Bool.and_self, heqS, hB1.cell, hB2.cell, hB7.cell, hB10.cell]; rfl) ?_
        refine WL.qq (by simp only [EN, Nat.reduceEqDiff, reduceIte, qv_move, decide_true, Bool.not_true, Bool.not_false, decide_false, eq_self, strEq, Bool.and_self, heqS, hB1.cell, hB2.cell, hB7.cell, hB10.cell]; rfl) ?_
        refine WL.on (by rw [gOk_s (gd_at (t := 191) rfl (by simp only [EN, Nat.reduceEqDiff, reduceIte, k11_f15, decide_true, Bool.not_true, Bool.not_false, decide_false, eq_self, strEq, Bool.and_self, heqS, hB1.cell, hB2.cell, hB7.cell, hB10.cell] <;> rfl))]; rfl) ?_
        refine WL.qq (by simp only [EN, Nat.reduceEqDiff, reduceIte, qv_move, k11_f15, decide_true, Bool.not_true, Bool.not_false, decide_false, eq_self, strEq, Bool.and_self, heqS, hB1.cell, hB2.cell, hB7.cell, hB10.cell]; rfl) ?_
        refine WL.on (by rw [gOk_s (gd_at (t := 191) rfl (by simp only [EN, Nat.reduceEqDiff, reduceIte, k19_f15, decide_true, Bool.not_true, Bool.not_false, decide_false, eq_self, strEq, Bool.and_self, heqS, hB1.cell, hB2.cell, hB7.cell, hB10.cell] <;> rfl))]; rfl) ?_
        refine WL.qq (by simp only [EN, Nat.reduceEqDiff, reduceIte, qv_move, k19_f15, decide_true, Bool.not_true, Bool.not_false, decide_false, eq_self, strEq, Bool.and_self, heqS, hB1.cell, hB2.cell, hB7.cell, hB10.cell]; rfl) ?_
        refine WL.on (by rw [gOk_s (gd_at (t := 191) rfl (by simp only [EN, Nat.reduceEqDiff, reduceIte, decide_true, Bool.not_true, Bool.not_false, decide_false, eq_self, strEq, Bool.and_self, heqS, hB1.cell, hB2.cell, hB7.cell, hB10.cell] <;> rfl))]; rfl) ?_
        refine WL.ck Try.call19 (by simp only [EN, Nat.reduceEqDiff, reduceIte, AR, decide_true, Bool.not_true, Bool.not_false, decide_false, eq_self, strEq, Bool.and_self, heqS, hB1.cell, hB2.cell, hB7.cell, hB10.cell]; exact n_eqN p) ?_
        refine WL.qq (by simp only [EN, Nat.reduceEqDiff, reduceIte, qv_pick, pk_and, pk_or, GR, decide_true, Bool.not_true, Bool.not_false, decide_false, eq_self, strEq, Bool.and_self, heqS, hB1.cell, hB2.cell, hB7.cell, hB10.cell]; rfl) ?_
        refine WL.nil ?_
        refine th_norm ?_
        refine hx_cond (by simp only [EN, Nat.reduceEqDiff, reduceIte, decide_true, Bool.not_true, Bool.not_false, decide_false, eq_self, strEq, Bool.and_self, heqS, hB1.cell, hB2.cell, hB7.cell, hB10.cell]; rfl) (fun hct195 => ?_) (fun hct195 => ?_)
        ·
          simp at hct195
        ·
          try simp only [BD] at hct195
          refine hx_skip ?_
          refine th_norm ?_
          refine hx_seq ?_
          refine hx_region ?_
          refine WL.qq (by simp only [EN, Nat.reduceEqDiff, reduceIte, qv_move, k0_f15, decide_true, Bool.not_true, Bool.not_false, decide_false, eq_self, strEq, Bool.and_self, heqS, hB1.cell, hB2.cell, hB7.cell, hB10.cell]; rfl) ?_
          refine WL.qq (by refine qv_bld (by simp only [EN, Nat.reduceEqDiff, reduceIte, AR, decide_true, Bool.not_true, Bool.not_false, decide_false, eq_self, strEq, Bool.and_self, heqS, hB1.cell, hB2.cell, hB7.cell, hB10.cell] <;> rfl) (by rw [bl60]; simp [Instr.fill, Value.cells]; rfl)) ?_
          have q9 := hTS.lt; have q8 := hTS.E.size
          refine WL.allocSt zr60 sz60 (fun u => by simp only [EN, Nat.reduceEqDiff, reduceIte, Value.cells, decide_true, Bool.not_true, Bool.not_false, decide_false, eq_self, strEq, Bool.and_self, heqS, hB1.cell, hB2.cell, hB7.cell, hB10.cell]; rfl) ⟨rfl, rfl⟩ (by simp [Value.oneCell']) ?_
          intro h14 B14 hx14 hlt14 hB14
          replace hl := hl.ext hx14
          replace hops := hops.ext hx14
          replace hB1 := hB1.ext hx14
          replace hB2 := hB2.ext hx14
          replace hT := hT.ext hx14
          replace hs6 := hs6.ext hx14
          replace hB10 := hB10.ext hx14
          replace hTS := hTS.ext hx14
          refine WL.nil ?_
          refine th_norm ?_
          refine hx_seq ?_
          refine hx_seq ?_
          refine hx_region ?_
          have hXn : h30.size ≤ B14 := (by omega)
          refine WL.qq (by simp only [EN, Nat.reduceEqDiff, reduceIte, qv_assign, decide_true, Bool.not_true, Bool.not_false, decide_false, eq_self, strEq, Bool.and_self, heqS, hB1.cell, hB2.cell, hB7.cell, hB10.cell, hB14.cell]; rfl) ?_
          refine WL.nil ?_
          refine th_norm ?_
          refine hx_block ?_
          refine hx_loopG [10, 26, 27, 28, 198, 199, 200, 201, 202, 203, 204, 205, 206, 207, 208, 209, 210, 211, 212, 213, 214, 215, 216, 217, 218, 219, 220, 221, 222, 223, 224] (fun k e hL0 => ∃ (i : Nat) (n : Int) (a : Int) (ak : Option Addr) (cap : Nat) (K : List M2) (ar : Option Addr) (cr : Nat), os.length - i = k ∧ (i ≤ os.length) ∧ (SG w n a K) ∧ (TS h30 hL0 p3 w n a ak cap K) ∧ (RS hL0 (.agg #[iV w, iV n, iV a, .slice ar K.length cr]) w n a K) ∧ (Has hL0 B14 (.cells #[iV w, iV n, iV a, .slice ar K.length cr] 60)) ∧ e 26 = .int .i64 i) _ ⟨0, 1, 1, none, 0, [], none, 0, rfl, ?_, ?_, ?_, ?_, ?_, ?_⟩ ?_
          · omega
          · exact sg_new w hw
          · exact hTS
          · exact ⟨none, 0, rfl, slR_nil, Nat.le_refl _⟩
          · exact hB14
          · simp only [EN, Nat.reduceEqDiff, reduceIte, k0_f15, k3_f15, k9_f15, k11_f15, k12_f15, k19_f15, k20_f15, decide_true, Bool.not_true, Bool.not_false, decide_false, eq_self, strEq, Bool.and_self, heqS, hB1.cell, hB2.cell, hB7.cell, hB10.cell, hB14.cell] <;> rfl
          ·
            rintro k e0L hL0 hfr0 ⟨i, n, a, ak, cap, K, ar, cr, rfl, hi, hS, hTS, hR, hB14, i26_0⟩
            have k3_0 := hfr0 3 rfl; try simp only [EN, Nat.reduceEqDiff, reduceIte, k3_f15, decide_true, Bool.not_true, Bool.not_false, decide_false, eq_self, strEq, Bool.and_self, heqS, hB1.cell, hB2.cell, hB7.cell, hB10.cell, hB14.cell] at k3_0
            have k9_0 := hfr0 9 rfl; try simp only [EN, Nat.reduceEqDiff, reduceIte, k9_f15, decide_true, Bool.not_true, Bool.not_false, decide_false, eq_self, strEq, Bool.and_self, heqS, hB1.cell, hB2.cell, hB7.cell, hB10.cell, hB14.cell] at k9_0
            have k12_0 := hfr0 12 rfl; try simp only [EN, Nat.reduceEqDiff, reduceIte, k12_f15, decide_true, Bool.not_true, Bool.not_false, decide_false, eq_self, strEq, Bool.and_self, heqS, hB1.cell, hB2.cell, hB7.cell, hB10.cell, hB14.cell] at k12_0
            have k23_0 := hfr0 23 rfl; try simp only [EN, Nat.reduceEqDiff, reduceIte, decide_true, Bool.not_true, Bool.not_false, decide_false, eq_self, strEq, Bool.and_self, heqS, hB1.cell, hB2.cell, hB7.cell, hB10.cell, hB14.cell] at k23_0
            have k25_0 := hfr0 25 rfl; try simp only [EN, Nat.reduceEqDiff, reduceIte, decide_true, Bool.not_true, Bool.not_false, decide_false, eq_self, strEq, Bool.and_self, heqS, hB1.cell, hB2.cell, hB7.cell, hB10.cell, hB14.cell] at k25_0
            refine hx_seq ?_
            refine hx_seq ?_
            refine hx_region ?_
            refine WL.qq (by simp only [EN, Nat.reduceEqDiff, reduceIte, qv_move, i26_0, decide_true, Bool.not_true, Bool.not_false, decide_false, eq_self, strEq, Bool.and_self, heqS, hB1.cell, hB2.cell, hB7.cell, hB10.cell, hB14.cell]; rfl) ?_
            refine WL.qq (by simp only [EN, Nat.reduceEqDiff, reduceIte, qv_move, k3_0, decide_true, Bool.not_true, Bool.not_false, decide_false, eq_self, strEq, Bool.and_self, heqS, hB1.cell, hB2.cell, hB7.cell, hB10.cell, hB14.cell]; rfl) ?_
            refine WL.qq (by simp only [EN, Nat.reduceEqDiff, reduceIte, qv_len, ln57, AR, decide_true, Bool.not_true, Bool.not_false, decide_false, eq_self, strEq, Bool.and_self, heqS, hB1.cell, hB2.cell, hB7.cell, hB10.cell, hB14.cell]; rfl) ?_
            refine WL.qq (by simp only [EN, Nat.reduceEqDiff, reduceIte, qv_binOp, binv_lss, decide_true, Bool.not_true, Bool.not_false, decide_false, eq_self, strEq, Bool.and_self, heqS, hB1.cell, hB2.cell, hB7.cell, hB10.cell, hB14.cell]; rfl) ?_
            refine WL.nil ?_
            refine th_norm ?_
            refine hx_cond (by simp only [EN, Nat.reduceEqDiff, reduceIte, decide_true, Bool.not_true, Bool.not_false, decide_false, eq_self, strEq, Bool.and_self, heqS, hB1.cell, hB2.cell, hB7.cell, hB10.cell, hB14.cell]; rfl) (fun hct201 => ?_) (fun hct201 => ?_)
            ·
              try simp only [BD] at hct201
              obtain ⟨o1, ho1⟩ := atG (l := os) (i := i) (by omega)
              have hok1 := hok o1 (List.mem_of_getElem? ho1)
              obtain ⟨b, off, ha1, hr0⟩ := kops30 i o1 ho1; have hr := hTS.E.readN hr0
              have hk1 := readN_cell hr 1 _ rfl
              refine hx_skip ?_
              refine th_norm ?_
              refine hx_seq ?_
              refine hx_block ?_
              refine hx_seq ?_
              refine hx_seq ?_
              refine hx_region ?_
              refine WL.qq (by simp only [EN, Nat.reduceEqDiff, reduceIte, qv_move, k3_0, decide_true, Bool.not_true, Bool.not_false, decide_false, eq_self, strEq, Bool.and_self, heqS, hB1.cell, hB2.cell, hB7.cell, hB10.cell, hB14.cell]; rfl) ?_
              refine WL.qq (by simp only [EN, Nat.reduceEqDiff, reduceIte, qv_move, i26_0, decide_true, Bool.not_true, Bool.not_false, decide_false, eq_self, strEq, Bool.and_self, heqS, hB1.cell, hB2.cell, hB7.cell, hB10.cell, hB14.cell]; rfl) ?_
              refine WL.qq (by simp only [EN, Nat.reduceEqDiff, reduceIte, qv_indexAddr, decide_true, Bool.not_true, Bool.not_false, decide_false, eq_self, strEq, Bool.and_self, heqS, hB1.cell, hB2.cell, hB7.cell, hB10.cell, hB14.cell, ha1]; (try simp (disch := omega) only [ix57, Int.toNat_natCast]); rfl) ?_
              refine WL.qq (by simp only [EN, Nat.reduceEqDiff, reduceIte, qv_fieldAddr, fa62_1, Nat.zero_add, Nat.reduceAdd, decide_true, Bool.not_true, Bool.not_false, decide_false, eq_self, strEq, Bool.and_self, heqS, hB1.cell, hB2.cell, hB7.cell, hB10.cell, hB14.cell]; rfl) ?_
              refine WL.qq (by simp only [EN, Nat.reduceEqDiff, reduceIte, k3_0, k9_0, k12_0, k23_0, k25_0, i26_0, decide_true, Bool.not_true, Bool.not_false, decide_false, eq_self, strEq, Bool.and_self, heqS, hB1.cell, hB2.cell, hB7.cell, hB10.cell, hB14.cell, qv_load, ld9, Int.toNat_natCast, hk1]; rfl) ?_
              refine WL.qq (by simp only [EN, Nat.reduceEqDiff, reduceIte, qv_len, ln9, AR, decide_true, Bool.not_true, Bool.not_false, decide_false, eq_self, strEq, Bool.and_self, heqS, hB1.cell, hB2.cell, hB7.cell, hB10.cell, hB14.cell]; rfl) ?_
              refine WL.qq (by simp only [EN, Nat.reduceEqDiff, reduceIte, qv_binOp, binv_gtr, decide_true, Bool.not_true, Bool.not_false, decide_false, eq_self, strEq, Bool.and_self, heqS, hB1.cell, hB2.cell, hB7.cell, hB10.cell, hB14.cell]; rfl) ?_
              refine WL.nil ?_
              refine th_norm ?_
              refine hx_cond (by simp only [EN, Nat.reduceEqDiff, reduceIte, decide_true, Bool.not_true, Bool.not_false, decide_false, eq_self, strEq, Bool.and_self, heqS, hB1.cell, hB2.cell, hB7.cell, hB10.cell, hB14.cell]; rfl) (fun hct210 => ?_) (fun hct210 => ?_)
              ·
                try simp only [BD] at hct210
                refine hx_seq ?_
                refine hx_region ?_
                refine WL.cg Try.call12 (by simp only [EN, Nat.reduceEqDiff, reduceIte, AR, decide_true, Bool.not_true, Bool.not_false, decide_false, eq_self, strEq, Bool.and_self, heqS, hB1.cell, hB2.cell, hB7.cell, hB10.cell, hB14.cell]; exact c_known49 _) ?_
                intro h15 hx15
                replace hTS := hTS.ext hx15
                replace hR := hR.ext hx15
                replace hB14 := hB14.ext hx15
                refine WL.qq (by simp only [EN, Nat.reduceEqDiff, reduceIte, qv_assign, decide_true, Bool.not_true, Bool.not_false, decide_false, eq_self, strEq, Bool.and_self, heqS, hB1.cell, hB2.cell, hB7.cell, hB10.cell, hB14.cell]; rfl) ?_
                refine WL.nil ?_
                refine th_norm ?_
                refine hx_ret ?_
                refine th_ret ?_
                refine bl_ret ?_
                refine th_ret ?_
                refine th_ret ?_
                refine bl_ret ?_
                refine th_ret ?_
                refine fin_ret [.tmp 10] rfl rfl (by simp only [EN, Nat.reduceEqDiff, reduceIte, resv, k3_0, k9_0, k12_0, k23_0, k25_0, i26_0, decide_true, Bool.not_true, Bool.not_false, decide_false, eq_self, strEq, Bool.and_self, heqS, hB1.cell, hB2.cell, hB7.cell, hB10.cell, hB14.cell]; rfl) ?_  -- ret 1 r23
                exact ⟨rfl, (hE30.trans hTS.E)⟩
              ·
                try simp only [BD] at hct210
                have hb2l := (Array.getElem?_eq_some_iff.1 hB14).1; have hS2 := hS.stp o1; have hn2a := hS2.an; have hn2b := hS2.n2; have hn2c := hS2.a1; have hn2d := hS2.kw; have hn2e := hS2.w2; have hTE := hTS.E.size
                refine hx_skip ?_
                refine th_norm ?_
                refine hx_seq ?_
                apply hx_draw2M (Rel.sn 6 h30 p3 w n a ak cap K (stN w n K o1) (stA n a o1) (stK w n a K o1)) [11, 12] [6, 10] [(6, Spec.sn h30 p3 w (stN w n K o1) (stA n a o1) (stK w n a K o1)), (10, Spec.cel (Array.size hL0) #[iV 0, iV 0, iV 0, .slice none 0 0] 60)] rfl (by decide +kernel) rfl sn_stable (fun _ _ => hTS)
                refine LD.qr rfl rfl (fun hD hr => by have hB14 := hr.1.2 B14 _ _ (by decide) (by decide) hB14; have hro := (hr.2.2 hTS.E).readN hr0; simp only [EN, Nat.reduceEqDiff, reduceIte, qv_move, k23_0, decide_true, Bool.not_true, Bool.not_false, decide_false, eq_self, strEq, Bool.and_self, heqS, hB1.cell, hB2.cell, hB7.cell, hB10.cell, hB14.cell]; rfl) ?_
                refine LD.qr rfl rfl (fun hD hr => by have hB14 := hr.1.2 B14 _ _ (by decide) (by decide) hB14; have hro := (hr.2.2 hTS.E).readN hr0; simp only [EN, Nat.reduceEqDiff, reduceIte, qv_load, ld60, readN, AR, Nat.zero_add, Nat.reduceAdd, k25_0, decide_true, Bool.not_true, Bool.not_false, decide_false, eq_self, strEq, Bool.and_self, heqS, hB1.cell, hB2.cell, hB7.cell, hB10.cell, hB14.cell]; rfl) ?_
                refine LD.qr rfl rfl (fun hD hr => by have hB14 := hr.1.2 B14 _ _ (by decide) (by decide) hB14; have hro := (hr.2.2 hTS.E).readN hr0; simp only [EN, Nat.reduceEqDiff, reduceIte, qv_move, k3_0, decide_true, Bool.not_true, Bool.not_false, decide_false, eq_self, strEq, Bool.and_self, heqS, hB1.cell, hB2.cell, hB7.cell, hB10.cell, hB14.cell]; rfl) ?_
                refine LD.qr rfl rfl (fun hD hr => by have hB14 := hr.1.2 B14 _ _ (by decide) (by decide) hB14; have hro := (hr.2.2 hTS.E).readN hr0; simp only [EN, Nat.reduceEqDiff, reduceIte, qv_move, i26_0, decide_true, Bool.not_true, Bool.not_false, decide_false, eq_self, strEq, Bool.and_self, heqS, hB1.cell, hB2.cell, hB7.cell, hB10.cell, hB14.cell]; rfl) ?_
                refine LD.qr rfl rfl (fun hD hr => by have hB14 := hr.1.2 B14 _ _ (by decide) (by decide) hB14; have hro := (hr.2.2 hTS.E).readN hr0; simp only [EN, Nat.reduceEqDiff, reduceIte, qv_indexAddr, decide_true, Bool.not_true, Bool.not_false, decide_false, eq_self, strEq, Bool.and_self, heqS, hB1.cell, hB2.cell, hB7.cell, hB10.cell, hB14.cell, ha1]; (try simp (disch := omega) only [ix57, Int.toNat_natCast]); rfl) ?_
                refine LD.qr rfl rfl (fun hD hr => by have hB14 := hr.1.2 B14 _ _ (by decide) (by decide) hB14; have hro := (hr.2.2 hTS.E).readN hr0; simp only [EN, Nat.reduceEqDiff, reduceIte, k3_0, k9_0, k12_0, k23_0, k25_0, i26_0, decide_true, Bool.not_true, Bool.not_false, decide_false, eq_self, strEq, Bool.and_self, heqS, hB1.cell, hB2.cell, hB7.cell, hB10.cell, hB14.cell, qv_load, ld62, Int.toNat_natCast, hro]; rfl) ?_
                refine LD.en rfl rfl (by intro hD hr hng hf; have hB14 := hr.1.2 B14 _ _ (by decide) (by decide) hB14; have hro := (hr.2.2 hTS.E).readN hr0; exact EOp.mono (e_call Try.call25 (by simp only [EN, Nat.reduceEqDiff, reduceIte, k3_0, k9_0, k12_0, k23_0, k25_0, i26_0, decide_true, Bool.not_true, Bool.not_false, decide_false, eq_self, strEq, Bool.and_self, heqS, hB1.cell, hB2.cell, hB7.cell, hB10.cell, hB14.cell, List.map_toArray, List.map_cons, List.map_nil]; exact c_step o1 hok1 hS (hng rfl) (hr.1.rs hR))) (fun v h' hh => ⟨(sn_of (hng rfl) hh).1, (sn_of (j := 6) (hng rfl) hh).2.1, (sn_of (j := 6) (hng rfl) hh).2.2, fun k' h4 _ _ h5 => absurd h5 h4⟩)) ?_
                intro u24_6 w24_6
                obtain ⟨u6, rfl⟩ := w24_6
                refine LD.qr rfl rfl (fun hD hr => by have hB14 := hr.1.2 B14 _ _ (by decide) (by decide) hB14; have hro := (hr.2.2 hTS.E).readN hr0; simp only [EN, Nat.reduceEqDiff, reduceIte, qv_move, decide_true, Bool.not_true, Bool.not_false, decide_false, eq_self, strEq, Bool.and_self, heqS, hB1.cell, hB2.cell, hB7.cell, hB10.cell, hB14.cell]; rfl) ?_
                refine LD.qr rfl rfl (fun hD hr => by have hB14 := hr.1.2 B14 _ _ (by decide) (by decide) hB14; have hro := (hr.2.2 hTS.E).readN hr0; simp only [EN, Nat.reduceEqDiff, reduceIte, qv_extract, AR, decide_true, Bool.not_true, Bool.not_false, decide_false, eq_self, strEq, Bool.and_self, heqS, hB1.cell, hB2.cell, hB7.cell, hB10.cell, hB14.cell]; rfl) ?_
                refine LD.qr rfl rfl (fun hD hr => by have hB14 := hr.1.2 B14 _ _ (by decide) (by decide) hB14; have hro := (hr.2.2 hTS.E).readN hr0; simp only [EN, Nat.reduceEqDiff, reduceIte, qv_extract, AR, decide_true, Bool.not_true, Bool.not_false, decide_false, eq_self, strEq, Bool.and_self, heqS, hB1.cell, hB2.cell, hB7.cell, hB10.cell, hB14.cell]; rfl) ?_
                refine LD.en rfl rfl (by intro hD hr hng hf; have hB14 := hr.1.2 B14 _ _ (by decide) (by decide) hB14; have hro := (hr.2.2 hTS.E).readN hr0; exact (e_alloc zr60).mono (fun _ h' hh => by obtain ⟨B, rfl, hn⟩ := hh; have h9 := hn.fresh; have h8 := hr.1.1; exact ⟨⟨TyS.ofExt hn.ext, fun q => q.ext hn.ext, fun q => q.trans hn.ext⟩, ⟨B, by omega, rfl⟩, (fun B' hB' => by cases hB'; exact hn.at_), fun k' _ _ q e => (q e).ext hn.ext⟩)) ?_
                intro u24_10 w24_10
                obtain ⟨B6, hlt6, rfl⟩ := w24_10
                refine LD.skip rfl ?_
                refine LD.skip rfl ?_
                refine LD.nil ?_
                rintro h16 hr24 hF24
                obtain ⟨⟨al2, cap2, hT2⟩, hRr⟩ := hF24 (6, .tuple #[u6, .bool true]) (by simp) _ rfl u6 rfl
                have hB6 : Has h16 B6 (.cells #[iV 0, iV 0, iV 0, .slice none 0 0] 60) := hF24 (10, .pointer (some ⟨B6, 0, none⟩)) (by simp) _ rfl B6 rfl
                replace hB14 := hr24.1.2 B14 _ _ (by decide) (by decide) hB14
                obtain ⟨ar2, cr2, rfl, hK2, hcr2⟩ := hRr.ex
                refine WL.store (by simp only [EN, Nat.reduceEqDiff, reduceIte, k3_0, k9_0, k12_0, k23_0, k25_0, i26_0, decide_true, Bool.not_true, Bool.not_false, decide_false, eq_self, strEq, Bool.and_self, heqS, hB1.cell, hB2.cell, hB7.cell, hB10.cell, hB14.cell] <;> rfl) sz60 (by simp only [EN, Nat.reduceEqDiff, reduceIte, k3_0, k9_0, k12_0, k23_0, k25_0, i26_0, decide_true, Bool.not_true, Bool.not_false, decide_false, eq_self, strEq, Bool.and_self, heqS, hB1.cell, hB2.cell, hB7.cell, hB10.cell, hB14.cell, Value.cells]; rfl) rfl hB6 (by simp) (by intro u hu; simp at hu; rcases hu with rfl | rfl | rfl | rfl <;> rfl) ?_
                intro h61 hw61
                simp only [splc, List.take_succ_cons, List.take_zero, List.take_nil, List.drop_succ_cons, List.drop_zero, List.drop_nil, List.cons_append, List.nil_append, List.length_cons, List.length_nil, Nat.zero_add, Nat.add_zero, Nat.reduceAdd, List.append_nil] at hw61
                have hn60 : h30.size ≤ B6 := (by omega)
                replace hT2 := hT2.wr hB6 (by decide) (by decide) hw61 hn60
                replace hK2 := hK2.wr hw61 hB6 (by decide)
                have hne : B14 ≠ B6 := (by omega)
                replace hB14 := hB14.wr hw61 hne
                replace hB6 := hw61.at_
                refine WL.qq (by simp only [EN, Nat.reduceEqDiff, reduceIte, qv_assign, decide_true, Bool.not_true, Bool.not_false, decide_false, eq_self, strEq, Bool.and_self, heqS, hB1.cell, hB2.cell, hB7.cell, hB10.cell, hB14.cell]; rfl) ?_
                refine WL.nil ?_
                refine th_norm ?_
                refine hx_seq ?_
                refine hx_seq ?_
                refine hx_region ?_
                refine WL.qq (by simp only [EN, Nat.reduceEqDiff, reduceIte, qv_move, decide_true, Bool.not_true, Bool.not_false, decide_false, eq_self, strEq, Bool.and_self, heqS, hB1.cell, hB2.cell, hB7.cell, hB10.cell, hB14.cell]; rfl) ?_
                refine WL.qq (by simp only [EN, Nat.reduceEqDiff, reduceIte, qv_unOp, unv_not, decide_true, Bool.not_true, Bool.not_false, decide_false, eq_self, strEq, Bool.and_self, heqS, hB1.cell, hB2.cell, hB7.cell, hB10.cell, hB14.cell]; rfl) ?_
                refine WL.nil ?_
                refine th_norm ?_
                refine hx_cond (by simp only [EN, Nat.reduceEqDiff, reduceIte, decide_true, Bool.not_true, Bool.not_false, decide_false, eq_self, strEq, Bool.and_self, heqS, hB1.cell, hB2.cell, hB7.cell, hB10.cell, hB14.cell]; rfl) (fun hct223 => ?_) (fun hct223 => ?_)
                ·
                  simp at hct223
                ·
                  try simp only [BD] at hct223
                  refine hx_skip ?_
                  refine th_norm ?_
                  refine hx_region ?_
                  refine WL.qq (by simp only [EN, Nat.reduceEqDiff, reduceIte, k3_0, k9_0, k12_0, k23_0, k25_0, i26_0, decide_true, Bool.not_true, Bool.not_false, decide_false, eq_self, strEq, Bool.and_self, heqS, hB1.cell, hB2.cell, hB7.cell, hB10.cell, hB14.cell, qv_load, ld60, readN, hB6.cell, AR, Nat.zero_add, Nat.reduceAdd]; rfl) ?_
                  refine WL.store (by simp only [EN, Nat.reduceEqDiff, reduceIte, k3_0, k9_0, k12_0, k23_0, k25_0, i26_0, decide_true, Bool.not_true, Bool.not_false, decide_false, eq_self, strEq, Bool.and_self, heqS, hB1.cell, hB2.cell, hB7.cell, hB10.cell, hB14.cell] <;> rfl) sz60 (by simp only [EN, Nat.reduceEqDiff, reduceIte, k3_0, k9_0, k12_0, k23_0, k25_0, i26_0, decide_true, Bool.not_true, Bool.not_false, decide_false, eq_self, strEq, Bool.and_self, heqS, hB1.cell, hB2.cell, hB7.cell, hB10.cell, hB14.cell, Value.cells]; rfl) rfl hB14 (by simp) (by intro u hu; simp at hu; rcases hu with rfl | rfl | rfl | rfl <;> rfl) ?_
                  intro h62 hw62
                  simp only [splc, List.take_succ_cons, List.take_zero, List.take_nil, List.drop_succ_cons, List.drop_zero, List.drop_nil, List.cons_append, List.nil_append, List.length_cons, List.length_nil, Nat.zero_add, Nat.add_zero, Nat.reduceAdd, List.append_nil] at hw62
                  replace hT2 := hT2.wr hB14 (by decide) (by decide) hw62 hXn
                  replace hK2 := hK2.wr hw62 hB14 (by decide)
                  replace hB14 := hw62.at_
                  refine WL.nil ?_
                  refine bl_norm ?_
                  refine th_norm ?_
                  refine hx_region ?_
                  refine WL.qq (by simp only [EN, Nat.reduceEqDiff, reduceIte, qv_move, i26_0, decide_true, Bool.not_true, Bool.not_false, decide_false, eq_self, strEq, Bool.and_self, heqS, hB1.cell, hB2.cell, hB7.cell, hB10.cell, hB14.cell]; rfl) ?_
                  refine WL.qq (by simp only [EN, Nat.reduceEqDiff, reduceIte, qv_binOp, binv_add, decide_true, Bool.not_true, Bool.not_false, decide_false, eq_self, strEq, Bool.and_self, heqS, hB1.cell, hB2.cell, hB7.cell, hB10.cell, hB14.cell]; (try simp (disch := omega) only [w64, w8, wu64]); rfl) ?_
                  refine WL.qq (by simp only [EN, Nat.reduceEqDiff, reduceIte, qv_assign, decide_true, Bool.not_true, Bool.not_false, decide_false, eq_self, strEq, Bool.and_self, heqS, hB1.cell, hB2.cell, hB7.cell, hB10.cell, hB14.cell]; rfl) ?_
                  refine WL.nil ?_
                  refine th_norm ?_
                  refine ⟨rfl, ?_, _, ?_, i + 1, stN w n K o1, stA n a o1, al2, cap2, stK w n a K o1, ar2, cr2, rfl, ?_, ?_, ?_, ?_, ?_, ?_⟩  -- again 0 of loop 0
                  · (repeat (first | exact Fr.refl _ _ | refine Fr.set rfl ?_ | refine Fr.put rfl ?_ | with_reducible refine Fr.put0 ?_))
                  · omega
                  · omega
                  · exact hS2
                  · exact hT2
                  · exact ⟨ar2, cr2, rfl, hK2, hcr2⟩
                  · exact hB14
                  · simp only [EN, Nat.reduceEqDiff, reduceIte, k3_0, k9_0, k12_0, k23_0, k25_0, i26_0, decide_true, Bool.not_true, Bool.not_false, decide_false, eq_self, strEq, Bool.and_self, heqS, hB1.cell, hB2.cell, hB7.cell, hB10.cell, hB14.cell] <;> first | rfl | (congr 1; omega)
            ·
              try simp only [BD] at hct201
              have hB2 := kB230.ext hTS.E
              have kTS := hTS; have kB14 := hB14; have kR := hR; have kB2x := hB2; have hE40 := hE30.trans hTS.E; have hkw2 := hS.kw; have hw22 := hS.w2; have hn22 := hS.n2; have ha22 := hS.a1; have han2 := hS.an
              refine hx_exit ?_
              refine th_exit ?_
              refine th_exit ?_
              refine bl_hit ?_
              refine th_norm ?_
              refine hx_seq ?_
              refine hx_fresh (fun eF28 hfcf28 => ?_)
              have k9_f28 := hfcf28 9 rfl; try simp only [EN, Nat.reduceEqDiff, reduceIte, k9_0, decide_true, Bool.not_true, Bool.not_false, decide_false, eq_self, strEq, Bool.and_self, heqS, hB1.cell, hB2.cell, hB7.cell, hB10.cell, hB14.cell] at k9_f28
              have k12_f28 := hfcf28 12 rfl; try simp only [EN, Nat.reduceEqDiff, reduceIte, k12_0, decide_true, Bool.not_true, Bool.not_false, decide_false, eq_self, strEq, Bool.and_self, heqS, hB1.cell, hB2.cell, hB7.cell, hB10.cell, hB14.cell] at k12_f28
              have k23_f28 := hfcf28 23 rfl; try simp only [EN, Nat.reduceEqDiff, reduceIte, k23_0, decide_true, Bool.not_true, Bool.not_false, decide_false, eq_self, strEq, Bool.and_self, heqS, hB1.cell, hB2.cell, hB7.cell, hB10.cell, hB14.cell] at k23_f28
              have k25_f28 := hfcf28 25 rfl; try simp only [EN, Nat.reduceEqDiff, reduceIte, k25_0, decide_true, Bool.not_true, Bool.not_false, decide_false, eq_self, strEq, Bool.and_self, heqS, hB1.cell, hB2.cell, hB7.cell, hB10.cell, hB14.cell] at k25_f28
              refine hx_region ?_
              refine WL.qq (by simp only [EN, Nat.reduceEqDiff, reduceIte, qv_move, k23_f28, decide_true, Bool.not_true, Bool.not_false, decide_false, eq_self, strEq, Bool.and_self, heqS, hB1.cell, hB2.cell, hB7.cell, hB10.cell, hB14.cell]; rfl) ?_
              refine WL.ce Try.call31 (by simp only [EN, Nat.reduceEqDiff, reduceIte, AR, decide_true, Bool.not_true, Bool.not_false, decide_false, eq_self, strEq, Bool.and_self, heqS, hB1.cell, hB2.cell, hB7.cell, hB10.cell, hB14.cell]; exact c_CloneS hS hTS) ?_
              rintro _ h17 ⟨hx17, p4, al4, cap4, rfl, hU⟩
              replace hTS := hTS.ext hx17
              replace hR := hR.ext hx17
              replace hB14 := hB14.ext hx17
              replace hB2 := hB2.ext hx17
              simp only [put_some]
              refine WL.qq (by simp only [EN, Nat.reduceEqDiff, reduceIte, qv_assign, decide_true, Bool.not_true, Bool.not_false, decide_false, eq_self, strEq, Bool.and_self, heqS, hB1.cell, hB2.cell, hB7.cell, hB10.cell, hB14.cell]; rfl) ?_
              refine WL.nil ?_
              refine th_norm ?_
              refine hx_seq ?_
              refine hx_seq ?_
              refine hx_region ?_
              refine WL.qq (by simp only [EN, Nat.reduceEqDiff, reduceIte, qv_move, decide_true, Bool.not_true, Bool.not_false, decide_false, eq_self, strEq, Bool.and_self, heqS, hB1.cell, hB2.cell, hB7.cell, hB10.cell, hB14.cell]; rfl) ?_
              refine WL.qq (by simp only [EN, Nat.reduceEqDiff, reduceIte, qv_move, k23_f28, decide_true, Bool.not_true, Bool.not_false, decide_false, eq_self, strEq, Bool.and_self, heqS, hB1.cell, hB2.cell, hB7.cell, hB10.cell, hB14.cell]; rfl) ?_
              refine WL.cg Try.call32 (by simp only [EN, Nat.reduceEqDiff, reduceIte, AR, decide_true, Bool.not_true, Bool.not_false, decide_false, eq_self, strEq, Bool.and_self, heqS, hB1.cell, hB2.cell, hB7.cell, hB10.cell, hB14.cell]; exact c_EqualS hS hU hTS) ?_
              intro h18 hx18
              replace hTS := hTS.ext hx18
              replace hR := hR.ext hx18
              replace hB14 := hB14.ext hx18
              replace hB2 := hB2.ext hx18
              replace hU := hU.ext hx18
              refine WL.qq (by simp only [EN, Nat.reduceEqDiff, reduceIte, qv_unOp, unv_not, decide_true, Bool.not_true, Bool.not_false, decide_false, eq_self, strEq, Bool.and_self, heqS, hB1.cell, hB2.cell, hB7.cell, hB10.cell, hB14.cell]; rfl) ?_
              refine WL.qq (by simp only [EN, Nat.reduceEqDiff, reduceIte, qv_move, decide_true, Bool.not_true, Bool.not_false, decide_false, eq_self, strEq, Bool.and_self, heqS, hB1.cell, hB2.cell, hB7.cell, hB10.cell, hB14.cell]; rfl) ?_
              refine WL.on (by rw [gOk_s (gd_at (t := 231) rfl (by simp only [EN, Nat.reduceEqDiff, reduceIte, k23_f28, decide_true, Bool.not_true, Bool.not_false, decide_false, eq_self, strEq, Bool.and_self, heqS, hB1.cell, hB2.cell, hB7.cell, hB10.cell, hB14.cell] <;> rfl))]; rfl) ?_
              refine WL.qq (by simp only [EN, Nat.reduceEqDiff, reduceIte, qv_move, k23_f28, decide_true, Bool.not_true, Bool.not_false, decide_false, eq_self, strEq, Bool.and_self, heqS, hB1.cell, hB2.cell, hB7.cell, hB10.cell, hB14.cell]; rfl) ?_
              refine WL.on (by rw [gOk_s (gd_at (t := 231) rfl (by simp only [EN, Nat.reduceEqDiff, reduceIte, decide_true, Bool.not_true, Bool.not_false, decide_false, eq_self, strEq, Bool.and_self, heqS, hB1.cell, hB2.cell, hB7.cell, hB10.cell, hB14.cell] <;> rfl))]; rfl) ?_
              refine WL.ck Try.call32 (by simp only [EN, Nat.reduceEqDiff, reduceIte, AR, decide_true, Bool.not_true, Bool.not_false, decide_false, eq_self, strEq, Bool.and_self, heqS, hB1.cell, hB2.cell, hB7.cell, hB10.cell, hB14.cell]; exact n_eqST p3 _) ?_
              refine WL.qq (by simp only [EN, Nat.reduceEqDiff, reduceIte, qv_pick, pk_and, pk_or, GR, decide_true, Bool.not_true, Bool.not_false, decide_false, eq_self, strEq, Bool.and_self, heqS, hB1.cell, hB2.cell, hB7.cell, hB10.cell, hB14.cell]; rfl) ?_
              refine WL.qq (by simp only [EN, Nat.reduceEqDiff, reduceIte, qv_move, decide_true, Bool.not_true, Bool.not_false, decide_false, eq_self, strEq, Bool.and_self, heqS, hB1.cell, hB2.cell, hB7.cell, hB10.cell, hB14.cell]; rfl) ?_
              refine WL.on (by rw [gOk_s (gd_at (t := 235) rfl (by simp only [EN, Nat.reduceEqDiff, reduceIte, k12_f28, decide_true, Bool.not_true, Bool.not_false, decide_false, eq_self, strEq, Bool.and_self, heqS, hB1.cell, hB2.cell, hB7.cell, hB10.cell, hB14.cell] <;> rfl))]; rfl) ?_
              refine WL.qq (by simp only [EN, Nat.reduceEqDiff, reduceIte, qv_move, k12_f28, decide_true, Bool.not_true, Bool.not_false, decide_false, eq_self, strEq, Bool.and_self, heqS, hB1.cell, hB2.cell, hB7.cell, hB10.cell, hB14.cell]; rfl) ?_
              refine WL.on (by rw [gOk_s (gd_at (t := 235) rfl (by simp only [EN, Nat.reduceEqDiff, reduceIte, k23_f28, decide_true, Bool.not_true, Bool.not_false, decide_false, eq_self, strEq, Bool.and_self, heqS, hB1.cell, hB2.cell, hB7.cell, hB10.cell, hB14.cell] <;> rfl))]; rfl) ?_
              refine WL.qq (by simp only [EN, Nat.reduceEqDiff, reduceIte, qv_move, k23_f28, decide_true, Bool.not_true, Bool.not_false, decide_false, eq_self, strEq, Bool.and_self, heqS, hB1.cell, hB2.cell, hB7.cell, hB10.cell, hB14.cell]; rfl) ?_
              refine WL.on (by rw [gOk_s (gd_at (t := 235) rfl (by simp only [EN, Nat.reduceEqDiff, reduceIte, decide_true, Bool.not_true, Bool.not_false, decide_false, eq_self, strEq, Bool.and_self, heqS, hB1.cell, hB2.cell, hB7.cell, hB10.cell, hB14.cell] <;> rfl))]; rfl) ?_
              refine WL.ck Try.call32 (by simp only [EN, Nat.reduceEqDiff, reduceIte, AR, decide_true, Bool.not_true, Bool.not_false, decide_false, eq_self, strEq, Bool.and_self, heqS, hB1.cell, hB2.cell, hB7.cell, hB10.cell, hB14.cell]; exact n_eqSN p3 _) ?_
              refine WL.qq (by simp only [EN, Nat.reduceEqDiff, reduceIte, qv_pick, pk_and, pk_or, GR, decide_true, Bool.not_true, Bool.not_false, decide_false, eq_self, strEq, Bool.and_self, heqS, hB1.cell, hB2.cell, hB7.cell, hB10.cell, hB14.cell]; rfl) ?_
              refine WL.nil ?_
              refine th_norm ?_
              refine hx_cond (by simp only [EN, Nat.reduceEqDiff, reduceIte, decide_true, Bool.not_true, Bool.not_false, decide_false, eq_self, strEq, Bool.and_self, heqS, hB1.cell, hB2.cell, hB7.cell, hB10.cell, hB14.cell]; rfl) (fun hct239 => ?_) (fun hct239 => ?_)
              ·
                simp at hct239
              ·
                try simp only [BD] at hct239
                refine hx_skip ?_
                refine th_norm ?_
                refine hx_seq ?_
                refine hx_fresh (fun eF31 hfcf31 => ?_)
                have k9_f31 := hfcf31 9 rfl; try simp only [EN, Nat.reduceEqDiff, reduceIte, k9_f28, decide_true, Bool.not_true, Bool.not_false, decide_false, eq_self, strEq, Bool.and_self, heqS, hB1.cell, hB2.cell, hB7.cell, hB10.cell, hB14.cell] at k9_f31
                have k23_f31 := hfcf31 23 rfl; try simp only [EN, Nat.reduceEqDiff, reduceIte, k23_f28, decide_true, Bool.not_true, Bool.not_false, decide_false, eq_self, strEq, Bool.and_self, heqS, hB1.cell, hB2.cell, hB7.cell, hB10.cell, hB14.cell] at k23_f31
                have k25_f31 := hfcf31 25 rfl; try simp only [EN, Nat.reduceEqDiff, reduceIte, k25_f28, decide_true, Bool.not_true, Bool.not_false, decide_false, eq_self, strEq, Bool.and_self, heqS, hB1.cell, hB2.cell, hB7.cell, hB10.cell, hB14.cell] at k25_f31
                have k29_f31 := hfcf31 29 rfl; try simp only [EN, Nat.reduceEqDiff, reduceIte, decide_true, Bool.not_true, Bool.not_false, decide_false, eq_self, strEq, Bool.and_self, heqS, hB1.cell, hB2.cell, hB7.cell, hB10.cell, hB14.cell] at k29_f31
                refine hx_region ?_
                refine WL.qq (by simp only [EN, Nat.reduceEqDiff, reduceIte, qv_move, k29_f31, decide_true, Bool.not_true, Bool.not_false, decide_false, eq_self, strEq, Bool.and_self, heqS, hB1.cell, hB2.cell, hB7.cell, hB10.cell, hB14.cell]; rfl) ?_
                refine WL.qq (by simp only [EN, Nat.reduceEqDiff, reduceIte, qv_load, ld60, readN, AR, Nat.zero_add, Nat.reduceAdd, k25_f31, decide_true, Bool.not_true, Bool.not_false, decide_false, eq_self, strEq, Bool.and_self, heqS, hB1.cell, hB2.cell, hB7.cell, hB10.cell, hB14.cell]; rfl) ?_
                refine WL.qq (by simp only [EN, Nat.reduceEqDiff, reduceIte, qv_load, ld62, readN, AR, Nat.zero_add, Nat.reduceAdd, k9_f31, decide_true, Bool.not_true, Bool.not_false, decide_false, eq_self, strEq, Bool.and_self, heqS, hB1.cell, hB2.cell, hB7.cell, hB10.cell, hB14.cell]; rfl) ?_
                refine WL.ce Try.call25 (by simp only [EN, Nat.reduceEqDiff, reduceIte, AR, decide_true, Bool.not_true, Bool.not_false, decide_false, eq_self, strEq, Bool.and_self, heqS, hB1.cell, hB2.cell, hB7.cell, hB10.cell, hB14.cell]; exact c_step o hoo hS hU hR) ?_
                rintro _ h70 ⟨u5, rfl, hR5, _, al5, cap5, hU5, _⟩
                simp only [put_some]
                replace hTS := kTS.ext hU5.E
                replace hB14 := kB14.ext hU5.E
                obtain ⟨ar5, cr5, rfl, hK5, hcr5⟩ := hR5.ex
                obtain ⟨ar6, cr6, hae6, hK6, hcr6⟩ := (kR.ext hU5.E).ex
                simp only [Value.agg.injEq, Array.mk.injEq, List.cons.injEq, Value.slice.injEq, true_and, and_true] at hae6
                obtain ⟨rfl, rfl⟩ := hae6
                have hE70 := hE40.trans hU5.E
                refine WL.qq (by simp only [EN, Nat.reduceEqDiff, reduceIte, qv_move, decide_true, Bool.not_true, Bool.not_false, decide_false, eq_self, strEq, Bool.and_self, heqS, hB1.cell, hB2.cell, hB7.cell, hB10.cell, hB14.cell]; rfl) ?_
                refine WL.qq (by simp only [EN, Nat.reduceEqDiff, reduceIte, qv_extract, AR, decide_true, Bool.not_true, Bool.not_false, decide_false, eq_self, strEq, Bool.and_self, heqS, hB1.cell, hB2.cell, hB7.cell, hB10.cell, hB14.cell]; rfl) ?_
                refine WL.qq (by simp only [EN, Nat.reduceEqDiff, reduceIte, qv_extract, AR, decide_true, Bool.not_true, Bool.not_false, decide_false, eq_self, strEq, Bool.and_self, heqS, hB1.cell, hB2.cell, hB7.cell, hB10.cell, hB14.cell]; rfl) ?_
                refine WL.allocSt zr60 sz60 (fun u => by simp only [EN, Nat.reduceEqDiff, reduceIte, Value.cells, decide_true, Bool.not_true, Bool.not_false, decide_false, eq_self, strEq, Bool.and_self, heqS, hB1.cell, hB2.cell, hB7.cell, hB10.cell, hB14.cell]; rfl) ⟨rfl, rfl⟩ (by simp [Value.oneCell']) ?_
                intro h19 B19 hx19 hlt19 hB19
                replace hTS := hTS.ext hx19
                replace hB14 := hB14.ext hx19
                replace hK6 := hK6.ext hx19
                replace hU5 := hU5.ext hx19
                refine WL.qq (by simp only [EN, Nat.reduceEqDiff, reduceIte, qv_assign, decide_true, Bool.not_true, Bool.not_false, decide_false, eq_self, strEq, Bool.and_self, heqS, hB1.cell, hB2.cell, hB7.cell, hB10.cell, hB14.cell, hB19.cell]; rfl) ?_
                refine WL.nil ?_
                refine th_norm ?_
                refine hx_seq ?_
                refine hx_region ?_
                refine WL.qq (by simp only [EN, Nat.reduceEqDiff, reduceIte, qv_fieldAddr, fa60_1, Nat.zero_add, Nat.reduceAdd, decide_true, Bool.not_true, Bool.not_false, decide_false, eq_self, strEq, Bool.and_self, heqS, hB1.cell, hB2.cell, hB7.cell, hB10.cell, hB14.cell, hB19.cell]; rfl) ?_
                refine WL.qq (by simp only [EN, Nat.reduceEqDiff, reduceIte, qv_load, ld3, readN, AR, Nat.zero_add, Nat.reduceAdd, decide_true, Bool.not_true, Bool.not_false, decide_false, eq_self, strEq, Bool.and_self, heqS, hB1.cell, hB2.cell, hB7.cell, hB10.cell, hB14.cell, hB19.cell]; rfl) ?_
                refine WL.qq (by simp only [EN, Nat.reduceEqDiff, reduceIte, qv_fieldAddr, fa60_1, Nat.zero_add, Nat.reduceAdd, k25_f31, decide_true, Bool.not_true, Bool.not_false, decide_false, eq_self, strEq, Bool.and_self, heqS, hB1.cell, hB2.cell, hB7.cell, hB10.cell, hB14.cell, hB19.cell]; rfl) ?_
                refine WL.qq (by simp only [EN, Nat.reduceEqDiff, reduceIte, qv_load, ld3, readN, AR, Nat.zero_add, Nat.reduceAdd, decide_true, Bool.not_true, Bool.not_false, decide_false, eq_self, strEq, Bool.and_self, heqS, hB1.cell, hB2.cell, hB7.cell, hB10.cell, hB14.cell, hB19.cell]; rfl) ?_
                refine WL.qq (by simp only [EN, Nat.reduceEqDiff, reduceIte, qv_binOp, binv_neq, eq3, Option.map_some, decide_true, Bool.not_true, Bool.not_false, decide_false, eq_self, strEq, Bool.and_self, heqS, hB1.cell, hB2.cell, hB7.cell, hB10.cell, hB14.cell, hB19.cell]; rfl) ?_
                refine WL.qq (by simp only [EN, Nat.reduceEqDiff, reduceIte, qv_move, decide_true, Bool.not_true, Bool.not_false, decide_false, eq_self, strEq, Bool.and_self, heqS, hB1.cell, hB2.cell, hB7.cell, hB10.cell, hB14.cell, hB19.cell]; rfl) ?_
                refine WL.cq (gd_at (t := 252) rfl (by simp only [EN, Nat.reduceEqDiff, reduceIte, decide_true, Bool.not_true, Bool.not_false, decide_false, eq_self, strEq, Bool.and_self, heqS, hB1.cell, hB2.cell, hB7.cell, hB10.cell, hB14.cell, hB19.cell] <;> rfl)) (fun hg32_6 => by simp only [EN, Nat.reduceEqDiff, reduceIte, qv_fieldAddr, fa60_2, Nat.zero_add, Nat.reduceAdd, decide_true, Bool.not_true, Bool.not_false, decide_false, eq_self, strEq, Bool.and_self, heqS, hB1.cell, hB2.cell, hB7.cell, hB10.cell, hB14.cell, hB19.cell, hg32_6, GR]; rfl) ?_
                refine WL.cq (gd_at (t := 252) rfl (by simp only [EN, Nat.reduceEqDiff, reduceIte, decide_true, Bool.not_true, Bool.not_false, decide_false, eq_self, strEq, Bool.and_self, heqS, hB1.cell, hB2.cell, hB7.cell, hB10.cell, hB14.cell, hB19.cell] <;> rfl)) (fun hg32_7 => by simp only [EN, Nat.reduceEqDiff, reduceIte, qv_load, ld3, readN, AR, Nat.zero_add, Nat.reduceAdd, decide_true, Bool.not_true, Bool.not_false, decide_false, eq_self, strEq, Bool.and_self, heqS, hB1.cell, hB2.cell, hB7.cell, hB10.cell, hB14.cell, hB19.cell, hg32_7, GR]; rfl) ?_
                refine WL.cq (gd_at (t := 252) rfl (by simp only [EN, Nat.reduceEqDiff, reduceIte, k25_f31, decide_true, Bool.not_true, Bool.not_false, decide_false, eq_self, strEq, Bool.and_self, heqS, hB1.cell, hB2.cell, hB7.cell, hB10.cell, hB14.cell, hB19.cell] <;> rfl)) (fun hg32_8 => by simp only [EN, Nat.reduceEqDiff, reduceIte, qv_fieldAddr, fa60_2, Nat.zero_add, Nat.reduceAdd, k25_f31, decide_true, Bool.not_true, Bool.not_false, decide_false, eq_self, strEq, Bool.and_self, heqS, hB1.cell, hB2.cell, hB7.cell, hB10.cell, hB14.cell, hB19.cell, hg32_8, GR]; rfl) ?_
                refine WL.cq (gd_at (t := 252) rfl (by simp only [EN, Nat.reduceEqDiff, reduceIte, decide_true, Bool.not_true, Bool.not_false, decide_false, eq_self, strEq, Bool.and_self, heqS, hB1.cell, hB2.cell, hB7.cell, hB10.cell, hB14.cell, hB19.cell] <;> rfl)) (fun hg32_9 => by simp only [EN, Nat.reduceEqDiff, reduceIte, qv_load, ld3, readN, AR, Nat.zero_add, Nat.reduceAdd, decide_true, Bool.not_true, Bool.not_false, decide_false, eq_self, strEq, Bool.and_self, heqS, hB1.cell, hB2.cell, hB7.cell, hB10.cell, hB14.cell, hB19.cell, hg32_9, GR]; rfl) ?_
                refine WL.cq (gd_at (t := 252) rfl (by simp only [EN, Nat.reduceEqDiff, reduceIte, decide_true, Bool.not_true, Bool.not_false, decide_false, eq_self, strEq, Bool.and_self, heqS, hB1.cell, hB2.cell, hB7.cell, hB10.cell, hB14.cell, hB19.cell] <;> rfl)) (fun hg32_10 => by simp only [EN, Nat.reduceEqDiff, reduceIte, qv_binOp, binv_neq, eq3, Option.map_some, decide_true, Bool.not_true, Bool.not_false, decide_false, eq_self, strEq, Bool.and_self, heqS, hB1.cell, hB2.cell, hB7.cell, hB10.cell, hB14.cell, hB19.cell, hg32_10, GR]; rfl) ?_
                refine WL.qq (by simp only [EN, Nat.reduceEqDiff, reduceIte, qv_pick, pk_and, pk_or, GR, decide_true, Bool.not_true, Bool.not_false, decide_false, eq_self, strEq, Bool.and_self, heqS, hB1.cell, hB2.cell, hB7.cell, hB10.cell, hB14.cell, hB19.cell]; rfl) ?_
                refine WL.qq (by simp only [EN, Nat.reduceEqDiff, reduceIte, qv_assign, decide_true, Bool.not_true, Bool.not_false, decide_false, eq_self, strEq, Bool.and_self, heqS, hB1.cell, hB2.cell, hB7.cell, hB10.cell, hB14.cell, hB19.cell]; rfl) ?_
                refine WL.nil ?_
                refine th_norm ?_
                refine hx_seq ?_
                refine hx_fresh (fun eF33 hfcf33 => ?_)
                have k23_f33 := hfcf33 23 rfl; try simp only [EN, Nat.reduceEqDiff, reduceIte, k23_f31, decide_true, Bool.not_true, Bool.not_false, decide_false, eq_self, strEq, Bool.and_self, heqS, hB1.cell, hB2.cell, hB7.cell, hB10.cell, hB14.cell, hB19.cell] at k23_f33
                have k25_f33 := hfcf33 25 rfl; try simp only [EN, Nat.reduceEqDiff, reduceIte, k25_f31, decide_true, Bool.not_true, Bool.not_false, decide_false, eq_self, strEq, Bool.and_self, heqS, hB1.cell, hB2.cell, hB7.cell, hB10.cell, hB14.cell, hB19.cell] at k25_f33
                have k29_f33 := hfcf33 29 rfl; try simp only [EN, Nat.reduceEqDiff, reduceIte, k29_f31, decide_true, Bool.not_true, Bool.not_false, decide_false, eq_self, strEq, Bool.and_self, heqS, hB1.cell, hB2.cell, hB7.cell, hB10.cell, hB14.cell, hB19.cell] at k29_f33
                have k31_f33 := hfcf33 31 rfl; try simp only [EN, Nat.reduceEqDiff, reduceIte, decide_true, Bool.not_true, Bool.not_false, decide_false, eq_self, strEq, Bool.and_self, heqS, hB1.cell, hB2.cell, hB7.cell, hB10.cell, hB14.cell, hB19.cell] at k31_f33
                have k32_f33 := hfcf33 32 rfl; try simp only [EN, Nat.reduceEqDiff, reduceIte, decide_true, Bool.not_true, Bool.not_false, decide_false, eq_self, strEq, Bool.and_self, heqS, hB1.cell, hB2.cell, hB7.cell, hB10.cell, hB14.cell, hB19.cell] at k32_f33
                apply hx_draw2 Rel.grows [] [0, 6, 9, 13, 21] [(0, Spec.is _), (6, (Spec.slg 2 msgL K)), (9, (Spec.is (.bool true))), (13, Spec.is _), (21, Spec.is _)] rfl (by decide +kernel) rfl
                refine LD.ck rfl rfl Try.call12 (by intro hD hr; have hx : Ext _ _ := hr; have hTS := hTS.ext hx; have hB14 := hB14.ext hx; have hK6 := hK6.ext hx; have hU5 := hU5.ext hx; have hB19 := hB19.ext hx; simp only [EN, Nat.reduceEqDiff, reduceIte, AR, decide_true, Bool.not_true, Bool.not_false, decide_false, eq_self, strEq, Bool.and_self, heqS, hB1.cell, hB2.cell, hB7.cell, hB10.cell, hB14.cell, hB19.cell]; exact c_known49 _) ?_
                refine LD.qq rfl rfl (by simp only [EN, Nat.reduceEqDiff, reduceIte, qv_move, decide_true, Bool.not_true, Bool.not_false, decide_false, eq_self, strEq, Bool.and_self, heqS, hB1.cell, hB2.cell, hB7.cell, hB10.cell, hB14.cell, hB19.cell]; rfl) ?_
                refine LD.on (by rw [gOk_s (gd_at (t := 260) rfl (by simp only [EN, Nat.reduceEqDiff, reduceIte, k31_f33, decide_true, Bool.not_true, Bool.not_false, decide_false, eq_self, strEq, Bool.and_self, heqS, hB1.cell, hB2.cell, hB7.cell, hB10.cell, hB14.cell, hB19.cell] <;> rfl))]; rfl) ?_
                refine LD.qq rfl rfl (by simp only [EN, Nat.reduceEqDiff, reduceIte, qv_move, k31_f33, decide_true, Bool.not_true, Bool.not_false, decide_false, eq_self, strEq, Bool.and_self, heqS, hB1.cell, hB2.cell, hB7.cell, hB10.cell, hB14.cell, hB19.cell]; rfl) ?_
                refine LD.qq rfl rfl (by simp only [EN, Nat.reduceEqDiff, reduceIte, qv_pick, pk_and, pk_or, GR, decide_true, Bool.not_true, Bool.not_false, decide_false, eq_self, strEq, Bool.and_self, heqS, hB1.cell, hB2.cell, hB7.cell, hB10.cell, hB14.cell, hB19.cell]; rfl) ?_
                refine LD.qq rfl rfl (by simp only [EN, Nat.reduceEqDiff, reduceIte, qv_move, decide_true, Bool.not_true, Bool.not_false, decide_false, eq_self, strEq, Bool.and_self, heqS, hB1.cell, hB2.cell, hB7.cell, hB10.cell, hB14.cell, hB19.cell]; rfl) ?_
                refine LD.on (by rw [gOk_s (gd_at (t := 263) rfl (by simp only [EN, Nat.reduceEqDiff, reduceIte, k23_f33, decide_true, Bool.not_true, Bool.not_false, decide_false, eq_self, strEq, Bool.and_self, heqS, hB1.cell, hB2.cell, hB7.cell, hB10.cell, hB14.cell, hB19.cell] <;> rfl))]; rfl) ?_
                refine LD.qq rfl rfl (by simp only [EN, Nat.reduceEqDiff, reduceIte, qv_move, k23_f33, decide_true, Bool.not_true, Bool.not_false, decide_false, eq_self, strEq, Bool.and_self, heqS, hB1.cell, hB2.cell, hB7.cell, hB10.cell, hB14.cell, hB19.cell]; rfl) ?_
                refine LD.on (by rw [gOk_s (gd_at (t := 263) rfl (by simp only [EN, Nat.reduceEqDiff, reduceIte, decide_true, Bool.not_true, Bool.not_false, decide_false, eq_self, strEq, Bool.and_self, heqS, hB1.cell, hB2.cell, hB7.cell, hB10.cell, hB14.cell, hB19.cell] <;> rfl))]; rfl) ?_
                refine LD.es rfl rfl (by intro hD hr hf; have hx : Ext _ _ := hr; have hTS := hTS.ext hx; have hB14 := hB14.ext hx; have hK6 := hK6.ext hx; have hU5 := hU5.ext hx; have hB19 := hB19.ext hx; exact EOp.mono (e_call Try.call21 (by simp only [EN, Nat.reduceEqDiff, reduceIte, k23_f33, k25_f33, k29_f33, k31_f33, k32_f33, decide_true, Bool.not_true, Bool.not_false, decide_false, eq_self, strEq, Bool.and_self, heqS, hB1.cell, hB2.cell, hB7.cell, hB10.cell, hB14.cell, hB19.cell, List.map_toArray, List.map_cons, List.map_nil]; exact c_Pending hS hTS)) (fun v h' hh => by obtain ⟨h1, ho⟩ := hh; obtain ⟨a5, c5, rfl, hk5, _⟩ := KO.of ho; exact ⟨h1, ⟨a5, c5, rfl⟩, fun _ _ _ hv => by cases hv; exact hk5.rd.rd⟩)) ?_
                intro u33_6 w33_6
                obtain ⟨a11, c11, rfl⟩ := w33_6
                refine LD.on (by rw [gOk_s (gd_at (t := 263) rfl (by simp only [EN, Nat.reduceEqDiff, reduceIte, k25_f33, decide_true, Bool.not_true, Bool.not_false, decide_false, eq_self, strEq, Bool.and_self, heqS, hB1.cell, hB2.cell, hB7.cell, hB10.cell, hB14.cell, hB19.cell] <;> rfl))]; rfl) ?_
                refine LD.qq rfl rfl (by simp only [EN, Nat.reduceEqDiff, reduceIte, qv_fieldAddr, fa60_3, Nat.zero_add, Nat.reduceAdd, k25_f33, decide_true, Bool.not_true, Bool.not_false, decide_false, eq_self, strEq, Bool.and_self, heqS, hB1.cell, hB2.cell, hB7.cell, hB10.cell, hB14.cell, hB19.cell]; rfl) ?_
                refine LD.on (by rw [gOk_s (gd_at (t := 263) rfl (by simp only [EN, Nat.reduceEqDiff, reduceIte, decide_true, Bool.not_true, Bool.not_false, decide_false, eq_self, strEq, Bool.and_self, heqS, hB1.cell, hB2.cell, hB7.cell, hB10.cell, hB14.cell, hB19.cell] <;> rfl))]; rfl) ?_
                refine LD.qq rfl rfl (by simp only [EN, Nat.reduceEqDiff, reduceIte, qv_load, ld22, readN, AR, Nat.zero_add, Nat.reduceAdd, decide_true, Bool.not_true, Bool.not_false, decide_false, eq_self, strEq, Bool.and_self, heqS, hB1.cell, hB2.cell, hB7.cell, hB10.cell, hB14.cell, hB19.cell]; rfl) ?_
                refine LD.on (by rw [gOk_s (gd_at (t := 263) rfl (by simp only [EN, Nat.reduceEqDiff, reduceIte, decide_true, Bool.not_true, Bool.not_false, decide_false, eq_self, strEq, Bool.and_self, heqS, hB1.cell, hB2.cell, hB7.cell, hB10.cell, hB14.cell, hB19.cell] <;> rfl))]; rfl) ?_
                refine LD.es rfl rfl (by intro hD hr hf; have hx : Ext _ _ := hr; have hTS := hTS.ext hx; have hB14 := hB14.ext hx; have hK6 := hK6.ext hx; have hU5 := hU5.ext hx; have hB19 := hB19.ext hx; have m11 := hf (6, .slice a11 K.length c11) (by simp) (by show tb _ _ 6 = true; decide +kernel) _ rfl _ _ _ rfl; exact EOp.mono (e_call Try.call27 (by simp only [EN, Nat.reduceEqDiff, reduceIte, k23_f33, k25_f33, k29_f33, k31_f33, k32_f33, decide_true, Bool.not_true, Bool.not_false, decide_false, eq_self, strEq, Bool.and_self, heqS, hB1.cell, hB2.cell, hB7.cell, hB10.cell, hB14.cell, hB19.cell, List.map_toArray, List.map_cons, List.map_nil]; exact c_msgs a11 K c11 ar K cr (by omega) m11 hK6.rd)) (fun _ _ hh => by obtain ⟨rfl, rfl⟩ := hh; exact ⟨Ext.refl _, by simp [Spec.is], trivial⟩)) ?_
                intro u33_9 w33_9
                have hu9 : u33_9 = _ := w33_9
                subst hu9
                refine LD.qq rfl rfl (by simp only [EN, Nat.reduceEqDiff, reduceIte, qv_pick, pk_and, pk_or, GR, decide_true, Bool.not_true, Bool.not_false, decide_false, eq_self, strEq, Bool.and_self, heqS, hB1.cell, hB2.cell, hB7.cell, hB10.cell, hB14.cell, hB19.cell]; rfl) ?_
                refine LD.qq rfl rfl (by simp only [EN, Nat.reduceEqDiff, reduceIte, qv_move, decide_true, Bool.not_true, Bool.not_false, decide_false, eq_self, strEq, Bool.and_self, heqS, hB1.cell, hB2.cell, hB7.cell, hB10.cell, hB14.cell, hB19.cell]; rfl) ?_
                refine LD.on (by rw [gOk_s (gd_at (t := 270) rfl (by simp only [EN, Nat.reduceEqDiff, reduceIte, k23_f33, decide_true, Bool.not_true, Bool.not_false, decide_false, eq_self, strEq, Bool.and_self, heqS, hB1.cell, hB2.cell, hB7.cell, hB10.cell, hB14.cell, hB19.cell] <;> rfl))]; rfl) ?_
                refine LD.qq rfl rfl (by simp only [EN, Nat.reduceEqDiff, reduceIte, qv_move, k23_f33, decide_true, Bool.not_true, Bool.not_false, decide_false, eq_self, strEq, Bool.and_self, heqS, hB1.cell, hB2.cell, hB7.cell, hB10.cell, hB14.cell, hB19.cell]; rfl) ?_
                refine LD.on (by rw [gOk_s (gd_at (t := 270) rfl (by simp only [EN, Nat.reduceEqDiff, reduceIte, decide_true, Bool.not_true, Bool.not_false, decide_false, eq_self, strEq, Bool.and_self, heqS, hB1.cell, hB2.cell, hB7.cell, hB10.cell, hB14.cell, hB19.cell] <;> rfl))]; rfl) ?_
                refine LD.ck rfl rfl Try.call26 (by intro hD hr; have hx : Ext _ _ := hr; have hTS := hTS.ext hx; have hB14 := hB14.ext hx; have hK6 := hK6.ext hx; have hU5 := hU5.ext hx; have hB19 := hB19.ext hx; simp only [EN, Nat.reduceEqDiff, reduceIte, AR, decide_true, Bool.not_true, Bool.not_false, decide_false, eq_self, strEq, Bool.and_self, heqS, hB1.cell, hB2.cell, hB7.cell, hB10.cell, hB14.cell, hB19.cell]; exact (c_NextS hTS).grow) ?_
                refine LD.on (by rw [gOk_s (gd_at (t := 270) rfl (by simp only [EN, Nat.reduceEqDiff, reduceIte, k25_f33, decide_true, Bool.not_true, Bool.not_false, decide_false, eq_self, strEq, Bool.and_self, heqS, hB1.cell, hB2.cell, hB7.cell, hB10.cell, hB14.cell, hB19.cell] <;> rfl))]; rfl) ?_
                refine LD.qq rfl rfl (by simp only [EN, Nat.reduceEqDiff, reduceIte, qv_fieldAddr, fa60_1, Nat.zero_add, Nat.reduceAdd, k25_f33, decide_true, Bool.not_true, Bool.not_false, decide_false, eq_self, strEq, Bool.and_self, heqS, hB1.cell, hB2.cell, hB7.cell, hB10.cell, hB14.cell, hB19.cell]; rfl) ?_
                refine LD.on (by rw [gOk_s (gd_at (t := 270) rfl (by simp only [EN, Nat.reduceEqDiff, reduceIte, decide_true, Bool.not_true, Bool.not_false, decide_false, eq_self, strEq, Bool.and_self, heqS, hB1.cell, hB2.cell, hB7.cell, hB10.cell, hB14.cell, hB19.cell] <;> rfl))]; rfl) ?_
                refine LD.qq rfl rfl (by simp only [EN, Nat.reduceEqDiff, reduceIte, qv_load, ld3, readN, AR, Nat.zero_add, Nat.reduceAdd, decide_true, Bool.not_true, Bool.not_false, decide_false, eq_self, strEq, Bool.and_self, heqS, hB1.cell, hB2.cell, hB7.cell, hB10.cell, hB14.cell, hB19.cell]; rfl) ?_
                refine LD.on (by rw [gOk_s (gd_at (t := 270) rfl (by simp only [EN, Nat.reduceEqDiff, reduceIte, decide_true, Bool.not_true, Bool.not_false, decide_false, eq_self, strEq, Bool.and_self, heqS, hB1.cell, hB2.cell, hB7.cell, hB10.cell, hB14.cell, hB19.cell] <;> rfl))]; rfl) ?_
                refine LD.qq rfl rfl (by simp only [EN, Nat.reduceEqDiff, reduceIte, qv_binOp, binv_eql, eq3, Option.map_some, decide_true, Bool.not_true, Bool.not_false, decide_false, eq_self, strEq, Bool.and_self, heqS, hB1.cell, hB2.cell, hB7.cell, hB10.cell, hB14.cell, hB19.cell]; rfl) ?_
                refine LD.qq rfl rfl (by simp only [EN, Nat.reduceEqDiff, reduceIte, qv_pick, pk_and, pk_or, GR, decide_true, Bool.not_true, Bool.not_false, decide_false, eq_self, strEq, Bool.and_self, heqS, hB1.cell, hB2.cell, hB7.cell, hB10.cell, hB14.cell, hB19.cell]; rfl) ?_
                refine LD.qq rfl rfl (by simp only [EN, Nat.reduceEqDiff, reduceIte, qv_move, decide_true, Bool.not_true, Bool.not_false, decide_false, eq_self, strEq, Bool.and_self, heqS, hB1.cell, hB2.cell, hB7.cell, hB10.cell, hB14.cell, hB19.cell]; rfl) ?_
                refine LD.on (by rw [gOk_s (gd_at (t := 277) rfl (by simp only [EN, Nat.reduceEqDiff, reduceIte, k29_f33, decide_true, Bool.not_true, Bool.not_false, decide_false, eq_self, strEq, Bool.and_self, heqS, hB1.cell, hB2.cell, hB7.cell, hB10.cell, hB14.cell, hB19.cell] <;> rfl))]; rfl) ?_
                refine LD.qq rfl rfl (by simp only [EN, Nat.reduceEqDiff, reduceIte, qv_move, k29_f33, decide_true, Bool.not_true, Bool.not_false, decide_false, eq_self, strEq, Bool.and_self, heqS, hB1.cell, hB2.cell, hB7.cell, hB10.cell, hB14.cell, hB19.cell]; rfl) ?_
                refine LD.on (by rw [gOk_s (gd_at (t := 277) rfl (by simp only [EN, Nat.reduceEqDiff, reduceIte, k23_f33, decide_true, Bool.not_true, Bool.not_false, decide_false, eq_self, strEq, Bool.and_self, heqS, hB1.cell, hB2.cell, hB7.cell, hB10.cell, hB14.cell, hB19.cell] <;> rfl))]; rfl) ?_
                refine LD.qq rfl rfl (by simp only [EN, Nat.reduceEqDiff, reduceIte, qv_move, k23_f33, decide_true, Bool.not_true, Bool.not_false, decide_false, eq_self, strEq, Bool.and_self, heqS, hB1.cell, hB2.cell, hB7.cell, hB10.cell, hB14.cell, hB19.cell]; rfl) ?_
                refine LD.on (by rw [gOk_s (gd_at (t := 277) rfl (by simp only [EN, Nat.reduceEqDiff, reduceIte, decide_true, Bool.not_true, Bool.not_false, decide_false, eq_self, strEq, Bool.and_self, heqS, hB1.cell, hB2.cell, hB7.cell, hB10.cell, hB14.cell, hB19.cell] <;> rfl))]; rfl) ?_
                refine LD.ck rfl rfl Try.call32 (by intro hD hr; have hx : Ext _ _ := hr; have hTS := hTS.ext hx; have hB14 := hB14.ext hx; have hK6 := hK6.ext hx; have hU5 := hU5.ext hx; have hB19 := hB19.ext hx; simp only [EN, Nat.reduceEqDiff, reduceIte, AR, decide_true, Bool.not_true, Bool.not_false, decide_false, eq_self, strEq, Bool.and_self, heqS, hB1.cell, hB2.cell, hB7.cell, hB10.cell, hB14.cell, hB19.cell]; exact eq_chg o ▸ c_EqualS (hS.stp o) hU5 hTS) ?_
                refine LD.on (by rw [gOk_s (gd_at (t := 277) rfl (by simp only [EN, Nat.reduceEqDiff, reduceIte, k32_f33, decide_true, Bool.not_true, Bool.not_false, decide_false, eq_self, strEq, Bool.and_self, heqS, hB1.cell, hB2.cell, hB7.cell, hB10.cell, hB14.cell, hB19.cell] <;> rfl))]; rfl) ?_
                refine LD.qq rfl rfl (by simp only [EN, Nat.reduceEqDiff, reduceIte, qv_move, k32_f33, decide_true, Bool.not_true, Bool.not_false, decide_false, eq_self, strEq, Bool.and_self, heqS, hB1.cell, hB2.cell, hB7.cell, hB10.cell, hB14.cell, hB19.cell]; rfl) ?_
                refine LD.on (by rw [gOk_s (gd_at (t := 277) rfl (by simp only [EN, Nat.reduceEqDiff, reduceIte, decide_true, Bool.not_true, Bool.not_false, decide_false, eq_self, strEq, Bool.and_self, heqS, hB1.cell, hB2.cell, hB7.cell, hB10.cell, hB14.cell, hB19.cell] <;> rfl))]; rfl) ?_
                refine LD.qq rfl rfl (by simp only [EN, Nat.reduceEqDiff, reduceIte, qv_unOp, unv_not, decide_true, Bool.not_true, Bool.not_false, decide_false, eq_self, strEq, Bool.and_self, heqS, hB1.cell, hB2.cell, hB7.cell, hB10.cell, hB14.cell, hB19.cell]; rfl) ?_
                refine LD.on (by rw [gOk_s (gd_at (t := 277) rfl (by simp only [EN, Nat.reduceEqDiff, reduceIte, decide_true, Bool.not_true, Bool.not_false, decide_false, eq_self, strEq, Bool.and_self, heqS, hB1.cell, hB2.cell, hB7.cell, hB10.cell, hB14.cell, hB19.cell] <;> rfl))]; rfl) ?_
                refine LD.qq rfl rfl (by simp only [EN, Nat.reduceEqDiff, reduceIte, qv_binOp, binv_eql, eq4, Option.map_some, decide_true, Bool.not_true, Bool.not_false, decide_false, eq_self, strEq, Bool.and_self, heqS, hB1.cell, hB2.cell, hB7.cell, hB10.cell, hB14.cell, hB19.cell]; rfl) ?_
                refine LD.qq rfl rfl (by simp only [EN, Nat.reduceEqDiff, reduceIte, qv_pick, pk_and, pk_or, GR, decide_true, Bool.not_true, Bool.not_false, decide_false, eq_self, strEq, Bool.and_self, heqS, hB1.cell, hB2.cell, hB7.cell, hB10.cell, hB14.cell, hB19.cell]; rfl) ?_
                refine LD.qq rfl rfl (by simp only [EN, Nat.reduceEqDiff, reduceIte, qv_assign, decide_true, Bool.not_true, Bool.not_false, decide_false, eq_self, strEq, Bool.and_self, heqS, hB1.cell, hB2.cell, hB7.cell, hB10.cell, hB14.cell, hB19.cell]; rfl) ?_
                refine LD.nil ?_
                rintro h20 hx20 hF33
                replace hx20 : Ext _ _ := hx20
                replace hTS := hTS.ext hx20
                replace hB14 := hB14.ext hx20
                replace hK6 := hK6.ext hx20
                replace hU5 := hU5.ext hx20
                replace hB19 := hB19.ext hx20
                refine WL.nil ?_
                refine th_norm ?_
                refine hx_ret ?_
                refine fin_ret [.tmp 10] rfl rfl (by simp only [EN, Nat.reduceEqDiff, reduceIte, resv, k23_f33, k25_f33, k29_f33, k31_f33, k32_f33, decide_true, Bool.not_true, Bool.not_false, decide_false, eq_self, strEq, Bool.and_self, heqS, hB1.cell, hB2.cell, hB7.cell, hB10.cell, hB14.cell, hB19.cell]; rfl) ?_  -- ret 2 r33
                exact ⟨by simp [retOf], hE30.trans hTS.E⟩
end GL
namespace Go.Proofs.Ytmlhncifcaicpaa.sessionNilClone
open Go.ChangeShapes Go.WideShapes Go.ChangeAt Go.RowKit
theorem own : ownKnob Try.prog.godebug = none := by kernel_rfl
theorem laid : laidOutB Try.prog = true := by kernel_rfl
set_option maxRecDepth 100000 in
theorem lifted (os : Os) (started : os.Started) (H : Type) (enc : TypeId × Value → H) :
    ReturnsInHanded {} Try.checked os 10 .any (Rows.sessionNilCloneSpec.pre6 enc Try.prog Try.f10 Rows.sessionNilCloneRow.domain false) (Rows.sessionNilCloneSpec.post enc Try.prog Try.f10 false true false false) := by
  refine returnsInHanded_of_change (C := Try.checked) own started (by kernel_rfl) Try.func10
    (ChangeSpec.witness6 (enc := enc) (C := Try.checked) false ⟨#[], #[(.int .i64 0), (.slice none 0 0), (.agg #[(.int .i64 0), (.string ⟨#[]⟩)]), (.slice none 0 0), (.agg #[(.int .u8 0), (.string ⟨#[]⟩), (.int .i64 0), (.int .i64 0)])], []⟩ 8 (by kernel_rfl) (by kernel_rfl) (by kernel_rfl) (by kernel_rfl)) ?_
  intro W base args ds gs before hval0 hW hcnd _
  have hval : ∀ (j : Nat) t v, Try.f10.params[j]? = some t → args[j]? = some v → Value.okWide Try.prog W .any base t v := hval0
  have hW' := hW
  obtain ⟨p, q, hA0, hV, rfl, hfz, hnd⟩ := hW
  have hA : DataW.TrodAll enc Try.prog W 0 (fun _ => true) true Try.f10.params.toList args.toList ds p := hA0
  rw [Try.params10] at hA hval
  obtain ⟨v0, vs0, d0, ds0, p0, q0, hargs, rfl, rfl, h0, r0⟩ := trodAll_cons hA
  obtain ⟨v1, vs1, d1, ds1, p1, q1, rfl, rfl, rfl, h1, r1⟩ := trodAll_cons r0
  obtain ⟨v2, vs2, d2, ds2, p2, q2, rfl, rfl, rfl, h2, r2⟩ := trodAll_cons r1
  obtain ⟨v3, vs3, d3, ds3, p3, q3, rfl, rfl, rfl, h3, r3⟩ := trodAll_cons r2
  obtain ⟨v4, vs4, d4, ds4, p4, q4, rfl, rfl, rfl, h4, r4⟩ := trodAll_cons r3
  obtain ⟨rfl, rfl, rfl⟩ := trodAll_nil r4
  obtain rfl : args = #[v0, v1, v2, v3, v4] := by cases args; simp_all
  obtain ⟨rfl, rfl⟩ := trodVars_none hV
  obtain ⟨w, rfl, _⟩ := GL.view_i (hval 0 3 v0 rfl rfl) h0
  obtain ⟨al, l, cl, rfl, hl, hlc, hcl, _, _⟩ := GL.view_ms (hval 1 22 v1 rfl rfl) h1
  obtain ⟨x, rfl, _⟩ := GL.view_m (hval 2 46 v2 rfl rfl) h2
  obtain ⟨ao, os, co, rfl, hops, hoc, hco, _, hok⟩ := GL.view_ops (hval 3 57 v3 rfl rfl) h3
  obtain ⟨o, rfl, hoo⟩ := GL.view_op (hval 4 62 v4 rfl rfl) h4
  exact GL.law_done (tb := 4) laid (by kernel_rfl) rfl (by kernel_rfl) Try.underlying4 hW' rfl ((if hw : 1 ≤ w ∧ w ≤ 256 then GL.l_nil49 w hw al l cl x ao os co o hoo hl (Nat.le_trans hlc hcl) hops (Nat.le_trans hoc hco) hok else GL.l_nil49N w hw al l cl x ao os co o hoo hl (Nat.le_trans hlc hcl) hops (Nat.le_trans hoc hco) hok))
theorem over : Rows.sessionNilCloneRow.holds Try.pinned (OpenSpec.ofChange Rows.sessionNilCloneSpec) :=
  OpenClaim.holds_of_wide 10 Try.f10 rfl rfl rfl rfl rfl rfl rfl ⟨rfl, rfl, rfl, rfl, rfl⟩ rfl rfl rfl rfl rfl (by kernel_rfl) Try.func10 (by kernel_rfl)
    (of_decide_eq_true (by kernel_rfl)) (by unfold Func.isWrapper; first | (rw [if_pos (by decide +kernel)]; kernel_rfl) | (rw [if_neg (by decide +kernel)]; exact ⟨rfl, rfl⟩))
    (fun os started H enc _ => lifted os started H enc)
theorem proved : Rows.SessionNilCloneSaid := over
end Go.Proofs.Ytmlhncifcaicpaa.sessionNilClone


/- The law LimitEqualNil returns true: Equal compares limits and net amounts, and a nil table returns ErrArgument and zero values. No condition beyond the row's own. -/
import Derived.Test.YtenjmnpefmjdfaaRows
import Derived.Test.YtenjmnpefmjdfaaLimT
set_option linter.unusedSimpArgs false
set_option linter.unusedVariables false
set_option linter.unnecessarySimpa false
namespace GL
open Go Go.Proofs
set_option maxRecDepth 8000
section
variable {h : Heap}
theorem n_net (a b : ByteArray) : HCalls Try.prog 20 #[.pointer none, .string a, .string b] h (Pure (iV 0) h) := by
  refine hcalls2 Try.func20 rfl (by decide +kernel) (by simp only [Try.ntmps20]; exact of_decide_eq_true rfl) ?_
  intro e hin
  have e0 := hin 0 _ rfl
  have e1 := hin 1 _ rfl
  have e2 := hin 2 _ rfl
  refine hx_seq ?_
  refine hx_region ?_
  refine WL.qq (by simp only [EN, Nat.reduceEqDiff, reduceIte, qv_assign]; rfl) ?_
  refine WL.nil ?_
  refine th_norm ?_
  refine hx_seq ?_
  refine hx_seq ?_
  refine hx_region ?_
  refine WL.qq (by simp only [EN, Nat.reduceEqDiff, reduceIte, qv_move, e0]; rfl) ?_
  refine WL.qq (by simp only [EN, Nat.reduceEqDiff, reduceIte, qv_binOp, binv_eql, eqz24, eqn24, eqm24, Option.map_some]; rfl) ?_
  refine WL.nil ?_
  refine th_norm ?_
  refine hx_cond (by simp only [EN, Nat.reduceEqDiff, reduceIte]; rfl) (fun hct8 => ?_) (fun hct8 => ?_)
  ·
    try simp only [BD] at hct8
    refine hx_seq ?_
    refine hx_region ?_
    refine WL.qq (by simp only [EN, Nat.reduceEqDiff, reduceIte, qv_assign]; rfl) ?_
    refine WL.nil ?_
    refine th_norm ?_
    refine hx_ret ?_
    refine th_ret ?_
    refine fin_ret [.tmp 6] rfl rfl (by simp only [EN, Nat.reduceEqDiff, reduceIte, resv, e0, e1, e2]; rfl) ?_  -- ret 0 r2
    exact ⟨rfl, rfl⟩
  ·
    simp at hct8
theorem n_out (a : ByteArray) : HCalls Try.prog 21 #[.pointer none, .string a] h (Pure (iV 0) h) := by
  refine hcalls2 Try.func21 rfl (by decide +kernel) (by simp only [Try.ntmps21]; exact of_decide_eq_true rfl) ?_
  intro e hin
  have e0 := hin 0 _ rfl
  have e1 := hin 1 _ rfl
  refine hx_seq ?_
  refine hx_region ?_
  refine WL.qq (by simp only [EN, Nat.reduceEqDiff, reduceIte, qv_assign]; rfl) ?_
  refine WL.nil ?_
  refine th_norm ?_
  refine hx_seq ?_
  refine hx_seq ?_
  refine hx_region ?_
  refine WL.qq (by simp only [EN, Nat.reduceEqDiff, reduceIte, qv_move, e0]; rfl) ?_
  refine WL.qq (by simp only [EN, Nat.reduceEqDiff, reduceIte, qv_binOp, binv_eql, eqz24, eqn24, eqm24, Option.map_some]; rfl) ?_
  refine WL.nil ?_
  refine th_norm ?_
  refine hx_cond (by simp only [EN, Nat.reduceEqDiff, reduceIte]; rfl) (fun hct6 => ?_) (fun hct6 => ?_)
  ·
    try simp only [BD] at hct6
    refine hx_seq ?_
    refine hx_region ?_
    refine WL.qq (by simp only [EN, Nat.reduceEqDiff, reduceIte, qv_assign]; rfl) ?_
    refine WL.nil ?_
    refine th_norm ?_
    refine hx_ret ?_
    refine th_ret ?_
    refine fin_ret [.tmp 4] rfl rfl (by simp only [EN, Nat.reduceEqDiff, reduceIte, resv, e0, e1]; rfl) ?_  -- ret 0 r2
    exact ⟨rfl, rfl⟩
  ·
    simp at hct6
theorem n_limits : HCalls Try.prog 28 #[.pointer none] h (Pure (.slice none 0 0) h) := by
  refine hcalls2 Try.func28 rfl (by decide +kernel) (by simp only [Try.ntmps28]; exact of_decide_eq_true rfl) ?_
  intro e hin
  have e0 := hin 0 _ rfl
  refine hx_seq ?_
  refine hx_region ?_
  refine WL.qq (by simp only [EN, Nat.reduceEqDiff, reduceIte, qv_assign]; rfl) ?_
  refine WL.nil ?_
  refine th_norm ?_
  refine hx_seq ?_
  refine hx_seq ?_
  refine hx_region ?_
  refine WL.qq (by simp only [EN, Nat.reduceEqDiff, reduceIte, qv_move, e0]; rfl) ?_
  refine WL.qq (by simp only [EN, Nat.reduceEqDiff, reduceIte, qv_binOp, binv_eql, eqz24, eqn24, eqm24, Option.map_some]; rfl) ?_
  refine WL.nil ?_
  refine th_norm ?_
  refine hx_cond (by simp only [EN, Nat.reduceEqDiff, reduceIte]; rfl) (fun hct7 => ?_) (fun hct7 => ?_)
  ·
    try simp only [BD] at hct7
    refine hx_seq ?_
    refine hx_region ?_
    refine WL.qq (by simp only [EN, Nat.reduceEqDiff, reduceIte, qv_assign]; rfl) ?_
    refine WL.nil ?_
    refine th_norm ?_
    refine hx_ret ?_
    refine th_ret ?_
    refine fin_ret [.tmp 2] rfl rfl (by simp only [EN, Nat.reduceEqDiff, reduceIte, resv, e0]; rfl) ?_  -- ret 0 r2
    exact ⟨rfl, rfl⟩
  ·
    simp at hct7
theorem n_clone : HCalls Try.prog 23 #[.pointer none] h (Pure (.pointer none) h) := by
  refine hcalls2 Try.func23 rfl (by decide +kernel) (by simp only [Try.ntmps23]; exact of_decide_eq_true rfl) ?_
  intro e hin
  have e0 := hin 0 _ rfl
  refine hx_seq ?_
  refine hx_region ?_
  refine WL.qq (by simp only [EN, Nat.reduceEqDiff, reduceIte, qv_assign]; rfl) ?_
  refine WL.nil ?_
  refine th_norm ?_
  refine hx_seq ?_
  refine hx_seq ?_
  refine hx_region ?_
  refine WL.qq (by simp only [EN, Nat.reduceEqDiff, reduceIte, qv_move, e0]; rfl) ?_
  refine WL.qq (by simp only [EN, Nat.reduceEqDiff, reduceIte, qv_binOp, binv_eql, eqz24, eqn24, eqm24, Option.map_some]; rfl) ?_
  refine WL.nil ?_
  refine th_norm ?_
  refine hx_cond (by simp only [EN, Nat.reduceEqDiff, reduceIte]; rfl) (fun hct4 => ?_) (fun hct4 => ?_)
  ·
    try simp only [BD] at hct4
    refine hx_seq ?_
    refine hx_region ?_
    refine WL.qq (by simp only [EN, Nat.reduceEqDiff, reduceIte, qv_assign]; rfl) ?_
    refine WL.nil ?_
    refine th_norm ?_
    refine hx_ret ?_
    refine th_ret ?_
    refine fin_ret [.tmp 2] rfl rfl (by simp only [EN, Nat.reduceEqDiff, reduceIte, resv, e0]; rfl) ?_  -- ret 0 r2
    exact ⟨rfl, rfl⟩
  ·
    simp at hct4
theorem n_reset : HCalls Try.prog 32 #[.pointer none] h (Pure (iV 1) h) := by
  refine hcalls2 Try.func32 rfl (by decide +kernel) (by simp only [Try.ntmps32]; exact of_decide_eq_true rfl) ?_
  intro e hin
  have e0 := hin 0 _ rfl
  refine hx_seq ?_
  refine hx_region ?_
  refine WL.qq (by simp only [EN, Nat.reduceEqDiff, reduceIte, qv_assign]; rfl) ?_
  refine WL.nil ?_
  refine th_norm ?_
  refine hx_seq ?_
  refine hx_seq ?_
  refine hx_region ?_
  refine WL.qq (by simp only [EN, Nat.reduceEqDiff, reduceIte, qv_move, e0]; rfl) ?_
  refine WL.qq (by simp only [EN, Nat.reduceEqDiff, reduceIte, qv_binOp, binv_eql, eqz24, eqn24, eqm24, Option.map_some]; rfl) ?_
  refine WL.nil ?_
  refine th_norm ?_
  refine hx_cond (by simp only [EN, Nat.reduceEqDiff, reduceIte]; rfl) (fun hct4 => ?_) (fun hct4 => ?_)
  ·
    try simp only [BD] at hct4
    refine hx_seq ?_
    refine hx_region ?_
    refine WL.qq (by simp only [EN, Nat.reduceEqDiff, reduceIte, qv_assign]; rfl) ?_
    refine WL.nil ?_
    refine th_norm ?_
    refine hx_ret ?_
    refine th_ret ?_
    refine fin_ret [.tmp 2] rfl rfl (by simp only [EN, Nat.reduceEqDiff, reduceIte, resv, e0]; rfl) ?_  -- ret 0 r2
    exact ⟨rfl, rfl⟩
  ·
    simp at hct4
theorem n_check (v : Value) : HCalls Try.prog 25 #[.pointer none, v] h (Pure (iV 1) h) := by
  refine hcalls2 Try.func25 rfl (by decide +kernel) (by simp only [Try.ntmps25]; exact of_decide_eq_true rfl) ?_
  intro e hin
  have e0 := hin 0 _ rfl
  have e1 := hin 1 _ rfl
  refine hx_seq ?_
  refine hx_region ?_
  refine WL.qq (by simp only [EN, Nat.reduceEqDiff, reduceIte, qv_assign]; rfl) ?_
  refine WL.nil ?_
  refine th_norm ?_
  refine hx_seq ?_
  refine hx_seq ?_
  refine hx_region ?_
  refine WL.qq (by simp only [EN, Nat.reduceEqDiff, reduceIte, qv_move, e0]; rfl) ?_
  refine WL.qq (by simp only [EN, Nat.reduceEqDiff, reduceIte, qv_binOp, binv_eql, eqz24, eqn24, eqm24, Option.map_some]; rfl) ?_
  refine WL.nil ?_
  refine th_norm ?_
  refine hx_cond (by simp only [EN, Nat.reduceEqDiff, reduceIte]; rfl) (fun hct8 => ?_) (fun hct8 => ?_)
  ·
    try simp only [BD] at hct8
    refine hx_seq ?_
    refine hx_region ?_
    refine WL.qq (by simp only [EN, Nat.reduceEqDiff, reduceIte, qv_assign]; rfl) ?_
    refine WL.nil ?_
    refine th_norm ?_
    refine hx_ret ?_
    refine th_ret ?_
    refine fin_ret [.tmp 4] rfl rfl (by simp only [EN, Nat.reduceEqDiff, reduceIte, resv, e0, e1]; rfl) ?_  -- ret 0 r2
    exact ⟨rfl, rfl⟩
  ·
    simp at hct8
theorem n_record (v : Value) : HCalls Try.prog 15 #[.pointer none, v] h (Pure (iV 1) h) := by
  refine hcalls2 Try.func15 rfl (by decide +kernel) (by simp only [Try.ntmps15]; exact of_decide_eq_true rfl) ?_
  intro e hin
  have e0 := hin 0 _ rfl
  have e1 := hin 1 _ rfl
  refine hx_seq ?_
  refine hx_region ?_
  refine WL.qq (by simp only [EN, Nat.reduceEqDiff, reduceIte, qv_assign]; rfl) ?_
  refine WL.nil ?_
  refine th_norm ?_
  refine hx_seq ?_
  refine hx_seq ?_
  refine hx_region ?_
  refine WL.qq (by simp only [EN, Nat.reduceEqDiff, reduceIte, qv_move, e0]; rfl) ?_
  refine WL.qq (by simp only [EN, Nat.reduceEqDiff, reduceIte, qv_binOp, binv_eql, eqz24, eqn24, eqm24, Option.map_some]; rfl) ?_
  refine WL.nil ?_
  refine th_norm ?_
  refine hx_cond (by simp only [EN, Nat.reduceEqDiff, reduceIte]; rfl) (fun hct8 => ?_) (fun hct8 => ?_)
  ·
    try simp only [BD] at hct8
    refine hx_seq ?_
    refine hx_region ?_
    refine WL.qq (by simp only [EN, Nat.reduceEqDiff, reduceIte, qv_assign]; rfl) ?_
    refine WL.nil ?_
    refine th_norm ?_
    refine hx_ret ?_
    refine th_ret ?_
    refine fin_ret [.tmp 4] rfl rfl (by simp only [EN, Nat.reduceEqDiff, reduceIte, resv, e0, e1]; rfl) ?_  -- ret 0 r2
    exact ⟨rfl, rfl⟩
  ·
    simp at hct8
theorem n_setB (a b n : Value) : HCalls Try.prog 27 #[.pointer none, a, b, n] h (Pure (iV 1) h) := by
  refine hcalls2 Try.func27 rfl (by decide +kernel) (by simp only [Try.ntmps27]; exact of_decide_eq_true rfl) ?_
  intro e hin
  have e0 := hin 0 _ rfl
  have e1 := hin 1 _ rfl
  have e2 := hin 2 _ rfl
  have e3 := hin 3 _ rfl
  refine hx_seq ?_
  refine hx_region ?_
  refine WL.qq (by simp only [EN, Nat.reduceEqDiff, reduceIte, qv_assign]; rfl) ?_
  refine WL.nil ?_
  refine th_norm ?_
  refine hx_seq ?_
  refine hx_block ?_
  refine hx_seq ?_
  refine hx_region ?_
  refine WL.qq (by simp only [EN, Nat.reduceEqDiff, reduceIte, qv_move, e0]; rfl) ?_
  refine WL.qq (by simp only [EN, Nat.reduceEqDiff, reduceIte, qv_binOp, binv_eql, eqz24, eqn24, eqm24, Option.map_some]; rfl) ?_
  refine WL.qq (by simp only [EN, Nat.reduceEqDiff, reduceIte, qv_assign]; rfl) ?_
  refine WL.nil ?_
  refine th_norm ?_
  refine hx_cond (by simp only [EN, Nat.reduceEqDiff, reduceIte]; rfl) (fun hct9 => ?_) (fun hct9 => ?_)
  ·
    try simp only [BD] at hct9
    refine hx_seq ?_
    refine hx_region ?_
    refine WL.qq (by simp only [EN, Nat.reduceEqDiff, reduceIte, qv_assign]; rfl) ?_
    refine WL.nil ?_
    refine th_norm ?_
    refine hx_ret ?_
    refine bl_ret ?_
    refine th_ret ?_
    refine fin_ret [.tmp 8] rfl rfl (by simp only [EN, Nat.reduceEqDiff, reduceIte, resv, e0, e1, e2, e3]; rfl) ?_  -- ret 0 r2
    exact ⟨rfl, rfl⟩
  ·
    simp at hct9
theorem n_setM (a n : Value) : HCalls Try.prog 13 #[.pointer none, a, n] h (Pure (iV 1) h) := by
  refine hcalls2 Try.func13 rfl (by decide +kernel) (by simp only [Try.ntmps13]; exact of_decide_eq_true rfl) ?_
  intro e hin
  have e0 := hin 0 _ rfl
  have e1 := hin 1 _ rfl
  have e2 := hin 2 _ rfl
  refine hx_seq ?_
  refine hx_region ?_
  refine WL.qq (by simp only [EN, Nat.reduceEqDiff, reduceIte, qv_assign]; rfl) ?_
  refine WL.nil ?_
  refine th_norm ?_
  refine hx_seq ?_
  refine hx_block ?_
  refine hx_seq ?_
  refine hx_region ?_
  refine WL.qq (by simp only [EN, Nat.reduceEqDiff, reduceIte, qv_move, e0]; rfl) ?_
  refine WL.qq (by simp only [EN, Nat.reduceEqDiff, reduceIte, qv_binOp, binv_eql, eqz24, eqn24, eqm24, Option.map_some]; rfl) ?_
  refine WL.qq (by simp only [EN, Nat.reduceEqDiff, reduceIte, qv_assign]; rfl) ?_
  refine WL.nil ?_
  refine th_norm ?_
  refine hx_cond (by simp only [EN, Nat.reduceEqDiff, reduceIte]; rfl) (fun hct7 => ?_) (fun hct7 => ?_)
  ·
    try simp only [BD] at hct7
    refine hx_seq ?_
    refine hx_region ?_
    refine WL.qq (by simp only [EN, Nat.reduceEqDiff, reduceIte, qv_assign]; rfl) ?_
    refine WL.nil ?_
    refine th_norm ?_
    refine hx_ret ?_
    refine bl_ret ?_
    refine th_ret ?_
    refine fin_ret [.tmp 6] rfl rfl (by simp only [EN, Nat.reduceEqDiff, reduceIte, resv, e0, e1, e2]; rfl) ?_  -- ret 0 r2
    exact ⟨rfl, rfl⟩
  ·
    simp at hct7
theorem n_room (k f : Value) : HCalls Try.prog 45 #[.pointer none, k, f] h (Grow (.tuple #[iV 0, .bool false]) h) := by
  refine hcalls2 Try.func45 rfl (by decide +kernel) (by simp only [Try.ntmps45]; exact of_decide_eq_true rfl) ?_
  intro e hin
  have e0 := hin 0 _ rfl
  have e1 := hin 1 _ rfl
  have e2 := hin 2 _ rfl
  refine hx_seq ?_
  refine hx_region ?_
  refine WL.box2 (by simp only [EN, Nat.reduceEqDiff, reduceIte, Value.cells, e1]; rfl) ?_
  intro h1 B1 hx1 hlt1 hB1
  refine WL.qq (by simp only [EN, Nat.reduceEqDiff, reduceIte, qv_assign, hB1.cell]; rfl) ?_
  refine WL.qq (by simp only [EN, Nat.reduceEqDiff, reduceIte, qv_assign, hB1.cell]; rfl) ?_
  refine WL.nil ?_
  refine th_norm ?_
  refine hx_seq ?_
  refine hx_seq ?_
  refine hx_region ?_
  refine WL.qq (by simp only [EN, Nat.reduceEqDiff, reduceIte, qv_move, e0, hB1.cell]; rfl) ?_
  refine WL.qq (by simp only [EN, Nat.reduceEqDiff, reduceIte, qv_binOp, binv_eql, eqz24, eqn24, eqm24, Option.map_some, hB1.cell]; rfl) ?_
  refine WL.nil ?_
  refine th_norm ?_
  refine hx_cond (by simp only [EN, Nat.reduceEqDiff, reduceIte, hB1.cell]; rfl) (fun hct11 => ?_) (fun hct11 => ?_)
  ·
    try simp only [BD] at hct11
    refine hx_seq ?_
    refine hx_region ?_
    refine WL.qq (by simp only [EN, Nat.reduceEqDiff, reduceIte, qv_assign, hB1.cell]; rfl) ?_
    refine WL.qq (by simp only [EN, Nat.reduceEqDiff, reduceIte, qv_assign, hB1.cell]; rfl) ?_
    refine WL.nil ?_
    refine th_norm ?_
    refine hx_ret ?_
    refine th_ret ?_
    refine fin_ret [.tmp 6, .tmp 7] rfl rfl (by simp only [EN, Nat.reduceEqDiff, reduceIte, resv, e0, e1, e2, hB1.cell]; rfl) ?_  -- ret 0 r2
    exact ⟨rfl, (hx1)⟩
  ·
    simp at hct11
theorem n_mroom (a : ByteArray) : HCalls Try.prog 29 #[.pointer none, .string a] h (Grow (.tuple #[iV 0, .bool false]) h) := by
  refine hcalls2 Try.func29 rfl (by decide +kernel) (by simp only [Try.ntmps29]; exact of_decide_eq_true rfl) ?_
  intro e hin
  have e0 := hin 0 _ rfl
  have e1 := hin 1 _ rfl
  refine hx_seq ?_
  refine hx_region ?_
  refine WL.box2 (by simp only [EN, Nat.reduceEqDiff, reduceIte, Value.cells, e0]; rfl) ?_
  intro h1 B1 hx1 hlt1 hB1
  refine WL.box2 (by simp only [EN, Nat.reduceEqDiff, reduceIte, Value.cells, e1, hB1.cell]; rfl) ?_
  intro h2 B2 hx2 hlt2 hB2
  replace hB1 := hB1.ext hx2
  refine WL.qq (by simp only [EN, Nat.reduceEqDiff, reduceIte, qv_assign, hB1.cell, hB2.cell]; rfl) ?_
  refine WL.qq (by simp only [EN, Nat.reduceEqDiff, reduceIte, qv_assign, hB1.cell, hB2.cell]; rfl) ?_
  refine WL.nil ?_
  refine th_norm ?_
  refine hx_seq ?_
  refine hx_region ?_
  refine WL.qq (by simp only [EN, Nat.reduceEqDiff, reduceIte, qv_load, ld24, readN, AR, Nat.zero_add, Nat.reduceAdd, hB1.cell, hB2.cell]; rfl) ?_
  refine WL.qq (by simp only [EN, Nat.reduceEqDiff, reduceIte, qv_load, ld9, readN, AR, Nat.zero_add, Nat.reduceAdd, hB1.cell, hB2.cell]; rfl) ?_
  refine WL.qq (by refine qv_bld (by simp only [EN, Nat.reduceEqDiff, reduceIte, AR, hB1.cell, hB2.cell] <;> rfl) (by rw [bl76]; simp [Instr.fill, Value.cells]; rfl)) ?_
  refine WL.qq (by simp only [EN, Nat.reduceEqDiff, reduceIte, qv_makeFunc, AR, hB1.cell, hB2.cell]; rfl) ?_
  refine WL.cg Try.call45 (by simp only [EN, Nat.reduceEqDiff, reduceIte, AR, hB1.cell, hB2.cell]; exact n_room _ _) ?_
  intro h3 hx3
  replace hB1 := hB1.ext hx3
  replace hB2 := hB2.ext hx3
  refine WL.qq (by simp only [EN, Nat.reduceEqDiff, reduceIte, qv_extract, AR, hB1.cell, hB2.cell]; rfl) ?_
  refine WL.qq (by simp only [EN, Nat.reduceEqDiff, reduceIte, qv_extract, AR, hB1.cell, hB2.cell]; rfl) ?_
  refine WL.qq (by simp only [EN, Nat.reduceEqDiff, reduceIte, qv_assign, hB1.cell, hB2.cell]; rfl) ?_
  refine WL.qq (by simp only [EN, Nat.reduceEqDiff, reduceIte, qv_assign, hB1.cell, hB2.cell]; rfl) ?_
  refine WL.nil ?_
  refine th_norm ?_
  refine hx_ret ?_
  refine fin_ret [.tmp 4, .tmp 5] rfl rfl (by simp only [EN, Nat.reduceEqDiff, reduceIte, resv, e0, e1, hB1.cell, hB2.cell]; rfl) ?_  -- ret 0 r1
  exact ⟨rfl, ((hx1).trans ((hx2).trans (hx3)))⟩
theorem n_broom (a b : ByteArray) : HCalls Try.prog 30 #[.pointer none, .string a, .string b] h (Grow (.tuple #[iV 0, .bool false]) h) := by
  refine hcalls2 Try.func30 rfl (by decide +kernel) (by simp only [Try.ntmps30]; exact of_decide_eq_true rfl) ?_
  intro e hin
  have e0 := hin 0 _ rfl
  have e1 := hin 1 _ rfl
  have e2 := hin 2 _ rfl
  refine hx_seq ?_
  refine hx_region ?_
  refine WL.box2 (by simp only [EN, Nat.reduceEqDiff, reduceIte, Value.cells, e0, strEq]; rfl) ?_
  intro h1 B1 hx1 hlt1 hB1
  refine WL.box2 (by simp only [EN, Nat.reduceEqDiff, reduceIte, Value.cells, e1, strEq, hB1.cell]; rfl) ?_
  intro h2 B2 hx2 hlt2 hB2
  replace hB1 := hB1.ext hx2
  refine WL.box2 (by simp only [EN, Nat.reduceEqDiff, reduceIte, Value.cells, e2, strEq, hB1.cell, hB2.cell]; rfl) ?_
  intro h3 B3 hx3 hlt3 hB3
  replace hB1 := hB1.ext hx3
  replace hB2 := hB2.ext hx3
  refine WL.qq (by simp only [EN, Nat.reduceEqDiff, reduceIte, qv_assign, strEq, hB1.cell, hB2.cell, hB3.cell]; rfl) ?_
  refine WL.qq (by simp only [EN, Nat.reduceEqDiff, reduceIte, qv_assign, strEq, hB1.cell, hB2.cell, hB3.cell]; rfl) ?_
  refine WL.nil ?_
  refine th_norm ?_
  refine hx_seq ?_
  refine hx_seq ?_
  refine hx_region ?_
  refine WL.qq (by simp only [EN, Nat.reduceEqDiff, reduceIte, qv_load, ld9, readN, AR, Nat.zero_add, Nat.reduceAdd, strEq, hB1.cell, hB2.cell, hB3.cell]; rfl) ?_
  refine WL.qq (by simp only [EN, Nat.reduceEqDiff, reduceIte, qv_binOp, binv_eql, eq9, Option.map_some, strEq, hB1.cell, hB2.cell, hB3.cell]; rfl) ?_
  refine WL.nil ?_
  refine th_norm ?_
  refine hx_cond (by simp only [EN, Nat.reduceEqDiff, reduceIte, strEq, hB1.cell, hB2.cell, hB3.cell]; rfl) (fun hct9 => ?_) (fun hct9 => ?_)
  ·
    try simp only [BD] at hct9
    refine hx_seq ?_
    refine hx_region ?_
    refine WL.qq (by simp only [EN, Nat.reduceEqDiff, reduceIte, qv_assign, strEq, hB1.cell, hB2.cell, hB3.cell]; rfl) ?_
    refine WL.qq (by simp only [EN, Nat.reduceEqDiff, reduceIte, qv_assign, strEq, hB1.cell, hB2.cell, hB3.cell]; rfl) ?_
    refine WL.nil ?_
    refine th_norm ?_
    refine hx_ret ?_
    refine th_ret ?_
    refine fin_ret [.tmp 6, .tmp 7] rfl rfl (by simp only [EN, Nat.reduceEqDiff, reduceIte, resv, e0, e1, e2, strEq, hB1.cell, hB2.cell, hB3.cell]; rfl) ?_  -- ret 0 r2
    exact ⟨rfl, ((hx1).trans ((hx2).trans (hx3)))⟩
  ·
    try simp only [BD] at hct9
    refine hx_skip ?_
    refine th_norm ?_
    refine hx_seq ?_
    refine hx_region ?_
    refine WL.qq (by simp only [EN, Nat.reduceEqDiff, reduceIte, qv_load, ld24, readN, AR, Nat.zero_add, Nat.reduceAdd, strEq, hB1.cell, hB2.cell, hB3.cell]; rfl) ?_
    refine WL.qq (by simp only [EN, Nat.reduceEqDiff, reduceIte, qv_load, ld9, readN, AR, Nat.zero_add, Nat.reduceAdd, strEq, hB1.cell, hB2.cell, hB3.cell]; rfl) ?_
    refine WL.qq (by simp only [EN, Nat.reduceEqDiff, reduceIte, qv_load, ld9, readN, AR, Nat.zero_add, Nat.reduceAdd, strEq, hB1.cell, hB2.cell, hB3.cell]; rfl) ?_
    refine WL.qq (by refine qv_bld (by simp only [EN, Nat.reduceEqDiff, reduceIte, AR, strEq, hB1.cell, hB2.cell, hB3.cell] <;> rfl) (by rw [bl76]; simp [Instr.fill, Value.cells]; rfl)) ?_
    refine WL.qq (by simp only [EN, Nat.reduceEqDiff, reduceIte, qv_makeFunc, AR, strEq, hB1.cell, hB2.cell, hB3.cell]; rfl) ?_
    refine WL.cg Try.call45 (by simp only [EN, Nat.reduceEqDiff, reduceIte, AR, strEq, hB1.cell, hB2.cell, hB3.cell]; exact n_room _ _) ?_
    intro h4 hx4
    replace hB1 := hB1.ext hx4
    replace hB2 := hB2.ext hx4
    replace hB3 := hB3.ext hx4
    refine WL.qq (by simp only [EN, Nat.reduceEqDiff, reduceIte, qv_extract, AR, strEq, hB1.cell, hB2.cell, hB3.cell]; rfl) ?_
    refine WL.qq (by simp only [EN, Nat.reduceEqDiff, reduceIte, qv_extract, AR, strEq, hB1.cell, hB2.cell, hB3.cell]; rfl) ?_
    refine WL.qq (by simp only [EN, Nat.reduceEqDiff, reduceIte, qv_assign, strEq, hB1.cell, hB2.cell, hB3.cell]; rfl) ?_
    refine WL.qq (by simp only [EN, Nat.reduceEqDiff, reduceIte, qv_assign, strEq, hB1.cell, hB2.cell, hB3.cell]; rfl) ?_
    refine WL.nil ?_
    refine th_norm ?_
    refine hx_ret ?_
    refine fin_ret [.tmp 6, .tmp 7] rfl rfl (by simp only [EN, Nat.reduceEqDiff, reduceIte, resv, e0, e1, e2, strEq, hB1.cell, hB2.cell, hB3.cell]; rfl) ?_  -- ret 1 r3
    exact ⟨rfl, ((hx1).trans ((hx2).trans ((hx3).trans (hx4))))⟩
theorem n_eqNN : HCalls Try.prog 24 #[.pointer none, .pointer none] h (Pure (.bool true) h) := by
  refine hcalls2 Try.func24 rfl (by decide +kernel) (by simp only [Try.ntmps24]; exact of_decide_eq_true rfl) ?_
  intro e hin
  have e0 := hin 0 _ rfl
  have e1 := hin 1 _ rfl
  refine hx_seq ?_
  refine hx_region ?_
  refine WL.qq (by simp only [EN, Nat.reduceEqDiff, reduceIte, qv_assign]; rfl) ?_
  refine WL.nil ?_
  refine th_norm ?_
  refine hx_seq ?_
  refine hx_seq ?_
  refine hx_region ?_
  refine WL.qq (by simp only [EN, Nat.reduceEqDiff, reduceIte, qv_move, e0]; rfl) ?_
  refine WL.qq (by simp only [EN, Nat.reduceEqDiff, reduceIte, qv_binOp, binv_eql, eqz24, eqn24, eqm24, Option.map_some]; rfl) ?_
  refine WL.qq (by simp only [EN, Nat.reduceEqDiff, reduceIte, qv_move]; rfl) ?_
  refine WL.cq (gd_at (t := 7) rfl (by simp only [EN, Nat.reduceEqDiff, reduceIte, e1] <;> rfl)) (fun hg1_3 => by simp only [EN, Nat.reduceEqDiff, reduceIte, qv_move, e1, hg1_3, GR]; rfl) ?_
  refine WL.cq (gd_at (t := 7) rfl (by simp only [EN, Nat.reduceEqDiff, reduceIte] <;> rfl)) (fun hg1_4 => by simp only [EN, Nat.reduceEqDiff, reduceIte, qv_binOp, binv_eql, eqz24, eqn24, eqm24, Option.map_some, hg1_4, GR]; rfl) ?_
  refine WL.qq (by simp only [EN, Nat.reduceEqDiff, reduceIte, qv_pick, pk_and, pk_or, GR]; rfl) ?_
  refine WL.nil ?_
  refine th_norm ?_
  refine hx_cond (by simp only [EN, Nat.reduceEqDiff, reduceIte]; rfl) (fun hct10 => ?_) (fun hct10 => ?_)
  ·
    try simp only [BD] at hct10
    refine hx_seq ?_
    refine hx_region ?_
    refine WL.qq (by simp only [EN, Nat.reduceEqDiff, reduceIte, qv_move, e0]; rfl) ?_
    refine WL.qq (by simp only [EN, Nat.reduceEqDiff, reduceIte, qv_move, e1]; rfl) ?_
    refine WL.qq (by simp only [EN, Nat.reduceEqDiff, reduceIte, qv_binOp, binv_eql, eqz24, eqn24, eqm24, Option.map_some]; rfl) ?_
    refine WL.qq (by simp only [EN, Nat.reduceEqDiff, reduceIte, qv_assign]; rfl) ?_
    refine WL.nil ?_
    refine th_norm ?_
    refine hx_ret ?_
    refine th_ret ?_
    refine fin_ret [.tmp 4] rfl rfl (by simp only [EN, Nat.reduceEqDiff, reduceIte, resv, e0, e1]; rfl) ?_  -- ret 0 r2
    exact ⟨rfl, rfl⟩
  ·
    simp at hct10
theorem n_eqN (p : Nat) : HCalls Try.prog 24 #[.pointer none, .pointer (some ⟨p, 0, none⟩)] h (Pure (.bool false) h) := by
  refine hcalls2 Try.func24 rfl (by decide +kernel) (by simp only [Try.ntmps24]; exact of_decide_eq_true rfl) ?_
  intro e hin
  have e0 := hin 0 _ rfl
  have e1 := hin 1 _ rfl
  refine hx_seq ?_
  refine hx_region ?_
  refine WL.qq (by simp only [EN, Nat.reduceEqDiff, reduceIte, qv_assign]; rfl) ?_
  refine WL.nil ?_
  refine th_norm ?_
  refine hx_seq ?_
  refine hx_seq ?_
  refine hx_region ?_
  refine WL.qq (by simp only [EN, Nat.reduceEqDiff, reduceIte, qv_move, e0]; rfl) ?_
  refine WL.qq (by simp only [EN, Nat.reduceEqDiff, reduceIte, qv_binOp, binv_eql, eqz24, eqn24, eqm24, Option.map_some]; rfl) ?_
  refine WL.qq (by simp only [EN, Nat.reduceEqDiff, reduceIte, qv_move]; rfl) ?_
  refine WL.cq (gd_at (t := 7) rfl (by simp only [EN, Nat.reduceEqDiff, reduceIte, e1] <;> rfl)) (fun hg1_3 => by simp only [EN, Nat.reduceEqDiff, reduceIte, qv_move, e1, hg1_3, GR]; rfl) ?_
  refine WL.cq (gd_at (t := 7) rfl (by simp only [EN, Nat.reduceEqDiff, reduceIte] <;> rfl)) (fun hg1_4 => by simp only [EN, Nat.reduceEqDiff, reduceIte, qv_binOp, binv_eql, eqz24, eqn24, eqm24, Option.map_some, hg1_4, GR]; rfl) ?_
  refine WL.qq (by simp only [EN, Nat.reduceEqDiff, reduceIte, qv_pick, pk_and, pk_or, GR]; rfl) ?_
  refine WL.nil ?_
  refine th_norm ?_
  refine hx_cond (by simp only [EN, Nat.reduceEqDiff, reduceIte]; rfl) (fun hct10 => ?_) (fun hct10 => ?_)
  ·
    try simp only [BD] at hct10
    refine hx_seq ?_
    refine hx_region ?_
    refine WL.qq (by simp only [EN, Nat.reduceEqDiff, reduceIte, qv_move, e0]; rfl) ?_
    refine WL.qq (by simp only [EN, Nat.reduceEqDiff, reduceIte, qv_move, e1]; rfl) ?_
    refine WL.qq (by simp only [EN, Nat.reduceEqDiff, reduceIte, qv_binOp, binv_eql, eqz24, eqn24, eqm24, Option.map_some]; rfl) ?_
    refine WL.qq (by simp only [EN, Nat.reduceEqDiff, reduceIte, qv_assign]; rfl) ?_
    refine WL.nil ?_
    refine th_norm ?_
    refine hx_ret ?_
    refine th_ret ?_
    refine fin_ret [.tmp 4] rfl rfl (by simp only [EN, Nat.reduceEqDiff, reduceIte, resv, e0, e1]; rfl) ?_  -- ret 0 r2
    exact ⟨rfl, rfl⟩
  ·
    simp at hct10
theorem n_eqT (p : Nat) : HCalls Try.prog 24 #[.pointer (some ⟨p, 0, none⟩), .pointer none] h (Pure (.bool false) h) := by
  refine hcalls2 Try.func24 rfl (by decide +kernel) (by simp only [Try.ntmps24]; exact of_decide_eq_true rfl) ?_
  intro e hin
  have e0 := hin 0 _ rfl
  have e1 := hin 1 _ rfl
  refine hx_seq ?_
  refine hx_region ?_
  refine WL.qq (by simp only [EN, Nat.reduceEqDiff, reduceIte, qv_assign]; rfl) ?_
  refine WL.nil ?_
  refine th_norm ?_
  refine hx_seq ?_
  refine hx_seq ?_
  refine hx_region ?_
  refine WL.qq (by simp only [EN, Nat.reduceEqDiff, reduceIte, qv_move, e0]; rfl) ?_
  refine WL.qq (by simp only [EN, Nat.reduceEqDiff, reduceIte, qv_binOp, binv_eql, eqz24, eqn24, eqm24, Option.map_some]; rfl) ?_
  refine WL.qq (by simp only [EN, Nat.reduceEqDiff, reduceIte, qv_move]; rfl) ?_
  refine WL.cq (gd_at (t := 7) rfl (by simp only [EN, Nat.reduceEqDiff, reduceIte, e1] <;> rfl)) (fun hg1_3 => by simp only [EN, Nat.reduceEqDiff, reduceIte, qv_move, e1, hg1_3, GR]; rfl) ?_
  refine WL.cq (gd_at (t := 7) rfl (by simp only [EN, Nat.reduceEqDiff, reduceIte] <;> rfl)) (fun hg1_4 => by simp only [EN, Nat.reduceEqDiff, reduceIte, qv_binOp, binv_eql, eqz24, eqn24, eqm24, Option.map_some, hg1_4, GR]; rfl) ?_
  refine WL.qq (by simp only [EN, Nat.reduceEqDiff, reduceIte, qv_pick, pk_and, pk_or, GR]; rfl) ?_
  refine WL.nil ?_
  refine th_norm ?_
  refine hx_cond (by simp only [EN, Nat.reduceEqDiff, reduceIte]; rfl) (fun hct10 => ?_) (fun hct10 => ?_)
  ·
    try simp only [BD] at hct10
    refine hx_seq ?_
    refine hx_region ?_
    refine WL.qq (by simp only [EN, Nat.reduceEqDiff, reduceIte, qv_move, e0]; rfl) ?_
    refine WL.qq (by simp only [EN, Nat.reduceEqDiff, reduceIte, qv_move, e1]; rfl) ?_
    refine WL.qq (by simp only [EN, Nat.reduceEqDiff, reduceIte, qv_binOp, binv_eql, eqz24, eqn24, eqm24, Option.map_some]; rfl) ?_
    refine WL.qq (by simp only [EN, Nat.reduceEqDiff, reduceIte, qv_assign]; rfl) ?_
    refine WL.nil ?_
    refine th_norm ?_
    refine hx_ret ?_
    refine th_ret ?_
    refine fin_ret [.tmp 4] rfl rfl (by simp only [EN, Nat.reduceEqDiff, reduceIte, resv, e0, e1]; rfl) ?_  -- ret 0 r2
    exact ⟨rfl, rfl⟩
  ·
    simp at hct10
end
set_option maxHeartbeats 2000000 in
theorem c_rSame (al : Option Addr) (Ls : List L2) (cl : Nat) (af : Option Addr) (F : List L2) (cf : Nat) (al' : Option Addr) (Ls' : List L2) (cl' : Nat) (af' : Option Addr) (F' : List L2) (cf' : Nat)
    (b1 : Ls.length ≤ 1000) (b2 : F.length ≤ 10000) (b3 : Ls'.length ≤ 1000) (b4 : F'.length ≤ 10000) {h : Heap} (hs1 : SlG 3 limL h al Ls) (hs2 : SlG 3 limL h af F) (hs3 : SlG 3 limL h al' Ls') (hs4 : SlG 3 limL h af' F') :
    HCalls Try.prog 33 #[rfV al Ls.length cl af F.length cf, rfV al' Ls'.length cl' af' F'.length cf'] h (Grow (.bool (decide (sameR Ls F Ls' F'))) h) := by
  refine hcalls2 Try.func33 rfl (by decide +kernel) (by simp only [Try.ntmps33]; exact of_decide_eq_true rfl) ?_
  intro e hin
  have e0 := hin 0 _ rfl
  have e1 := hin 1 _ rfl
  refine hx_seq ?_
  refine hx_region ?_
  refine WL.box2 (by simp only [EN, Nat.reduceEqDiff, reduceIte, Value.cells, e0, strEq]; rfl) ?_
  intro h1 B1 hx1 hlt1 hB1
  replace hs1 := hs1.ext hx1
  replace hs2 := hs2.ext hx1
  replace hs3 := hs3.ext hx1
  replace hs4 := hs4.ext hx1
  refine WL.box2 (by simp only [EN, Nat.reduceEqDiff, reduceIte, Value.cells, e1, strEq, hB1.cell]; rfl) ?_
  intro h2 B2 hx2 hlt2 hB2
  replace hs1 := hs1.ext hx2
  replace hs2 := hs2.ext hx2
  replace hs3 := hs3.ext hx2
  replace hs4 := hs4.ext hx2
  replace hB1 := hB1.ext hx2
  refine WL.qq (by simp only [EN, Nat.reduceEqDiff, reduceIte, qv_assign, strEq, hB1.cell, hB2.cell]; rfl) ?_
  refine WL.nil ?_
  refine th_norm ?_
  refine hx_seq ?_
  refine hx_seq ?_
  refine hx_region ?_
  refine WL.qq (by simp only [EN, Nat.reduceEqDiff, reduceIte, qv_fieldAddr, fa41_0, Nat.zero_add, Nat.reduceAdd, strEq, hB1.cell, hB2.cell]; rfl) ?_
  refine WL.qq (by simp only [EN, Nat.reduceEqDiff, reduceIte, qv_load, ld38, readN, AR, Nat.zero_add, Nat.reduceAdd, strEq, hB1.cell, hB2.cell]; rfl) ?_
  refine WL.qq (by simp only [EN, Nat.reduceEqDiff, reduceIte, qv_len, ln38, AR, strEq, hB1.cell, hB2.cell]; rfl) ?_
  refine WL.qq (by simp only [EN, Nat.reduceEqDiff, reduceIte, qv_fieldAddr, fa41_0, Nat.zero_add, Nat.reduceAdd, strEq, hB1.cell, hB2.cell]; rfl) ?_
  refine WL.qq (by simp only [EN, Nat.reduceEqDiff, reduceIte, qv_load, ld38, readN, AR, Nat.zero_add, Nat.reduceAdd, strEq, hB1.cell, hB2.cell]; rfl) ?_
  refine WL.qq (by simp only [EN, Nat.reduceEqDiff, reduceIte, qv_len, ln38, AR, strEq, hB1.cell, hB2.cell]; rfl) ?_
  refine WL.qq (by simp only [EN, Nat.reduceEqDiff, reduceIte, qv_binOp, binv_neq, eq3, Option.map_some, strEq, hB1.cell, hB2.cell]; rfl) ?_
  refine WL.nil ?_
  refine th_norm ?_
  refine hx_cond (by simp only [EN, Nat.reduceEqDiff, reduceIte, strEq, hB1.cell, hB2.cell]; rfl) (fun hct14 => ?_) (fun hct14 => ?_)
  ·
    try simp only [BD] at hct14
    refine hx_seq ?_
    refine hx_region ?_
    refine WL.qq (by simp only [EN, Nat.reduceEqDiff, reduceIte, qv_assign, strEq, hB1.cell, hB2.cell]; rfl) ?_
    refine WL.nil ?_
    refine th_norm ?_
    refine hx_ret ?_
    refine th_ret ?_
    refine fin_ret [.tmp 4] rfl rfl (by simp only [EN, Nat.reduceEqDiff, reduceIte, resv, e0, e1, strEq, hB1.cell, hB2.cell]; rfl) ?_  -- ret 0 r2
    have hne : ¬ sameR Ls F Ls' F' := fun hh => hct14 (by rw [hh.1])
    exact ⟨by simp [retOf, hne], ((hx1).trans (hx2))⟩
  ·
    try simp only [BD] at hct14
    have hll : Ls.length = Ls'.length := (by omega)
    refine hx_skip ?_
    refine th_norm ?_
    refine hx_seq ?_
    refine hx_seq ?_
    refine hx_region ?_
    refine WL.qq (by simp only [EN, Nat.reduceEqDiff, reduceIte, qv_assign, strEq, hB1.cell, hB2.cell]; rfl) ?_
    refine WL.nil ?_
    refine th_norm ?_
    refine hx_block ?_
    refine hx_loopS [4, 5, 15, 16, 17, 18, 19, 20, 21, 22, 23, 24, 25, 26, 27, 28, 29, 30, 31, 32] (fun k e => ∃ (i : Nat), Ls.length - i = k ∧ (i ≤ Ls.length) ∧ (Ls.take i = Ls'.take i) ∧ e 5 = .int .i64 i) _ ⟨0, rfl, ?_, ?_, ?_⟩ ?_
    · omega
    · rfl
    · simp only [EN, Nat.reduceEqDiff, reduceIte, e0, e1, strEq, hB1.cell, hB2.cell] <;> rfl
    ·
      rintro k e0L hfr0 ⟨i, rfl, hi, hsm, i5_0⟩
      have k2_0 := hfr0 2 rfl; try simp only [EN, Nat.reduceEqDiff, reduceIte, strEq, hB1.cell, hB2.cell] at k2_0
      have k3_0 := hfr0 3 rfl; try simp only [EN, Nat.reduceEqDiff, reduceIte, strEq, hB1.cell, hB2.cell] at k3_0
      refine hx_seq ?_
      refine hx_seq ?_
      refine hx_region ?_
      refine WL.qq (by simp only [EN, Nat.reduceEqDiff, reduceIte, qv_move, i5_0, strEq, hB1.cell, hB2.cell]; rfl) ?_
      refine WL.qq (by simp only [EN, Nat.reduceEqDiff, reduceIte, qv_fieldAddr, fa41_0, Nat.zero_add, Nat.reduceAdd, k2_0, strEq, hB1.cell, hB2.cell]; rfl) ?_
      refine WL.qq (by simp only [EN, Nat.reduceEqDiff, reduceIte, qv_load, ld38, readN, AR, Nat.zero_add, Nat.reduceAdd, strEq, hB1.cell, hB2.cell]; rfl) ?_
      refine WL.qq (by simp only [EN, Nat.reduceEqDiff, reduceIte, qv_len, ln38, AR, strEq, hB1.cell, hB2.cell]; rfl) ?_
      refine WL.qq (by simp only [EN, Nat.reduceEqDiff, reduceIte, qv_binOp, binv_lss, strEq, hB1.cell, hB2.cell]; rfl) ?_
      refine WL.nil ?_
      refine th_norm ?_
      refine hx_cond (by simp only [EN, Nat.reduceEqDiff, reduceIte, strEq, hB1.cell, hB2.cell]; rfl) (fun hct19 => ?_) (fun hct19 => ?_)
      ·
        try simp only [BD] at hct19
        obtain ⟨x, hx⟩ := atG (l := Ls) (i := i) (by omega)
        obtain ⟨y, hy⟩ := atG (l := Ls') (i := i) (by omega)
        obtain ⟨b, off, rfl, hr3, _⟩ := lim_rd hs1 hx
        obtain ⟨b', off', rfl, hr3', _⟩ := lim_rd hs3 hy
        refine hx_skip ?_
        refine th_norm ?_
        refine hx_seq ?_
        refine hx_block ?_
        refine hx_seq ?_
        apply hx_draw2 Rel.same [] [] [] rfl (by decide +kernel) rfl
        refine LD.qq rfl rfl (by simp only [EN, Nat.reduceEqDiff, reduceIte, qv_fieldAddr, fa41_0, Nat.zero_add, Nat.reduceAdd, k2_0, strEq, hB1.cell, hB2.cell]; rfl) ?_
        refine LD.qq rfl rfl (by simp only [EN, Nat.reduceEqDiff, reduceIte, qv_load, ld38, readN, AR, Nat.zero_add, Nat.reduceAdd, strEq, hB1.cell, hB2.cell]; rfl) ?_
        refine LD.qq rfl rfl (by simp only [EN, Nat.reduceEqDiff, reduceIte, qv_move, i5_0, strEq, hB1.cell, hB2.cell]; rfl) ?_
        refine LD.qq rfl rfl (by simp only [EN, Nat.reduceEqDiff, reduceIte, qv_indexAddr, strEq, hB1.cell, hB2.cell]; (try simp (disch := omega) only [ix38, Int.toNat_natCast]); rfl) ?_
        refine LD.qq rfl rfl (by simp only [EN, Nat.reduceEqDiff, reduceIte, k2_0, k3_0, i5_0, strEq, hB1.cell, hB2.cell, qv_load, ld57, Int.toNat_natCast, hr3]; rfl) ?_
        refine LD.qq rfl rfl (by simp only [EN, Nat.reduceEqDiff, reduceIte, qv_fieldAddr, fa41_0, Nat.zero_add, Nat.reduceAdd, k3_0, strEq, hB1.cell, hB2.cell]; rfl) ?_
        refine LD.qq rfl rfl (by simp only [EN, Nat.reduceEqDiff, reduceIte, qv_load, ld38, readN, AR, Nat.zero_add, Nat.reduceAdd, strEq, hB1.cell, hB2.cell]; rfl) ?_
        refine LD.qq rfl rfl (by simp only [EN, Nat.reduceEqDiff, reduceIte, qv_move, i5_0, strEq, hB1.cell, hB2.cell]; rfl) ?_
        refine LD.qq rfl rfl (by simp only [EN, Nat.reduceEqDiff, reduceIte, qv_indexAddr, strEq, hB1.cell, hB2.cell]; (try simp (disch := omega) only [ix38, Int.toNat_natCast]); rfl) ?_
        refine LD.qq rfl rfl (by simp only [EN, Nat.reduceEqDiff, reduceIte, k2_0, k3_0, i5_0, strEq, hB1.cell, hB2.cell, qv_load, ld57, Int.toNat_natCast, hr3']; rfl) ?_
        refine LD.qq rfl rfl (by simp only [EN, Nat.reduceEqDiff, reduceIte, qv_binOp, binv_neq, eqs57, Option.map_some, strEq, hB1.cell, hB2.cell]; rfl) ?_
        refine LD.nil ?_
        rintro _ rfl -
        refine WL.nil ?_
        refine th_norm ?_
        refine hx_cond (by simp only [EN, Nat.reduceEqDiff, reduceIte, strEq, hB1.cell, hB2.cell]; rfl) (fun hct32 => ?_) (fun hct32 => ?_)
        ·
          try simp only [BD] at hct32
          refine hx_seq ?_
          refine hx_region ?_
          refine WL.qq (by simp only [EN, Nat.reduceEqDiff, reduceIte, qv_assign, strEq, hB1.cell, hB2.cell]; rfl) ?_
          refine WL.nil ?_
          refine th_norm ?_
          refine hx_ret ?_
          refine bl_ret ?_
          refine th_ret ?_
          refine th_ret ?_
          refine bl_ret ?_
          refine th_ret ?_
          refine fin_ret [.tmp 4] rfl rfl (by simp only [EN, Nat.reduceEqDiff, reduceIte, resv, k2_0, k3_0, i5_0, strEq, hB1.cell, hB2.cell]; rfl) ?_  -- ret 1 r7
          have hne : ¬ sameR Ls F Ls' F' := (fun hh => by have h9 := hh.1; rw [h9, hy] at hx; cases hx; simp at hct32)
          exact ⟨by simp [retOf, hne], ((hx1).trans (hx2))⟩
        ·
          try simp only [BD] at hct32
          refine hx_skip ?_
          refine bl_norm ?_
          refine th_norm ?_
          refine hx_region ?_
          refine WL.qq (by simp only [EN, Nat.reduceEqDiff, reduceIte, qv_move, i5_0, strEq, hB1.cell, hB2.cell]; rfl) ?_
          refine WL.qq (by simp only [EN, Nat.reduceEqDiff, reduceIte, qv_binOp, binv_add, strEq, hB1.cell, hB2.cell]; (try simp (disch := omega) only [w64, w8, wu64]); rfl) ?_
          refine WL.qq (by simp only [EN, Nat.reduceEqDiff, reduceIte, qv_assign, strEq, hB1.cell, hB2.cell]; rfl) ?_
          refine WL.nil ?_
          refine th_norm ?_
          refine ⟨rfl, rfl, ?_, _, ?_, i + 1, rfl, ?_, ?_, ?_⟩  -- again 0 of loop 0
          · (repeat (first | exact Fr.refl _ _ | refine Fr.set rfl ?_ | refine Fr.put rfl ?_ | with_reducible refine Fr.put0 ?_))
          · omega
          · omega
          · rw [List.take_add_one, List.take_add_one, hsm, hx, hy]; have hxy : x = y := (by obtain ⟨⟨f, t⟩, n⟩ := x; obtain ⟨⟨f', t'⟩, n'⟩ := y; simp at hct32; simp [hct32]); rw [hxy]
          · simp only [EN, Nat.reduceEqDiff, reduceIte, k2_0, k3_0, i5_0, strEq, hB1.cell, hB2.cell] <;> first | rfl | (congr 1; omega)
      ·
        try simp only [BD] at hct19
        have hLs : Ls = Ls' := (by have h9 := hsm; rwa [List.take_of_length_le (by omega), List.take_of_length_le (by omega)] at h9)
        refine hx_exit ?_
        refine th_exit ?_
        refine th_exit ?_
        refine bl_hit ?_
        refine th_norm ?_
        refine hx_seq ?_
        apply hx_draw2R (Rel.app (Array.size h2) 47 3 F.length F'.length (F.flatMap limL) (F'.flatMap limL)) [7] [0, 3, 6] [(0, Spec.ls (Array.size h2) #[] 47 0), (3, Spec.own (Array.size h2) 47 3 F.length (F.flatMap limL)), (6, Spec.own (Array.size h2) 47 3 (F.length + F'.length) (F.flatMap limL ++ F'.flatMap limL))] rfl (by decide +kernel) rfl app_stable2
        have hzs := Ext.size ((hx1).trans (hx2))
        refine LD.es rfl rfl (by intro hD hr hf; have hX : Ext _ _ := app_ext hr; have hB1 := hB1.ext hX; have hB2 := hB2.ext hX; exact (e_lit0 hX.size Try.underlying39 sz47).mono (fun _ _ hh => ⟨app_of_ext hh.1, hh.2⟩)) ?_
        intro u8_0 w8_0
        obtain ⟨B30, hlt30, rfl⟩ := w8_0
        refine LD.qr rfl rfl (fun hD hr => by have hX : Ext _ _ := app_ext hr; have hB1 := hB1.ext hX; have hB2 := hB2.ext hX; simp only [EN, Nat.reduceEqDiff, reduceIte, qv_fieldAddr, fa41_1, Nat.zero_add, Nat.reduceAdd, k2_0, strEq, hB1.cell, hB2.cell]; rfl) ?_
        refine LD.qr rfl rfl (fun hD hr => by have hX : Ext _ _ := app_ext hr; have hB1 := hB1.ext hX; have hB2 := hB2.ext hX; simp only [EN, Nat.reduceEqDiff, reduceIte, qv_load, ld39, readN, AR, Nat.zero_add, Nat.reduceAdd, strEq, hB1.cell, hB2.cell]; rfl) ?_
        refine LD.es rfl rfl (by intro hD hr hf; have hX : Ext _ _ := app_ext hr; have hB1 := hB1.ext hX; have hB2 := hB2.ext hX; have hB30 := hf (0, .slice (some ⟨B30, 0, none⟩) 0 0) (by simp) (by show tb _ _ 0 = true; decide +kernel) _ rfl B30 rfl; exact (e_copyG (f := limL) (L := F) (bytes := 40) Try.underlying39 (inf_of Try.type47) rfl rfl rfl rfl (by decide) (fun _ => rfl) (by simp only [EN, Nat.reduceEqDiff, reduceIte, k2_0, k3_0, i5_0, strEq, hB1.cell, hB2.cell]) hB30 hlt30 (by simp only [EN, Nat.reduceEqDiff, reduceIte, k2_0, k3_0, i5_0, strEq, hB1.cell, hB2.cell]; rfl) rfl (hs2.ext hX) (by simp only [maxLen]; omega) (by omega) hX.size).mono (fun _ _ hh => ⟨app_of_ext hh.1, hh.2⟩)) ?_
        intro u8_3 w8_3
        obtain ⟨a31, c31, rfl⟩ := w8_3
        refine LD.qr rfl rfl (fun hD hr => by have hX : Ext _ _ := app_ext hr; have hB1 := hB1.ext hX; have hB2 := hB2.ext hX; simp only [EN, Nat.reduceEqDiff, reduceIte, qv_fieldAddr, fa41_1, Nat.zero_add, Nat.reduceAdd, k3_0, strEq, hB1.cell, hB2.cell]; rfl) ?_
        refine LD.qr rfl rfl (fun hD hr => by have hX : Ext _ _ := app_ext hr; have hB1 := hB1.ext hX; have hB2 := hB2.ext hX; simp only [EN, Nat.reduceEqDiff, reduceIte, qv_load, ld39, readN, AR, Nat.zero_add, Nat.reduceAdd, strEq, hB1.cell, hB2.cell]; rfl) ?_
        refine LD.es rfl rfl (by intro hD hr hf; have hX : Ext _ _ := app_ext hr; have hB1 := hB1.ext hX; have hB2 := hB2.ext hX; have ho31 := hf (3, .slice a31 F.length c31) (by simp) (by show tb _ _ 3 = true; decide +kernel) _ rfl; exact e_appIn (f := limL) (L := F) (M := F') (bytes := 40) Try.underlying39 (inf_of Try.type47) rfl rfl rfl rfl (by decide) (fun _ => rfl) (fun x u hu => by simp at hu; rcases hu with rfl | rfl | rfl <;> rfl) (by simp only [EN, Nat.reduceEqDiff, reduceIte, k2_0, k3_0, i5_0, strEq, hB1.cell, hB2.cell]) ho31 (by simp only [EN, Nat.reduceEqDiff, reduceIte, k2_0, k3_0, i5_0, strEq, hB1.cell, hB2.cell]; rfl) rfl (hs4.ext hX) (by simp only [maxLen]; omega) (by omega) hX.size) ?_
        intro u8_6 w8_6
        obtain ⟨a32, c32, rfl⟩ := w8_6
        refine LD.skip rfl ?_
        refine LD.nil ?_
        rintro h3 hr8 hF8
        have hx3 : Ext _ _ := app_ext hr8
        replace hs1 := hs1.ext hx3
        replace hs2 := hs2.ext hx3
        replace hs3 := hs3.ext hx3
        replace hs4 := hs4.ext hx3
        replace hB1 := hB1.ext hx3
        replace hB2 := hB2.ext hx3
        have ho32 : Own h3 _ 47 3 (.slice a32 (F.length + F'.length) c32) (F.length + F'.length) (F.flatMap limL ++ F'.flatMap limL) := hF8 (6, .slice a32 (F.length + F'.length) c32) (by simp) _ rfl
        obtain ⟨F2, hF2⟩ : ∃ F2, F ++ F' = F2 := ⟨_, rfl⟩
        have hl2 : F.length + F'.length = F2.length := (by rw [← hF2, List.length_append])
        rw [← List.flatMap_append, hF2, hl2] at ho32
        have hs7 : SlG 3 limL h3 a32 F2 := slG_own (f := limL) (sz := 3) (fun _ => rfl) ho32 rfl
        refine WL.qq (by simp only [EN, Nat.reduceEqDiff, reduceIte, k2_0, k3_0, i5_0, strEq, hB1.cell, hB2.cell, hl2, qv_assign]; rfl) ?_
        refine WL.nil ?_
        refine th_norm ?_
        refine hx_seq ?_
        refine hx_seq ?_
        refine hx_region ?_
        refine WL.qq (by simp only [EN, Nat.reduceEqDiff, reduceIte, qv_assign, strEq, hB1.cell, hB2.cell]; rfl) ?_
        refine WL.nil ?_
        refine th_norm ?_
        refine hx_block ?_
        refine hx_loopX [4, 7, 40, 41, 42, 43, 44, 45, 46, 47, 48, 49, 50, 51, 52, 53, 54, 55, 56, 57, 58, 59, 60, 61, 62, 63, 64, 65, 66, 67, 68, 69, 70] (fun k e => ∃ (j : Nat), F2.length - j = k ∧ (j ≤ F2.length) ∧ (∀ y ∈ F2.take j, netR F y.1.f y.1.t = netR F' y.1.f y.1.t) ∧ e 7 = .int .i64 j) _ ⟨0, rfl, ?_, ?_, ?_⟩ ?_
        · omega
        · simp
        · simp only [EN, Nat.reduceEqDiff, reduceIte, k2_0, k3_0, i5_0, strEq, hB1.cell, hB2.cell] <;> rfl
        ·
          rintro k e1L hL1 hX1 hfr1 ⟨j, rfl, hj, hno, i7_1⟩
          replace hs1 := hs1.ext hX1
          replace hs2 := hs2.ext hX1
          replace hs3 := hs3.ext hX1
          replace hs4 := hs4.ext hX1
          replace hB1 := hB1.ext hX1
          replace hB2 := hB2.ext hX1
          replace hs7 := hs7.ext hX1
          have k2_1 := hfr1 2 rfl; try simp only [EN, Nat.reduceEqDiff, reduceIte, k2_0, strEq, hB1.cell, hB2.cell] at k2_1
          have k3_1 := hfr1 3 rfl; try simp only [EN, Nat.reduceEqDiff, reduceIte, k3_0, strEq, hB1.cell, hB2.cell] at k3_1
          have k6_1 := hfr1 6 rfl; try simp only [EN, Nat.reduceEqDiff, reduceIte, strEq, hB1.cell, hB2.cell] at k6_1
          refine hx_seq ?_
          refine hx_seq ?_
          refine hx_region ?_
          refine WL.qq (by simp only [EN, Nat.reduceEqDiff, reduceIte, qv_move, i7_1, strEq, hB1.cell, hB2.cell]; rfl) ?_
          refine WL.qq (by simp only [EN, Nat.reduceEqDiff, reduceIte, qv_move, k6_1, strEq, hB1.cell, hB2.cell]; rfl) ?_
          refine WL.qq (by simp only [EN, Nat.reduceEqDiff, reduceIte, qv_len, ln39, AR, strEq, hB1.cell, hB2.cell]; rfl) ?_
          refine WL.qq (by simp only [EN, Nat.reduceEqDiff, reduceIte, qv_binOp, binv_lss, strEq, hB1.cell, hB2.cell]; rfl) ?_
          refine WL.nil ?_
          refine th_norm ?_
          refine hx_cond (by simp only [EN, Nat.reduceEqDiff, reduceIte, strEq, hB1.cell, hB2.cell]; rfl) (fun hct43 => ?_) (fun hct43 => ?_)
          ·
            try simp only [BD] at hct43
            obtain ⟨x, hx⟩ := atG (l := F2) (i := j) (by omega)
            obtain ⟨b, off, rfl, hr3, hc0, hc1, hc2⟩ := lim_rd hs7 hx
            refine hx_skip ?_
            refine th_norm ?_
            refine hx_seq ?_
            refine hx_block ?_
            refine hx_seq ?_
            apply hx_draw2 Rel.grows [] [11, 23] [(11, Spec.is _), (23, Spec.is _)] rfl (by decide +kernel) rfl
            refine LD.qq rfl rfl (by simp only [EN, Nat.reduceEqDiff, reduceIte, qv_load, ld41, readN, AR, Nat.zero_add, Nat.reduceAdd, k2_1, strEq, hB1.cell, hB2.cell]; rfl) ?_
            refine LD.qq rfl rfl (by simp only [EN, Nat.reduceEqDiff, reduceIte, qv_move, k6_1, strEq, hB1.cell, hB2.cell]; rfl) ?_
            refine LD.qq rfl rfl (by simp only [EN, Nat.reduceEqDiff, reduceIte, qv_move, i7_1, strEq, hB1.cell, hB2.cell]; rfl) ?_
            refine LD.qq rfl rfl (by simp only [EN, Nat.reduceEqDiff, reduceIte, qv_indexAddr, strEq, hB1.cell, hB2.cell]; (try simp (disch := omega) only [ix39, Int.toNat_natCast]); rfl) ?_
            refine LD.qq rfl rfl (by simp only [EN, Nat.reduceEqDiff, reduceIte, qv_fieldAddr, fa47_0, Nat.zero_add, Nat.reduceAdd, strEq, hB1.cell, hB2.cell]; rfl) ?_
            refine LD.qq rfl rfl (by simp only [EN, Nat.reduceEqDiff, reduceIte, k2_1, k3_1, k6_1, i7_1, strEq, hB1.cell, hB2.cell, qv_load, ld9, Int.toNat_natCast, Nat.add_zero, hc0]; rfl) ?_
            refine LD.qq rfl rfl (by simp only [EN, Nat.reduceEqDiff, reduceIte, qv_move, k6_1, strEq, hB1.cell, hB2.cell]; rfl) ?_
            refine LD.qq rfl rfl (by simp only [EN, Nat.reduceEqDiff, reduceIte, qv_move, i7_1, strEq, hB1.cell, hB2.cell]; rfl) ?_
            refine LD.qq rfl rfl (by simp only [EN, Nat.reduceEqDiff, reduceIte, qv_indexAddr, strEq, hB1.cell, hB2.cell]; (try simp (disch := omega) only [ix39, Int.toNat_natCast]); rfl) ?_
            refine LD.qq rfl rfl (by simp only [EN, Nat.reduceEqDiff, reduceIte, qv_fieldAddr, fa47_1, Nat.zero_add, Nat.reduceAdd, strEq, hB1.cell, hB2.cell]; rfl) ?_
            refine LD.qq rfl rfl (by simp only [EN, Nat.reduceEqDiff, reduceIte, k2_1, k3_1, k6_1, i7_1, strEq, hB1.cell, hB2.cell, qv_load, ld9, Int.toNat_natCast, hc1]; rfl) ?_
            refine LD.ck rfl rfl Try.call50 (by intro hD hr; have hx : Ext _ _ := hr; have hs1 := hs1.ext hx; have hs2 := hs2.ext hx; have hs3 := hs3.ext hx; have hs4 := hs4.ext hx; have hB1 := hB1.ext hx; have hB2 := hB2.ext hx; have hs7 := hs7.ext hx; simp only [EN, Nat.reduceEqDiff, reduceIte, AR, strEq, hB1.cell, hB2.cell]; exact c_rNet al Ls.length cl af F cf x.1.f x.1.t (by omega) hs2) ?_
            refine LD.qq rfl rfl (by simp only [EN, Nat.reduceEqDiff, reduceIte, qv_load, ld41, readN, AR, Nat.zero_add, Nat.reduceAdd, k3_1, strEq, hB1.cell, hB2.cell]; rfl) ?_
            refine LD.qq rfl rfl (by simp only [EN, Nat.reduceEqDiff, reduceIte, qv_move, k6_1, strEq, hB1.cell, hB2.cell]; rfl) ?_
            refine LD.qq rfl rfl (by simp only [EN, Nat.reduceEqDiff, reduceIte, qv_move, i7_1, strEq, hB1.cell, hB2.cell]; rfl) ?_
            refine LD.qq rfl rfl (by simp only [EN, Nat.reduceEqDiff, reduceIte, qv_indexAddr, strEq, hB1.cell, hB2.cell]; (try simp (disch := omega) only [ix39, Int.toNat_natCast]); rfl) ?_
            refine LD.qq rfl rfl (by simp only [EN, Nat.reduceEqDiff, reduceIte, qv_fieldAddr, fa47_0, Nat.zero_add, Nat.reduceAdd, strEq, hB1.cell, hB2.cell]; rfl) ?_
            refine LD.qq rfl rfl (by simp only [EN, Nat.reduceEqDiff, reduceIte, k2_1, k3_1, k6_1, i7_1, strEq, hB1.cell, hB2.cell, qv_load, ld9, Int.toNat_natCast, Nat.add_zero, hc0]; rfl) ?_
            refine LD.qq rfl rfl (by simp only [EN, Nat.reduceEqDiff, reduceIte, qv_move, k6_1, strEq, hB1.cell, hB2.cell]; rfl) ?_
            refine LD.qq rfl rfl (by simp only [EN, Nat.reduceEqDiff, reduceIte, qv_move, i7_1, strEq, hB1.cell, hB2.cell]; rfl) ?_
            refine LD.qq rfl rfl (by simp only [EN, Nat.reduceEqDiff, reduceIte, qv_indexAddr, strEq, hB1.cell, hB2.cell]; (try simp (disch := omega) only [ix39, Int.toNat_natCast]); rfl) ?_
            refine LD.qq rfl rfl (by simp only [EN, Nat.reduceEqDiff, reduceIte, qv_fieldAddr, fa47_1, Nat.zero_add, Nat.reduceAdd, strEq, hB1.cell, hB2.cell]; rfl) ?_
            refine LD.qq rfl rfl (by simp only [EN, Nat.reduceEqDiff, reduceIte, k2_1, k3_1, k6_1, i7_1, strEq, hB1.cell, hB2.cell, qv_load, ld9, Int.toNat_natCast, hc1]; rfl) ?_
            refine LD.ck rfl rfl Try.call50 (by intro hD hr; have hx : Ext _ _ := hr; have hs1 := hs1.ext hx; have hs2 := hs2.ext hx; have hs3 := hs3.ext hx; have hs4 := hs4.ext hx; have hB1 := hB1.ext hx; have hB2 := hB2.ext hx; have hs7 := hs7.ext hx; simp only [EN, Nat.reduceEqDiff, reduceIte, AR, strEq, hB1.cell, hB2.cell]; exact c_rNet al' Ls'.length cl' af' F' cf' x.1.f x.1.t (by omega) hs4) ?_
            refine LD.qq rfl rfl (by simp only [EN, Nat.reduceEqDiff, reduceIte, qv_binOp, binv_neq, eq2, Option.map_some, strEq, hB1.cell, hB2.cell]; rfl) ?_
            refine LD.nil ?_
            rintro h4 hx4 hF12
            replace hx4 : Ext _ _ := hx4
            replace hs1 := hs1.ext hx4
            replace hs2 := hs2.ext hx4
            replace hs3 := hs3.ext hx4
            replace hs4 := hs4.ext hx4
            replace hB1 := hB1.ext hx4
            replace hB2 := hB2.ext hx4
            replace hs7 := hs7.ext hx4
            refine WL.nil ?_
            refine th_norm ?_
            refine hx_cond (by simp only [EN, Nat.reduceEqDiff, reduceIte, strEq, hB1.cell, hB2.cell]; rfl) (fun hct70 => ?_) (fun hct70 => ?_)
            ·
              try simp only [BD] at hct70
              refine hx_seq ?_
              refine hx_region ?_
              refine WL.qq (by simp only [EN, Nat.reduceEqDiff, reduceIte, qv_assign, strEq, hB1.cell, hB2.cell]; rfl) ?_
              refine WL.nil ?_
              refine th_norm ?_
              refine hx_ret ?_
              refine bl_ret ?_
              refine th_ret ?_
              refine th_ret ?_
              refine bl_ret ?_
              refine th_ret ?_
              refine fin_ret [.tmp 4] rfl rfl (by simp only [EN, Nat.reduceEqDiff, reduceIte, resv, k2_1, k3_1, k6_1, i7_1, strEq, hB1.cell, hB2.cell]; rfl) ?_  -- ret 2 r13
              have hne : ¬ sameR Ls F Ls' F' := (fun hh => hct70 (hh.2 x (by rw [hF2]; exact List.mem_of_getElem? hx)))
              exact ⟨by simp [retOf, hne], ((hx1).trans ((hx2).trans ((hx3).trans ((hX1).trans (hx4)))))⟩
            ·
              try simp only [BD] at hct70
              refine hx_skip ?_
              refine bl_norm ?_
              refine th_norm ?_
              refine hx_region ?_
              refine WL.qq (by simp only [EN, Nat.reduceEqDiff, reduceIte, qv_move, i7_1, strEq, hB1.cell, hB2.cell]; rfl) ?_
              refine WL.qq (by simp only [EN, Nat.reduceEqDiff, reduceIte, qv_binOp, binv_add, strEq, hB1.cell, hB2.cell]; (try simp (disch := omega) only [w64, w8, wu64]); rfl) ?_
              refine WL.qq (by simp only [EN, Nat.reduceEqDiff, reduceIte, qv_assign, strEq, hB1.cell, hB2.cell]; rfl) ?_
              refine WL.nil ?_
              refine th_norm ?_
              refine ⟨rfl, ?_, ?_, _, ?_, j + 1, rfl, ?_, ?_, ?_⟩  -- again 0 of loop 1
              · exact hx4
              · (repeat (first | exact Fr.refl _ _ | refine Fr.set rfl ?_ | refine Fr.put rfl ?_ | with_reducible refine Fr.put0 ?_))
              · omega
              · omega
              · exact all_take (p := fun y : L2 => netR F y.1.f y.1.t = netR F' y.1.f y.1.t) hno hx (by simpa using hct70)
              · simp only [EN, Nat.reduceEqDiff, reduceIte, k2_1, k3_1, k6_1, i7_1, strEq, hB1.cell, hB2.cell] <;> first | rfl | (congr 1; omega)
          ·
            try simp only [BD] at hct43
            refine hx_exit ?_
            refine th_exit ?_
            refine th_exit ?_
            refine bl_hit ?_
            refine th_norm ?_
            refine hx_seq ?_
            refine hx_region ?_
            refine WL.qq (by simp only [EN, Nat.reduceEqDiff, reduceIte, qv_assign, strEq, hB1.cell, hB2.cell]; rfl) ?_
            refine WL.nil ?_
            refine th_norm ?_
            refine hx_ret ?_
            refine fin_ret [.tmp 4] rfl rfl (by simp only [EN, Nat.reduceEqDiff, reduceIte, resv, k2_1, k3_1, k6_1, i7_1, strEq, hB1.cell, hB2.cell]; rfl) ?_  -- ret 3 r14
            have hsa : sameR Ls F Ls' F' := ⟨hLs, by rw [hF2]; exact all_end (p := fun y : L2 => netR F y.1.f y.1.t = netR F' y.1.f y.1.t) hno (by omega)⟩
            exact ⟨by simp [retOf, hsa], ((hx1).trans ((hx2).trans ((hx3).trans (hX1))))⟩
theorem tb_EqualR {h0 h1 h : Heap} {p p' : Nat} {ls ns ls' ns' Ls F Ls' F' : List L2} {n n' : Nat} (ht : TB h0 h p ls ns) (ht' : TB h1 h p' ls' ns') (hQ : EQ ls ns Ls F n) (hQ' : EQ ls' ns' Ls' F' n') :
    HCalls Try.prog 24 #[.pointer (some ⟨p, 0, none⟩), .pointer (some ⟨p', 0, none⟩)] h (Grow (.bool (decide (sameR Ls F Ls' F'))) h) := by
  have hn := tb_nodup ht
  have hn' := tb_nodup ht'
  refine (tb_Equal ht ht').mono ?_
  rintro v h' ⟨rfl, hx⟩
  refine ⟨?_, hx⟩
  rw [← Bool.decide_and]
  congr 1
  exact decide_eq_decide.2 (hQ.same hQ' hn.1 hn'.1)
set_option maxHeartbeats 8000000 in
theorem l_eqnil (al : Option Addr) (l : List LOp) (cl : Nat) (am : Option Addr) (m : List LOp) (cm : Nat) (o : LOp) {h : Heap} (hl : SlG 5 opL h al l) (ll : l.length ≤ 9223372036854775807) (hok : ∀ o ∈ l, LOk h o)
    (hm : SlG 5 opL h am m) (lm : m.length ≤ 9223372036854775807) (hom : ∀ o ∈ m, LOk h o) (ho : LOk h o) :
    HCalls Try.prog 10 #[.slice al l.length cl, .slice am m.length cm, .agg (opL o).toArray] h (Grow (.bool true) h) := by
  have hfl := ho.x.rd
  refine hcalls2 Try.func10 rfl (by decide +kernel) (by simp only [Try.ntmps10]; exact of_decide_eq_true rfl) ?_
  intro e hin
  have e0 := hin 0 _ rfl
  have e1 := hin 1 _ rfl
  have e2 := hin 2 _ rfl
  have hE : Ext h h := Ext.refl h
  refine hx_seq ?_
  refine hx_region ?_
  refine WL.box2 (by simp only [EN, Nat.reduceEqDiff, reduceIte, Value.cells, e2, decide_true, Bool.not_true, Bool.not_false, decide_false, eq_self, if_true, if_false, Bool.or_true, Bool.and_true, Bool.or_false, Bool.and_self, Bool.false_or]; rfl) ?_
  intro h1 B1 hx1 hlt1 hB1
  replace hE := hE.trans hx1
  replace hl := hl.ext hx1
  replace hm := hm.ext hx1
  replace hfl := hfl.ext hx1
  refine WL.qq (by simp only [EN, Nat.reduceEqDiff, reduceIte, qv_assign, decide_true, Bool.not_true, Bool.not_false, decide_false, eq_self, if_true, if_false, Bool.or_true, Bool.and_true, Bool.or_false, Bool.and_self, Bool.false_or, hB1.cell]; rfl) ?_
  refine WL.nil ?_
  refine th_norm ?_
  refine hx_seq ?_
  refine hx_seq ?_
  refine hx_region ?_
  refine WL.cg Try.call11 (by simp only [EN, Nat.reduceEqDiff, reduceIte, AR, decide_true, Bool.not_true, Bool.not_false, decide_false, eq_self, if_true, if_false, Bool.or_true, Bool.and_true, Bool.or_false, Bool.and_self, Bool.false_or, hB1.cell]; exact c_known16 _) ?_
  intro h2 hx2
  replace hE := hE.trans hx2
  replace hl := hl.ext hx2
  replace hm := hm.ext hx2
  replace hfl := hfl.ext hx2
  replace hB1 := hB1.ext hx2
  refine WL.qq (by simp only [EN, Nat.reduceEqDiff, reduceIte, qv_unOp, unv_not, decide_true, Bool.not_true, Bool.not_false, decide_false, eq_self, if_true, if_false, Bool.or_true, Bool.and_true, Bool.or_false, Bool.and_self, Bool.false_or, hB1.cell]; rfl) ?_
  refine WL.qq (by simp only [EN, Nat.reduceEqDiff, reduceIte, qv_move, decide_true, Bool.not_true, Bool.not_false, decide_false, eq_self, if_true, if_false, Bool.or_true, Bool.and_true, Bool.or_false, Bool.and_self, Bool.false_or, hB1.cell]; rfl) ?_
  refine WL.cq (gd_at (t := 20) rfl (by simp only [EN, Nat.reduceEqDiff, reduceIte, e0, decide_true, Bool.not_true, Bool.not_false, decide_false, eq_self, if_true, if_false, Bool.or_true, Bool.and_true, Bool.or_false, Bool.and_self, Bool.false_or, hB1.cell] <;> rfl)) (fun hg1_3 => by simp only [EN, Nat.reduceEqDiff, reduceIte, qv_move, e0, decide_true, Bool.not_true, Bool.not_false, decide_false, eq_self, if_true, if_false, Bool.or_true, Bool.and_true, Bool.or_false, Bool.and_self, Bool.false_or, hB1.cell, hg1_3, GR]; rfl) ?_
  refine WL.cck (gd_at (t := 20) rfl (by simp only [EN, Nat.reduceEqDiff, reduceIte, decide_true, Bool.not_true, Bool.not_false, decide_false, eq_self, if_true, if_false, Bool.or_true, Bool.and_true, Bool.or_false, Bool.and_self, Bool.false_or, hB1.cell] <;> rfl)) Try.call17 (fun hg1_4 => by simp only [EN, Nat.reduceEqDiff, reduceIte, AR, decide_true, Bool.not_true, Bool.not_false, decide_false, eq_self, if_true, if_false, Bool.or_true, Bool.and_true, Bool.or_false, Bool.and_self, Bool.false_or, hB1.cell, hg1_4, GR]; exact c_small al l cl ll hl) ?_
  refine WL.cq (gd_at (t := 20) rfl (by simp only [EN, Nat.reduceEqDiff, reduceIte, decide_true, Bool.not_true, Bool.not_false, decide_false, eq_self, if_true, if_false, Bool.or_true, Bool.and_true, Bool.or_false, Bool.and_self, Bool.false_or, hB1.cell] <;> rfl)) (fun hg1_5 => by simp only [EN, Nat.reduceEqDiff, reduceIte, qv_unOp, unv_not, decide_true, Bool.not_true, Bool.not_false, decide_false, eq_self, if_true, if_false, Bool.or_true, Bool.and_true, Bool.or_false, Bool.and_self, Bool.false_or, hB1.cell, hg1_5, GR]; rfl) ?_
  refine WL.qq (by simp only [EN, Nat.reduceEqDiff, reduceIte, qv_pick, pk_and, pk_or, GR, decide_true, Bool.not_true, Bool.not_false, decide_false, eq_self, if_true, if_false, Bool.or_true, Bool.and_true, Bool.or_false, Bool.and_self, Bool.false_or, hB1.cell]; rfl) ?_
  refine WL.qq (by simp only [EN, Nat.reduceEqDiff, reduceIte, qv_move, decide_true, Bool.not_true, Bool.not_false, decide_false, eq_self, if_true, if_false, Bool.or_true, Bool.and_true, Bool.or_false, Bool.and_self, Bool.false_or, hB1.cell]; rfl) ?_
  refine WL.cq (gd_at (t := 25) rfl (by simp only [EN, Nat.reduceEqDiff, reduceIte, e1, decide_true, Bool.not_true, Bool.not_false, decide_false, eq_self, if_true, if_false, Bool.or_true, Bool.and_true, Bool.or_false, Bool.and_self, Bool.false_or, hB1.cell] <;> rfl)) (fun hg1_8 => by simp only [EN, Nat.reduceEqDiff, reduceIte, qv_move, e1, decide_true, Bool.not_true, Bool.not_false, decide_false, eq_self, if_true, if_false, Bool.or_true, Bool.and_true, Bool.or_false, Bool.and_self, Bool.false_or, hB1.cell, hg1_8, GR]; rfl) ?_
  refine WL.cck (gd_at (t := 25) rfl (by simp only [EN, Nat.reduceEqDiff, reduceIte, decide_true, Bool.not_true, Bool.not_false, decide_false, eq_self, if_true, if_false, Bool.or_true, Bool.and_true, Bool.or_false, Bool.and_self, Bool.false_or, hB1.cell] <;> rfl)) Try.call17 (fun hg1_9 => by simp only [EN, Nat.reduceEqDiff, reduceIte, AR, decide_true, Bool.not_true, Bool.not_false, decide_false, eq_self, if_true, if_false, Bool.or_true, Bool.and_true, Bool.or_false, Bool.and_self, Bool.false_or, hB1.cell, hg1_9, GR]; exact c_small am m cm lm hm) ?_
  refine WL.cq (gd_at (t := 25) rfl (by simp only [EN, Nat.reduceEqDiff, reduceIte, decide_true, Bool.not_true, Bool.not_false, decide_false, eq_self, if_true, if_false, Bool.or_true, Bool.and_true, Bool.or_false, Bool.and_self, Bool.false_or, hB1.cell] <;> rfl)) (fun hg1_10 => by simp only [EN, Nat.reduceEqDiff, reduceIte, qv_unOp, unv_not, decide_true, Bool.not_true, Bool.not_false, decide_false, eq_self, if_true, if_false, Bool.or_true, Bool.and_true, Bool.or_false, Bool.and_self, Bool.false_or, hB1.cell, hg1_10, GR]; rfl) ?_
  refine WL.qq (by simp only [EN, Nat.reduceEqDiff, reduceIte, qv_pick, pk_and, pk_or, GR, decide_true, Bool.not_true, Bool.not_false, decide_false, eq_self, if_true, if_false, Bool.or_true, Bool.and_true, Bool.or_false, Bool.and_self, Bool.false_or, hB1.cell]; rfl) ?_
  refine WL.qq (by simp only [EN, Nat.reduceEqDiff, reduceIte, qv_move, decide_true, Bool.not_true, Bool.not_false, decide_false, eq_self, if_true, if_false, Bool.or_true, Bool.and_true, Bool.or_false, Bool.and_self, Bool.false_or, hB1.cell]; rfl) ?_
  refine WL.cq (gd_at (t := 30) rfl (by simp only [EN, Nat.reduceEqDiff, reduceIte, decide_true, Bool.not_true, Bool.not_false, decide_false, eq_self, if_true, if_false, Bool.or_true, Bool.and_true, Bool.or_false, Bool.and_self, Bool.false_or, hB1.cell] <;> rfl)) (fun hg1_13 => by simp only [EN, Nat.reduceEqDiff, reduceIte, qv_load, ld45, readN, AR, Nat.zero_add, Nat.reduceAdd, decide_true, Bool.not_true, Bool.not_false, decide_false, eq_self, if_true, if_false, Bool.or_true, Bool.and_true, Bool.or_false, Bool.and_self, Bool.false_or, hB1.cell, hg1_13, GR]; rfl) ?_
  refine WL.geX (gd_at (t := 30) rfl (by simp only [EN, Nat.reduceEqDiff, reduceIte, decide_true, Bool.not_true, Bool.not_false, decide_false, eq_self, if_true, if_false, Bool.or_true, Bool.and_true, Bool.or_false, Bool.and_self, Bool.false_or, hB1.cell] <;> rfl)) (fun hg1_14 => e_lit1X Try.underlying35 sz45 zr45 (by decide) (by simp only [EN, Nat.reduceEqDiff, reduceIte, Value.cells, decide_true, Bool.not_true, Bool.not_false, decide_false, eq_self, if_true, if_false, Bool.or_true, Bool.and_true, Bool.or_false, Bool.and_self, Bool.false_or, hB1.cell, hg1_14, GR]; rfl) rfl) ?_
  intro v1_14 h3 hx3 w1_14 n1_14
  replace hE := hE.trans hx3
  replace hl := hl.ext hx3
  replace hm := hm.ext hx3
  replace hfl := hfl.ext hx3
  replace hB1 := hB1.ext hx3
  refine WL.cck (gd_at (t := 30) rfl (by simp only [EN, Nat.reduceEqDiff, reduceIte, decide_true, Bool.not_true, Bool.not_false, decide_false, eq_self, if_true, if_false, Bool.or_true, Bool.and_true, Bool.or_false, Bool.and_self, Bool.false_or, hB1.cell] <;> rfl)) Try.call17 (fun hg1_15 => by simp only [EN, Nat.reduceEqDiff, reduceIte, AR, decide_true, Bool.not_true, Bool.not_false, decide_false, eq_self, if_true, if_false, Bool.or_true, Bool.and_true, Bool.or_false, Bool.and_self, Bool.false_or, hB1.cell, hg1_15, GR]; exact c_small1 (w1_14 (by simpa using hg1_15))) ?_
  refine WL.cq (gd_at (t := 30) rfl (by simp only [EN, Nat.reduceEqDiff, reduceIte, decide_true, Bool.not_true, Bool.not_false, decide_false, eq_self, if_true, if_false, Bool.or_true, Bool.and_true, Bool.or_false, Bool.and_self, Bool.false_or, hB1.cell] <;> rfl)) (fun hg1_16 => by simp only [EN, Nat.reduceEqDiff, reduceIte, qv_unOp, unv_not, decide_true, Bool.not_true, Bool.not_false, decide_false, eq_self, if_true, if_false, Bool.or_true, Bool.and_true, Bool.or_false, Bool.and_self, Bool.false_or, hB1.cell, hg1_16, GR]; rfl) ?_
  refine WL.qq (by simp only [EN, Nat.reduceEqDiff, reduceIte, qv_pick, pk_and, pk_or, GR, decide_true, Bool.not_true, Bool.not_false, decide_false, eq_self, if_true, if_false, Bool.or_true, Bool.and_true, Bool.or_false, Bool.and_self, Bool.false_or, hB1.cell]; rfl) ?_
  refine WL.nil ?_
  refine th_norm ?_
  refine hx_cond (by simp only [EN, Nat.reduceEqDiff, reduceIte, decide_true, Bool.not_true, Bool.not_false, decide_false, eq_self, if_true, if_false, Bool.or_true, Bool.and_true, Bool.or_false, Bool.and_self, Bool.false_or, hB1.cell]; rfl) (fun hct35 => ?_) (fun hct35 => ?_)
  ·
    try simp only [BD] at hct35
    refine hx_seq ?_
    refine hx_region ?_
    refine WL.cg Try.call11 (by simp only [EN, Nat.reduceEqDiff, reduceIte, AR, decide_true, Bool.not_true, Bool.not_false, decide_false, eq_self, if_true, if_false, Bool.or_true, Bool.and_true, Bool.or_false, Bool.and_self, Bool.false_or, hB1.cell]; exact c_known16 _) ?_
    intro h4 hx4
    replace hE := hE.trans hx4
    replace hl := hl.ext hx4
    replace hm := hm.ext hx4
    replace hfl := hfl.ext hx4
    replace hB1 := hB1.ext hx4
    refine WL.qq (by simp only [EN, Nat.reduceEqDiff, reduceIte, qv_assign, decide_true, Bool.not_true, Bool.not_false, decide_false, eq_self, if_true, if_false, Bool.or_true, Bool.and_true, Bool.or_false, Bool.and_self, Bool.false_or, hB1.cell]; rfl) ?_
    refine WL.nil ?_
    refine th_norm ?_
    refine hx_ret ?_
    refine th_ret ?_
    refine fin_ret [.tmp 6] rfl rfl (by simp only [EN, Nat.reduceEqDiff, reduceIte, resv, e0, e1, e2, decide_true, Bool.not_true, Bool.not_false, decide_false, eq_self, if_true, if_false, Bool.or_true, Bool.and_true, Bool.or_false, Bool.and_self, Bool.false_or, hB1.cell]; rfl) ?_  -- ret 0 r2
    exact ⟨by simp [retOf], hE⟩
  ·
    try simp only [BD] at hct35
    have hsm : smallB l = true := (by cases h8 : smallB l; (rw [h8] at hct35; simp at hct35); rfl)
    have hsm2 : smallB m = true := (by cases h8 : smallB m; (rw [h8] at hct35; simp at hct35); rfl)
    have hsm1 : smallB [o] = true := (by rw [hsm, hsm2] at hct35; simpa using hct35)
    obtain ⟨hl40, hl12⟩ := small_ok hsm
    obtain ⟨hm40, hm12⟩ := small_ok hsm2
    have h12 := (small_ok hsm1).2 o (by simp)
    refine hx_skip ?_
    refine th_norm ?_
    refine hx_seq ?_
    refine hx_region ?_
    refine WL.qq (by simp only [EN, Nat.reduceEqDiff, reduceIte, qv_move, e0, decide_true, Bool.not_true, Bool.not_false, decide_false, eq_self, if_true, if_false, Bool.or_true, Bool.and_true, Bool.or_false, Bool.and_self, Bool.false_or, hB1.cell]; rfl) ?_
    refine WL.ce Try.call22 (by simp only [EN, Nat.reduceEqDiff, reduceIte, AR, decide_true, Bool.not_true, Bool.not_false, decide_false, eq_self, if_true, if_false, Bool.or_true, Bool.and_true, Bool.or_false, Bool.and_self, Bool.false_or, hB1.cell]; exact c_runM al l cl hsm hl (fun o ho => (hok o ho).ext hE)) ?_
    rintro _ h5 ⟨hx5, p, w, rfl, hT, hR, hQ⟩
    replace hE := hE.trans hx5
    replace hl := hl.ext hx5
    replace hm := hm.ext hx5
    replace hfl := hfl.ext hx5
    replace hB1 := hB1.ext hx5
    simp only [put_some]
    obtain ⟨a1, c1, a2, c2, rfl, hs1, hs2⟩ := hR.ex
    refine WL.qq (by simp only [EN, Nat.reduceEqDiff, reduceIte, qv_move, decide_true, Bool.not_true, Bool.not_false, decide_false, eq_self, if_true, if_false, Bool.or_true, Bool.and_true, Bool.or_false, Bool.and_self, Bool.false_or, hB1.cell]; rfl) ?_
    refine WL.qq (by simp only [EN, Nat.reduceEqDiff, reduceIte, qv_extract, AR, decide_true, Bool.not_true, Bool.not_false, decide_false, eq_self, if_true, if_false, Bool.or_true, Bool.and_true, Bool.or_false, Bool.and_self, Bool.false_or, hB1.cell]; rfl) ?_
    refine WL.qq (by simp only [EN, Nat.reduceEqDiff, reduceIte, qv_extract, AR, decide_true, Bool.not_true, Bool.not_false, decide_false, eq_self, if_true, if_false, Bool.or_true, Bool.and_true, Bool.or_false, Bool.and_self, Bool.false_or, hB1.cell]; rfl) ?_
    refine WL.qq (by simp only [EN, Nat.reduceEqDiff, reduceIte, qv_extract, AR, decide_true, Bool.not_true, Bool.not_false, decide_false, eq_self, if_true, if_false, Bool.or_true, Bool.and_true, Bool.or_false, Bool.and_self, Bool.false_or, hB1.cell]; rfl) ?_
    refine WL.alloc2 zr41 ?_
    intro h6 B6 hx6 hlt6 hB6
    have hne1_6 : B6 ≠ B1 := by have := (Array.getElem?_eq_some_iff.1 hB1).1; omega
    have hb0_6 := Nat.le_trans hE.size hlt6
    have hl_s6 := hl
    have hm_s6 := hm
    have hfl_s6 := hfl
    have hB1_s6 := hB1
    have hT_s6 := hT
    have hs1_s6 := hs1
    have hs2_s6 := hs2
    replace hE := hE.trans hx6
    replace hl := hl.ext hx6
    replace hm := hm.ext hx6
    replace hfl := hfl.ext hx6
    replace hB1 := hB1.ext hx6
    replace hT := hT.ext hx6
    replace hs1 := hs1.ext hx6
    replace hs2 := hs2.ext hx6
    have hEo6 := hx6
    simp only [Value.cells] at hB6
    refine WL.qq (by simp only [EN, Nat.reduceEqDiff, reduceIte, qv_assign, decide_true, Bool.not_true, Bool.not_false, decide_false, eq_self, if_true, if_false, Bool.or_true, Bool.and_true, Bool.or_false, Bool.and_self, Bool.false_or, hB1.cell, hB6.cell]; rfl) ?_
    refine WL.store (by simp only [EN, Nat.reduceEqDiff, reduceIte, decide_true, Bool.not_true, Bool.not_false, decide_false, eq_self, if_true, if_false, Bool.or_true, Bool.and_true, Bool.or_false, Bool.and_self, Bool.false_or, hB1.cell, hB6.cell] <;> rfl) sz41 (by simp only [EN, Nat.reduceEqDiff, reduceIte, Value.cells, decide_true, Bool.not_true, Bool.not_false, decide_false, eq_self, if_true, if_false, Bool.or_true, Bool.and_true, Bool.or_false, Bool.and_self, Bool.false_or, hB1.cell, hB6.cell] <;> rfl) rfl hB6 (by first | decide | (simp; done) | (simp; omega)) (by simp [Value.oneCell']) ?_
    intro h7 hw7
    replace hE := hw7.ext hE hb0_6
    replace hEo6 := hw7.ext hEo6 hlt6
    replace hl := hl_s6.ext hEo6
    replace hm := hm_s6.ext hEo6
    replace hfl := hfl_s6.ext hEo6
    replace hB1 := hB1_s6.ext hEo6
    replace hT := hT_s6.ext hEo6
    replace hs1 := hs1_s6.ext hEo6
    replace hs2 := hs2_s6.ext hEo6
    replace hB6 := hw7.at_
    try simp only [splc, List.take_succ_cons, List.take_zero, List.take_nil, List.drop_succ_cons, List.drop_zero, List.drop_nil, List.cons_append, List.nil_append, List.length_cons, List.length_nil, Nat.zero_add, Nat.add_zero, Nat.reduceAdd, List.append_nil] at hB6
    refine WL.qq (by simp only [EN, Nat.reduceEqDiff, reduceIte, qv_assign, decide_true, Bool.not_true, Bool.not_false, decide_false, eq_self, if_true, if_false, Bool.or_true, Bool.and_true, Bool.or_false, Bool.and_self, Bool.false_or, hB1.cell, hB6.cell]; rfl) ?_
    refine WL.nil ?_
    refine th_norm ?_
    refine hx_seq ?_
    refine hx_region ?_
    refine WL.qq (by simp only [EN, Nat.reduceEqDiff, reduceIte, qv_move, e1, decide_true, Bool.not_true, Bool.not_false, decide_false, eq_self, if_true, if_false, Bool.or_true, Bool.and_true, Bool.or_false, Bool.and_self, Bool.false_or, hB1.cell, hB6.cell]; rfl) ?_
    refine WL.ce Try.call22 (by simp only [EN, Nat.reduceEqDiff, reduceIte, AR, decide_true, Bool.not_true, Bool.not_false, decide_false, eq_self, if_true, if_false, Bool.or_true, Bool.and_true, Bool.or_false, Bool.and_self, Bool.false_or, hB1.cell, hB6.cell]; exact c_runM am m cm hsm2 hm (fun o ho => (hom o ho).ext hE)) ?_
    rintro _ h8 ⟨hx8, p', w', rfl, hT', hR', hQ'⟩
    replace hE := hE.trans hx8
    replace hEo6 := hEo6.trans hx8
    replace hl := hl.ext hx8
    replace hm := hm.ext hx8
    replace hfl := hfl.ext hx8
    replace hB1 := hB1.ext hx8
    replace hT := hT.ext hx8
    replace hs1 := hs1.ext hx8
    replace hs2 := hs2.ext hx8
    replace hB6 := hB6.ext hx8
    simp only [put_some]
    obtain ⟨a3, c3, a4, c4, rfl, hs3, hs4⟩ := hR'.ex
    refine WL.qq (by simp only [EN, Nat.reduceEqDiff, reduceIte, qv_move, decide_true, Bool.not_true, Bool.not_false, decide_false, eq_self, if_true, if_false, Bool.or_true, Bool.and_true, Bool.or_false, Bool.and_self, Bool.false_or, hB1.cell, hB6.cell]; rfl) ?_
    refine WL.qq (by simp only [EN, Nat.reduceEqDiff, reduceIte, qv_extract, AR, decide_true, Bool.not_true, Bool.not_false, decide_false, eq_self, if_true, if_false, Bool.or_true, Bool.and_true, Bool.or_false, Bool.and_self, Bool.false_or, hB1.cell, hB6.cell]; rfl) ?_
    refine WL.qq (by simp only [EN, Nat.reduceEqDiff, reduceIte, qv_extract, AR, decide_true, Bool.not_true, Bool.not_false, decide_false, eq_self, if_true, if_false, Bool.or_true, Bool.and_true, Bool.or_false, Bool.and_self, Bool.false_or, hB1.cell, hB6.cell]; rfl) ?_
    refine WL.qq (by simp only [EN, Nat.reduceEqDiff, reduceIte, qv_extract, AR, decide_true, Bool.not_true, Bool.not_false, decide_false, eq_self, if_true, if_false, Bool.or_true, Bool.and_true, Bool.or_false, Bool.and_self, Bool.false_or, hB1.cell, hB6.cell]; rfl) ?_
    refine WL.alloc2 zr41 ?_
    intro h9 B9 hx9 hlt9 hB9
    have hne1_9 : B9 ≠ B1 := by have := (Array.getElem?_eq_some_iff.1 hB1).1; omega
    have hne6_9 : B9 ≠ B6 := by have := (Array.getElem?_eq_some_iff.1 hB6).1; omega
    have hb0_9 := Nat.le_trans hE.size hlt9
    have hbo6_9 := Nat.le_trans hEo6.size hlt9
    have hl_s9 := hl
    have hm_s9 := hm
    have hfl_s9 := hfl
    have hB1_s9 := hB1
    have hT_s9 := hT
    have hs1_s9 := hs1
    have hs2_s9 := hs2
    have hB6_s9 := hB6
    have hT'_s9 := hT'
    have hs3_s9 := hs3
    have hs4_s9 := hs4
    replace hE := hE.trans hx9
    replace hEo6 := hEo6.trans hx9
    replace hl := hl.ext hx9
    replace hm := hm.ext hx9
    replace hfl := hfl.ext hx9
    replace hB1 := hB1.ext hx9
    replace hT := hT.ext hx9
    replace hs1 := hs1.ext hx9
    replace hs2 := hs2.ext hx9
    replace hB6 := hB6.ext hx9
    replace hT' := hT'.ext hx9
    replace hs3 := hs3.ext hx9
    replace hs4 := hs4.ext hx9
    have hEo9 := hx9
    simp only [Value.cells] at hB9
    refine WL.qq (by simp only [EN, Nat.reduceEqDiff, reduceIte, qv_assign, decide_true, Bool.not_true, Bool.not_false, decide_false, eq_self, if_true, if_false, Bool.or_true, Bool.and_true, Bool.or_false, Bool.and_self, Bool.false_or, hB1.cell, hB6.cell, hB9.cell]; rfl) ?_
    refine WL.store (by simp only [EN, Nat.reduceEqDiff, reduceIte, decide_true, Bool.not_true, Bool.not_false, decide_false, eq_self, if_true, if_false, Bool.or_true, Bool.and_true, Bool.or_false, Bool.and_self, Bool.false_or, hB1.cell, hB6.cell, hB9.cell] <;> rfl) sz41 (by simp only [EN, Nat.reduceEqDiff, reduceIte, Value.cells, decide_true, Bool.not_true, Bool.not_false, decide_false, eq_self, if_true, if_false, Bool.or_true, Bool.and_true, Bool.or_false, Bool.and_self, Bool.false_or, hB1.cell, hB6.cell, hB9.cell] <;> rfl) rfl hB9 (by first | decide | (simp; done) | (simp; omega)) (by simp [Value.oneCell']) ?_
    intro h10 hw10
    replace hE := hw10.ext hE hb0_9
    replace hEo6 := hw10.ext hEo6 hbo6_9
    replace hEo9 := hw10.ext hEo9 hlt9
    replace hl := hl_s9.ext hEo9
    replace hm := hm_s9.ext hEo9
    replace hfl := hfl_s9.ext hEo9
    replace hB1 := hB1_s9.ext hEo9
    replace hT := hT_s9.ext hEo9
    replace hs1 := hs1_s9.ext hEo9
    replace hs2 := hs2_s9.ext hEo9
    replace hB6 := hB6_s9.ext hEo9
    replace hT' := hT'_s9.ext hEo9
    replace hs3 := hs3_s9.ext hEo9
    replace hs4 := hs4_s9.ext hEo9
    replace hB9 := hw10.at_
    try simp only [splc, List.take_succ_cons, List.take_zero, List.take_nil, List.drop_succ_cons, List.drop_zero, List.drop_nil, List.cons_append, List.nil_append, List.length_cons, List.length_nil, Nat.zero_add, Nat.add_zero, Nat.reduceAdd, List.append_nil] at hB9
    refine WL.qq (by simp only [EN, Nat.reduceEqDiff, reduceIte, qv_assign, decide_true, Bool.not_true, Bool.not_false, decide_false, eq_self, if_true, if_false, Bool.or_true, Bool.and_true, Bool.or_false, Bool.and_self, Bool.false_or, hB1.cell, hB6.cell, hB9.cell]; rfl) ?_
    refine WL.nil ?_
    refine th_norm ?_
    refine hx_seq ?_
    refine hx_region ?_
    refine WL.qq (by simp only [EN, Nat.reduceEqDiff, reduceIte, qv_assign, decide_true, Bool.not_true, Bool.not_false, decide_false, eq_self, if_true, if_false, Bool.or_true, Bool.and_true, Bool.or_false, Bool.and_self, Bool.false_or, hB1.cell, hB6.cell, hB9.cell]; rfl) ?_
    refine WL.nil ?_
    refine th_norm ?_
    refine hx_seq ?_
    refine hx_seq ?_
    apply hx_draw2 Rel.grows [] [9, 12, 17, 22, 26] [(9, Spec.is _), (12, Spec.is _), (17, Spec.is _), (22, Spec.is _), (26, Spec.is _)] rfl (by decide +kernel) rfl
    have q1 := hQ.ll; have q3 := hQ.lF; have q4 := hQ.pm.length_eq; have p1 := hQ'.ll; have p3 := hQ'.lF; have p4 := hQ'.pm.length_eq
    refine LD.qq rfl rfl (by simp only [EN, Nat.reduceEqDiff, reduceIte, qv_move, decide_true, Bool.not_true, Bool.not_false, decide_false, eq_self, if_true, if_false, Bool.or_true, Bool.and_true, Bool.or_false, Bool.and_self, Bool.false_or, hB1.cell, hB6.cell, hB9.cell]; rfl) ?_
    refine LD.qq rfl rfl (by simp only [EN, Nat.reduceEqDiff, reduceIte, qv_unOp, unv_not, decide_true, Bool.not_true, Bool.not_false, decide_false, eq_self, if_true, if_false, Bool.or_true, Bool.and_true, Bool.or_false, Bool.and_self, Bool.false_or, hB1.cell, hB6.cell, hB9.cell]; rfl) ?_
    refine LD.qq rfl rfl (by simp only [EN, Nat.reduceEqDiff, reduceIte, qv_move, decide_true, Bool.not_true, Bool.not_false, decide_false, eq_self, if_true, if_false, Bool.or_true, Bool.and_true, Bool.or_false, Bool.and_self, Bool.false_or, hB1.cell, hB6.cell, hB9.cell]; rfl) ?_
    refine LD.cq rfl rfl (gd_at (t := 51) rfl (by simp only [EN, Nat.reduceEqDiff, reduceIte, decide_true, Bool.not_true, Bool.not_false, decide_false, eq_self, if_true, if_false, Bool.or_true, Bool.and_true, Bool.or_false, Bool.and_self, Bool.false_or, hB1.cell, hB6.cell, hB9.cell] <;> rfl)) (fun hg6_3 => by simp only [EN, Nat.reduceEqDiff, reduceIte, qv_move, decide_true, Bool.not_true, Bool.not_false, decide_false, eq_self, if_true, if_false, Bool.or_true, Bool.and_true, Bool.or_false, Bool.and_self, Bool.false_or, hB1.cell, hB6.cell, hB9.cell, hg6_3, GR]; rfl) ?_
    refine LD.cq rfl rfl (gd_at (t := 51) rfl (by simp only [EN, Nat.reduceEqDiff, reduceIte, decide_true, Bool.not_true, Bool.not_false, decide_false, eq_self, if_true, if_false, Bool.or_true, Bool.and_true, Bool.or_false, Bool.and_self, Bool.false_or, hB1.cell, hB6.cell, hB9.cell] <;> rfl)) (fun hg6_4 => by simp only [EN, Nat.reduceEqDiff, reduceIte, qv_unOp, unv_not, decide_true, Bool.not_true, Bool.not_false, decide_false, eq_self, if_true, if_false, Bool.or_true, Bool.and_true, Bool.or_false, Bool.and_self, Bool.false_or, hB1.cell, hB6.cell, hB9.cell, hg6_4, GR]; rfl) ?_
    refine LD.qq rfl rfl (by simp only [EN, Nat.reduceEqDiff, reduceIte, qv_pick, pk_and, pk_or, GR, decide_true, Bool.not_true, Bool.not_false, decide_false, eq_self, if_true, if_false, Bool.or_true, Bool.and_true, Bool.or_false, Bool.and_self, Bool.false_or, hB1.cell, hB6.cell, hB9.cell]; rfl) ?_
    refine LD.qq rfl rfl (by simp only [EN, Nat.reduceEqDiff, reduceIte, qv_move, decide_true, Bool.not_true, Bool.not_false, decide_false, eq_self, if_true, if_false, Bool.or_true, Bool.and_true, Bool.or_false, Bool.and_self, Bool.false_or, hB1.cell, hB6.cell, hB9.cell]; rfl) ?_
    refine LD.cq rfl rfl (gd_at (t := 55) rfl (by simp only [EN, Nat.reduceEqDiff, reduceIte, decide_true, Bool.not_true, Bool.not_false, decide_false, eq_self, if_true, if_false, Bool.or_true, Bool.and_true, Bool.or_false, Bool.and_self, Bool.false_or, hB1.cell, hB6.cell, hB9.cell] <;> rfl)) (fun hg6_7 => by simp only [EN, Nat.reduceEqDiff, reduceIte, qv_move, decide_true, Bool.not_true, Bool.not_false, decide_false, eq_self, if_true, if_false, Bool.or_true, Bool.and_true, Bool.or_false, Bool.and_self, Bool.false_or, hB1.cell, hB6.cell, hB9.cell, hg6_7, GR]; rfl) ?_
    refine LD.cq rfl rfl (gd_at (t := 55) rfl (by simp only [EN, Nat.reduceEqDiff, reduceIte, decide_true, Bool.not_true, Bool.not_false, decide_false, eq_self, if_true, if_false, Bool.or_true, Bool.and_true, Bool.or_false, Bool.and_self, Bool.false_or, hB1.cell, hB6.cell, hB9.cell] <;> rfl)) (fun hg6_8 => by simp only [EN, Nat.reduceEqDiff, reduceIte, qv_move, decide_true, Bool.not_true, Bool.not_false, decide_false, eq_self, if_true, if_false, Bool.or_true, Bool.and_true, Bool.or_false, Bool.and_self, Bool.false_or, hB1.cell, hB6.cell, hB9.cell, hg6_8, GR]; rfl) ?_
    refine LD.cck rfl rfl (gd_at (t := 55) rfl (by simp only [EN, Nat.reduceEqDiff, reduceIte, decide_true, Bool.not_true, Bool.not_false, decide_false, eq_self, if_true, if_false, Bool.or_true, Bool.and_true, Bool.or_false, Bool.and_self, Bool.false_or, hB1.cell, hB6.cell, hB9.cell] <;> rfl)) Try.call24 (fun hg6_9 => by intro hD hr; have hx : Ext _ _ := hr; have hl := hl.ext hx; have hm := hm.ext hx; have hfl := hfl.ext hx; have hB1 := hB1.ext hx; have hT := hT.ext hx; have hs1 := hs1.ext hx; have hs2 := hs2.ext hx; have hB6 := hB6.ext hx; have hT' := hT'.ext hx; have hs3 := hs3.ext hx; have hs4 := hs4.ext hx; have hB9 := hB9.ext hx; simp only [EN, Nat.reduceEqDiff, reduceIte, AR, decide_true, Bool.not_true, Bool.not_false, decide_false, eq_self, if_true, if_false, Bool.or_true, Bool.and_true, Bool.or_false, Bool.and_self, Bool.false_or, hB1.cell, hB6.cell, hB9.cell, hg6_9, GR]; exact tb_EqualR hT hT' hQ hQ') ?_
    refine LD.cq rfl rfl (gd_at (t := 55) rfl (by simp only [EN, Nat.reduceEqDiff, reduceIte, decide_true, Bool.not_true, Bool.not_false, decide_false, eq_self, if_true, if_false, Bool.or_true, Bool.and_true, Bool.or_false, Bool.and_self, Bool.false_or, hB1.cell, hB6.cell, hB9.cell] <;> rfl)) (fun hg6_10 => by simp only [EN, Nat.reduceEqDiff, reduceIte, qv_load, ld41, readN, AR, Nat.zero_add, Nat.reduceAdd, decide_true, Bool.not_true, Bool.not_false, decide_false, eq_self, if_true, if_false, Bool.or_true, Bool.and_true, Bool.or_false, Bool.and_self, Bool.false_or, hB1.cell, hB6.cell, hB9.cell, hg6_10, GR]; rfl) ?_
    refine LD.cq rfl rfl (gd_at (t := 55) rfl (by simp only [EN, Nat.reduceEqDiff, reduceIte, decide_true, Bool.not_true, Bool.not_false, decide_false, eq_self, if_true, if_false, Bool.or_true, Bool.and_true, Bool.or_false, Bool.and_self, Bool.false_or, hB1.cell, hB6.cell, hB9.cell] <;> rfl)) (fun hg6_11 => by simp only [EN, Nat.reduceEqDiff, reduceIte, qv_load, ld41, readN, AR, Nat.zero_add, Nat.reduceAdd, decide_true, Bool.not_true, Bool.not_false, decide_false, eq_self, if_true, if_false, Bool.or_true, Bool.and_true, Bool.or_false, Bool.and_self, Bool.false_or, hB1.cell, hB6.cell, hB9.cell, hg6_11, GR]; rfl) ?_
    refine LD.cck rfl rfl (gd_at (t := 55) rfl (by simp only [EN, Nat.reduceEqDiff, reduceIte, decide_true, Bool.not_true, Bool.not_false, decide_false, eq_self, if_true, if_false, Bool.or_true, Bool.and_true, Bool.or_false, Bool.and_self, Bool.false_or, hB1.cell, hB6.cell, hB9.cell] <;> rfl)) Try.call33 (fun hg6_12 => by intro hD hr; have hx : Ext _ _ := hr; have hl := hl.ext hx; have hm := hm.ext hx; have hfl := hfl.ext hx; have hB1 := hB1.ext hx; have hT := hT.ext hx; have hs1 := hs1.ext hx; have hs2 := hs2.ext hx; have hB6 := hB6.ext hx; have hT' := hT'.ext hx; have hs3 := hs3.ext hx; have hs4 := hs4.ext hx; have hB9 := hB9.ext hx; simp only [EN, Nat.reduceEqDiff, reduceIte, AR, decide_true, Bool.not_true, Bool.not_false, decide_false, eq_self, if_true, if_false, Bool.or_true, Bool.and_true, Bool.or_false, Bool.and_self, Bool.false_or, hB1.cell, hB6.cell, hB9.cell, hg6_12, GR]; exact c_rSame a1 (rR l).1 c1 a2 (rR l).2 c2 a3 (rR m).1 c3 a4 (rR m).2 c4 (by omega) (by omega) (by omega) (by omega) hs1 hs2 hs3 hs4) ?_
    refine LD.cq rfl rfl (gd_at (t := 55) rfl (by simp only [EN, Nat.reduceEqDiff, reduceIte, decide_true, Bool.not_true, Bool.not_false, decide_false, eq_self, if_true, if_false, Bool.or_true, Bool.and_true, Bool.or_false, Bool.and_self, Bool.false_or, hB1.cell, hB6.cell, hB9.cell] <;> rfl)) (fun hg6_13 => by simp only [EN, Nat.reduceEqDiff, reduceIte, qv_binOp, binv_neq, eq4, Option.map_some, decide_true, Bool.not_true, Bool.not_false, decide_false, eq_self, if_true, if_false, Bool.or_true, Bool.and_true, Bool.or_false, Bool.and_self, Bool.false_or, hB1.cell, hB6.cell, hB9.cell, hg6_13, GR]; rfl) ?_
    refine LD.qq rfl rfl (by simp only [EN, Nat.reduceEqDiff, reduceIte, qv_pick, pk_and, pk_or, GR, decide_true, Bool.not_true, Bool.not_false, decide_false, eq_self, if_true, if_false, Bool.or_true, Bool.and_true, Bool.or_false, Bool.and_self, Bool.false_or, hB1.cell, hB6.cell, hB9.cell]; rfl) ?_
    refine LD.qq rfl rfl (by simp only [EN, Nat.reduceEqDiff, reduceIte, qv_move, decide_true, Bool.not_true, Bool.not_false, decide_false, eq_self, if_true, if_false, Bool.or_true, Bool.and_true, Bool.or_false, Bool.and_self, Bool.false_or, hB1.cell, hB6.cell, hB9.cell]; rfl) ?_
    refine LD.cq rfl rfl (gd_at (t := 64) rfl (by simp only [EN, Nat.reduceEqDiff, reduceIte, decide_true, Bool.not_true, Bool.not_false, decide_false, eq_self, if_true, if_false, Bool.or_true, Bool.and_true, Bool.or_false, Bool.and_self, Bool.false_or, hB1.cell, hB6.cell, hB9.cell] <;> rfl)) (fun hg6_16 => by simp only [EN, Nat.reduceEqDiff, reduceIte, qv_move, decide_true, Bool.not_true, Bool.not_false, decide_false, eq_self, if_true, if_false, Bool.or_true, Bool.and_true, Bool.or_false, Bool.and_self, Bool.false_or, hB1.cell, hB6.cell, hB9.cell, hg6_16, GR]; rfl) ?_
    refine LD.cck rfl rfl (gd_at (t := 64) rfl (by simp only [EN, Nat.reduceEqDiff, reduceIte, decide_true, Bool.not_true, Bool.not_false, decide_false, eq_self, if_true, if_false, Bool.or_true, Bool.and_true, Bool.or_false, Bool.and_self, Bool.false_or, hB1.cell, hB6.cell, hB9.cell] <;> rfl)) Try.call24 (fun hg6_17 => by intro hD hr; have hx : Ext _ _ := hr; have hl := hl.ext hx; have hm := hm.ext hx; have hfl := hfl.ext hx; have hB1 := hB1.ext hx; have hT := hT.ext hx; have hs1 := hs1.ext hx; have hs2 := hs2.ext hx; have hB6 := hB6.ext hx; have hT' := hT'.ext hx; have hs3 := hs3.ext hx; have hs4 := hs4.ext hx; have hB9 := hB9.ext hx; simp only [EN, Nat.reduceEqDiff, reduceIte, AR, decide_true, Bool.not_true, Bool.not_false, decide_false, eq_self, if_true, if_false, Bool.or_true, Bool.and_true, Bool.or_false, Bool.and_self, Bool.false_or, hB1.cell, hB6.cell, hB9.cell, hg6_17, GR]; exact (n_eqT p).grow) ?_
    refine LD.qq rfl rfl (by simp only [EN, Nat.reduceEqDiff, reduceIte, qv_pick, pk_and, pk_or, GR, decide_true, Bool.not_true, Bool.not_false, decide_false, eq_self, if_true, if_false, Bool.or_true, Bool.and_true, Bool.or_false, Bool.and_self, Bool.false_or, hB1.cell, hB6.cell, hB9.cell]; rfl) ?_
    refine LD.qq rfl rfl (by simp only [EN, Nat.reduceEqDiff, reduceIte, qv_move, decide_true, Bool.not_true, Bool.not_false, decide_false, eq_self, if_true, if_false, Bool.or_true, Bool.and_true, Bool.or_false, Bool.and_self, Bool.false_or, hB1.cell, hB6.cell, hB9.cell]; rfl) ?_
    refine LD.cq rfl rfl (gd_at (t := 68) rfl (by simp only [EN, Nat.reduceEqDiff, reduceIte, decide_true, Bool.not_true, Bool.not_false, decide_false, eq_self, if_true, if_false, Bool.or_true, Bool.and_true, Bool.or_false, Bool.and_self, Bool.false_or, hB1.cell, hB6.cell, hB9.cell] <;> rfl)) (fun hg6_20 => by simp only [EN, Nat.reduceEqDiff, reduceIte, qv_move, decide_true, Bool.not_true, Bool.not_false, decide_false, eq_self, if_true, if_false, Bool.or_true, Bool.and_true, Bool.or_false, Bool.and_self, Bool.false_or, hB1.cell, hB6.cell, hB9.cell, hg6_20, GR]; rfl) ?_
    refine LD.cq rfl rfl (gd_at (t := 68) rfl (by simp only [EN, Nat.reduceEqDiff, reduceIte, decide_true, Bool.not_true, Bool.not_false, decide_false, eq_self, if_true, if_false, Bool.or_true, Bool.and_true, Bool.or_false, Bool.and_self, Bool.false_or, hB1.cell, hB6.cell, hB9.cell] <;> rfl)) (fun hg6_21 => by simp only [EN, Nat.reduceEqDiff, reduceIte, qv_move, decide_true, Bool.not_true, Bool.not_false, decide_false, eq_self, if_true, if_false, Bool.or_true, Bool.and_true, Bool.or_false, Bool.and_self, Bool.false_or, hB1.cell, hB6.cell, hB9.cell, hg6_21, GR]; rfl) ?_
    refine LD.cck rfl rfl (gd_at (t := 68) rfl (by simp only [EN, Nat.reduceEqDiff, reduceIte, decide_true, Bool.not_true, Bool.not_false, decide_false, eq_self, if_true, if_false, Bool.or_true, Bool.and_true, Bool.or_false, Bool.and_self, Bool.false_or, hB1.cell, hB6.cell, hB9.cell] <;> rfl)) Try.call24 (fun hg6_22 => by intro hD hr; have hx : Ext _ _ := hr; have hl := hl.ext hx; have hm := hm.ext hx; have hfl := hfl.ext hx; have hB1 := hB1.ext hx; have hT := hT.ext hx; have hs1 := hs1.ext hx; have hs2 := hs2.ext hx; have hB6 := hB6.ext hx; have hT' := hT'.ext hx; have hs3 := hs3.ext hx; have hs4 := hs4.ext hx; have hB9 := hB9.ext hx; simp only [EN, Nat.reduceEqDiff, reduceIte, AR, decide_true, Bool.not_true, Bool.not_false, decide_false, eq_self, if_true, if_false, Bool.or_true, Bool.and_true, Bool.or_false, Bool.and_self, Bool.false_or, hB1.cell, hB6.cell, hB9.cell, hg6_22, GR]; exact (n_eqN p).grow) ?_
    refine LD.qq rfl rfl (by simp only [EN, Nat.reduceEqDiff, reduceIte, qv_pick, pk_and, pk_or, GR, decide_true, Bool.not_true, Bool.not_false, decide_false, eq_self, if_true, if_false, Bool.or_true, Bool.and_true, Bool.or_false, Bool.and_self, Bool.false_or, hB1.cell, hB6.cell, hB9.cell]; rfl) ?_
    refine LD.qq rfl rfl (by simp only [EN, Nat.reduceEqDiff, reduceIte, qv_move, decide_true, Bool.not_true, Bool.not_false, decide_false, eq_self, if_true, if_false, Bool.or_true, Bool.and_true, Bool.or_false, Bool.and_self, Bool.false_or, hB1.cell, hB6.cell, hB9.cell]; rfl) ?_
    refine LD.cq rfl rfl (gd_at (t := 73) rfl (by simp only [EN, Nat.reduceEqDiff, reduceIte, decide_true, Bool.not_true, Bool.not_false, decide_false, eq_self, if_true, if_false, Bool.or_true, Bool.and_true, Bool.or_false, Bool.and_self, Bool.false_or, hB1.cell, hB6.cell, hB9.cell] <;> rfl)) (fun hg6_25 => by simp only [EN, Nat.reduceEqDiff, reduceIte, qv_move, decide_true, Bool.not_true, Bool.not_false, decide_false, eq_self, if_true, if_false, Bool.or_true, Bool.and_true, Bool.or_false, Bool.and_self, Bool.false_or, hB1.cell, hB6.cell, hB9.cell, hg6_25, GR]; rfl) ?_
    refine LD.cck rfl rfl (gd_at (t := 73) rfl (by simp only [EN, Nat.reduceEqDiff, reduceIte, decide_true, Bool.not_true, Bool.not_false, decide_false, eq_self, if_true, if_false, Bool.or_true, Bool.and_true, Bool.or_false, Bool.and_self, Bool.false_or, hB1.cell, hB6.cell, hB9.cell] <;> rfl)) Try.call24 (fun hg6_26 => by intro hD hr; have hx : Ext _ _ := hr; have hl := hl.ext hx; have hm := hm.ext hx; have hfl := hfl.ext hx; have hB1 := hB1.ext hx; have hT := hT.ext hx; have hs1 := hs1.ext hx; have hs2 := hs2.ext hx; have hB6 := hB6.ext hx; have hT' := hT'.ext hx; have hs3 := hs3.ext hx; have hs4 := hs4.ext hx; have hB9 := hB9.ext hx; simp only [EN, Nat.reduceEqDiff, reduceIte, AR, decide_true, Bool.not_true, Bool.not_false, decide_false, eq_self, if_true, if_false, Bool.or_true, Bool.and_true, Bool.or_false, Bool.and_self, Bool.false_or, hB1.cell, hB6.cell, hB9.cell, hg6_26, GR]; exact (n_eqNN).grow) ?_
    refine LD.cq rfl rfl (gd_at (t := 73) rfl (by simp only [EN, Nat.reduceEqDiff, reduceIte, decide_true, Bool.not_true, Bool.not_false, decide_false, eq_self, if_true, if_false, Bool.or_true, Bool.and_true, Bool.or_false, Bool.and_self, Bool.false_or, hB1.cell, hB6.cell, hB9.cell] <;> rfl)) (fun hg6_27 => by simp only [EN, Nat.reduceEqDiff, reduceIte, qv_unOp, unv_not, decide_true, Bool.not_true, Bool.not_false, decide_false, eq_self, if_true, if_false, Bool.or_true, Bool.and_true, Bool.or_false, Bool.and_self, Bool.false_or, hB1.cell, hB6.cell, hB9.cell, hg6_27, GR]; rfl) ?_
    refine LD.qq rfl rfl (by simp only [EN, Nat.reduceEqDiff, reduceIte, qv_pick, pk_and, pk_or, GR, decide_true, Bool.not_true, Bool.not_false, decide_false, eq_self, if_true, if_false, Bool.or_true, Bool.and_true, Bool.or_false, Bool.and_self, Bool.false_or, hB1.cell, hB6.cell, hB9.cell]; rfl) ?_
    refine LD.nil ?_
    rintro h11 hx11 hF6
    replace hx11 : Ext _ _ := hx11
    replace hE := hE.trans hx11
    replace hEo6 := hEo6.trans hx11
    replace hEo9 := hEo9.trans hx11
    replace hl := hl.ext hx11
    replace hm := hm.ext hx11
    replace hfl := hfl.ext hx11
    replace hB1 := hB1.ext hx11
    replace hT := hT.ext hx11
    replace hs1 := hs1.ext hx11
    replace hs2 := hs2.ext hx11
    replace hB6 := hB6.ext hx11
    replace hT' := hT'.ext hx11
    replace hs3 := hs3.ext hx11
    replace hs4 := hs4.ext hx11
    replace hB9 := hB9.ext hx11
    refine WL.nil ?_
    refine th_norm ?_
    refine hx_cond (by simp only [EN, Nat.reduceEqDiff, reduceIte, decide_true, Bool.not_true, Bool.not_false, decide_false, eq_self, if_true, if_false, Bool.or_true, Bool.and_true, Bool.or_false, Bool.and_self, Bool.false_or, hB1.cell, hB6.cell, hB9.cell]; rfl) (fun hct77 => ?_) (fun hct77 => ?_)
    ·
      simp at hct77
    ·
      try simp only [BD] at hct77
      refine hx_skip ?_
      refine th_norm ?_
      refine hx_seq ?_
      refine hx_region ?_
      refine WL.qq (by simp only [EN, Nat.reduceEqDiff, reduceIte, qv_move, decide_true, Bool.not_true, Bool.not_false, decide_false, eq_self, if_true, if_false, Bool.or_true, Bool.and_true, Bool.or_false, Bool.and_self, Bool.false_or, hB1.cell, hB6.cell, hB9.cell]; rfl) ?_
      refine WL.qq (by simp only [EN, Nat.reduceEqDiff, reduceIte, qv_fieldAddr, fa45_1, Nat.zero_add, Nat.reduceAdd, decide_true, Bool.not_true, Bool.not_false, decide_false, eq_self, if_true, if_false, Bool.or_true, Bool.and_true, Bool.or_false, Bool.and_self, Bool.false_or, hB1.cell, hB6.cell, hB9.cell]; rfl) ?_
      refine WL.qq (by simp only [EN, Nat.reduceEqDiff, reduceIte, qv_load, ld9, readN, AR, Nat.zero_add, Nat.reduceAdd, decide_true, Bool.not_true, Bool.not_false, decide_false, eq_self, if_true, if_false, Bool.or_true, Bool.and_true, Bool.or_false, Bool.and_self, Bool.false_or, hB1.cell, hB6.cell, hB9.cell]; rfl) ?_
      refine WL.qq (by simp only [EN, Nat.reduceEqDiff, reduceIte, qv_fieldAddr, fa45_2, Nat.zero_add, Nat.reduceAdd, decide_true, Bool.not_true, Bool.not_false, decide_false, eq_self, if_true, if_false, Bool.or_true, Bool.and_true, Bool.or_false, Bool.and_self, Bool.false_or, hB1.cell, hB6.cell, hB9.cell]; rfl) ?_
      refine WL.qq (by simp only [EN, Nat.reduceEqDiff, reduceIte, qv_load, ld9, readN, AR, Nat.zero_add, Nat.reduceAdd, decide_true, Bool.not_true, Bool.not_false, decide_false, eq_self, if_true, if_false, Bool.or_true, Bool.and_true, Bool.or_false, Bool.and_self, Bool.false_or, hB1.cell, hB6.cell, hB9.cell]; rfl) ?_
      refine WL.cg Try.call30 (by simp only [EN, Nat.reduceEqDiff, reduceIte, AR, decide_true, Bool.not_true, Bool.not_false, decide_false, eq_self, if_true, if_false, Bool.or_true, Bool.and_true, Bool.or_false, Bool.and_self, Bool.false_or, hB1.cell, hB6.cell, hB9.cell]; exact n_broom _ _) ?_
      intro h12 hx12
      replace hE := hE.trans hx12
      replace hEo6 := hEo6.trans hx12
      replace hEo9 := hEo9.trans hx12
      replace hl := hl.ext hx12
      replace hm := hm.ext hx12
      replace hfl := hfl.ext hx12
      replace hB1 := hB1.ext hx12
      replace hT := hT.ext hx12
      replace hs1 := hs1.ext hx12
      replace hs2 := hs2.ext hx12
      replace hB6 := hB6.ext hx12
      replace hT' := hT'.ext hx12
      replace hs3 := hs3.ext hx12
      replace hs4 := hs4.ext hx12
      replace hB9 := hB9.ext hx12
      refine WL.qq (by simp only [EN, Nat.reduceEqDiff, reduceIte, qv_move, decide_true, Bool.not_true, Bool.not_false, decide_false, eq_self, if_true, if_false, Bool.or_true, Bool.and_true, Bool.or_false, Bool.and_self, Bool.false_or, hB1.cell, hB6.cell, hB9.cell]; rfl) ?_
      refine WL.qq (by simp only [EN, Nat.reduceEqDiff, reduceIte, qv_extract, AR, decide_true, Bool.not_true, Bool.not_false, decide_false, eq_self, if_true, if_false, Bool.or_true, Bool.and_true, Bool.or_false, Bool.and_self, Bool.false_or, hB1.cell, hB6.cell, hB9.cell]; rfl) ?_
      refine WL.qq (by simp only [EN, Nat.reduceEqDiff, reduceIte, qv_extract, AR, decide_true, Bool.not_true, Bool.not_false, decide_false, eq_self, if_true, if_false, Bool.or_true, Bool.and_true, Bool.or_false, Bool.and_self, Bool.false_or, hB1.cell, hB6.cell, hB9.cell]; rfl) ?_
      refine WL.qq (by simp only [EN, Nat.reduceEqDiff, reduceIte, qv_assign, decide_true, Bool.not_true, Bool.not_false, decide_false, eq_self, if_true, if_false, Bool.or_true, Bool.and_true, Bool.or_false, Bool.and_self, Bool.false_or, hB1.cell, hB6.cell, hB9.cell]; rfl) ?_
      refine WL.qq (by simp only [EN, Nat.reduceEqDiff, reduceIte, qv_assign, decide_true, Bool.not_true, Bool.not_false, decide_false, eq_self, if_true, if_false, Bool.or_true, Bool.and_true, Bool.or_false, Bool.and_self, Bool.false_or, hB1.cell, hB6.cell, hB9.cell]; rfl) ?_
      refine WL.nil ?_
      refine th_norm ?_
      refine hx_seq ?_
      refine hx_region ?_
      refine WL.qq (by simp only [EN, Nat.reduceEqDiff, reduceIte, qv_move, decide_true, Bool.not_true, Bool.not_false, decide_false, eq_self, if_true, if_false, Bool.or_true, Bool.and_true, Bool.or_false, Bool.and_self, Bool.false_or, hB1.cell, hB6.cell, hB9.cell]; rfl) ?_
      refine WL.qq (by simp only [EN, Nat.reduceEqDiff, reduceIte, qv_fieldAddr, fa45_1, Nat.zero_add, Nat.reduceAdd, decide_true, Bool.not_true, Bool.not_false, decide_false, eq_self, if_true, if_false, Bool.or_true, Bool.and_true, Bool.or_false, Bool.and_self, Bool.false_or, hB1.cell, hB6.cell, hB9.cell]; rfl) ?_
      refine WL.qq (by simp only [EN, Nat.reduceEqDiff, reduceIte, qv_load, ld9, readN, AR, Nat.zero_add, Nat.reduceAdd, decide_true, Bool.not_true, Bool.not_false, decide_false, eq_self, if_true, if_false, Bool.or_true, Bool.and_true, Bool.or_false, Bool.and_self, Bool.false_or, hB1.cell, hB6.cell, hB9.cell]; rfl) ?_
      refine WL.cg Try.call29 (by simp only [EN, Nat.reduceEqDiff, reduceIte, AR, decide_true, Bool.not_true, Bool.not_false, decide_false, eq_self, if_true, if_false, Bool.or_true, Bool.and_true, Bool.or_false, Bool.and_self, Bool.false_or, hB1.cell, hB6.cell, hB9.cell]; exact n_mroom _) ?_
      intro h13 hx13
      replace hE := hE.trans hx13
      replace hEo6 := hEo6.trans hx13
      replace hEo9 := hEo9.trans hx13
      replace hl := hl.ext hx13
      replace hm := hm.ext hx13
      replace hfl := hfl.ext hx13
      replace hB1 := hB1.ext hx13
      replace hT := hT.ext hx13
      replace hs1 := hs1.ext hx13
      replace hs2 := hs2.ext hx13
      replace hB6 := hB6.ext hx13
      replace hT' := hT'.ext hx13
      replace hs3 := hs3.ext hx13
      replace hs4 := hs4.ext hx13
      replace hB9 := hB9.ext hx13
      refine WL.qq (by simp only [EN, Nat.reduceEqDiff, reduceIte, qv_move, decide_true, Bool.not_true, Bool.not_false, decide_false, eq_self, if_true, if_false, Bool.or_true, Bool.and_true, Bool.or_false, Bool.and_self, Bool.false_or, hB1.cell, hB6.cell, hB9.cell]; rfl) ?_
      refine WL.qq (by simp only [EN, Nat.reduceEqDiff, reduceIte, qv_extract, AR, decide_true, Bool.not_true, Bool.not_false, decide_false, eq_self, if_true, if_false, Bool.or_true, Bool.and_true, Bool.or_false, Bool.and_self, Bool.false_or, hB1.cell, hB6.cell, hB9.cell]; rfl) ?_
      refine WL.qq (by simp only [EN, Nat.reduceEqDiff, reduceIte, qv_extract, AR, decide_true, Bool.not_true, Bool.not_false, decide_false, eq_self, if_true, if_false, Bool.or_true, Bool.and_true, Bool.or_false, Bool.and_self, Bool.false_or, hB1.cell, hB6.cell, hB9.cell]; rfl) ?_
      refine WL.qq (by simp only [EN, Nat.reduceEqDiff, reduceIte, qv_assign, decide_true, Bool.not_true, Bool.not_false, decide_false, eq_self, if_true, if_false, Bool.or_true, Bool.and_true, Bool.or_false, Bool.and_self, Bool.false_or, hB1.cell, hB6.cell, hB9.cell]; rfl) ?_
      refine WL.qq (by simp only [EN, Nat.reduceEqDiff, reduceIte, qv_assign, decide_true, Bool.not_true, Bool.not_false, decide_false, eq_self, if_true, if_false, Bool.or_true, Bool.and_true, Bool.or_false, Bool.and_self, Bool.false_or, hB1.cell, hB6.cell, hB9.cell]; rfl) ?_
      refine WL.nil ?_
      refine th_norm ?_
      refine hx_seq ?_
      refine hx_seq ?_
      refine hx_region ?_
      refine WL.qq (by simp only [EN, Nat.reduceEqDiff, reduceIte, qv_move, decide_true, Bool.not_true, Bool.not_false, decide_false, eq_self, if_true, if_false, Bool.or_true, Bool.and_true, Bool.or_false, Bool.and_self, Bool.false_or, hB1.cell, hB6.cell, hB9.cell]; rfl) ?_
      refine WL.qq (by simp only [EN, Nat.reduceEqDiff, reduceIte, qv_fieldAddr, fa45_1, Nat.zero_add, Nat.reduceAdd, decide_true, Bool.not_true, Bool.not_false, decide_false, eq_self, if_true, if_false, Bool.or_true, Bool.and_true, Bool.or_false, Bool.and_self, Bool.false_or, hB1.cell, hB6.cell, hB9.cell]; rfl) ?_
      refine WL.qq (by simp only [EN, Nat.reduceEqDiff, reduceIte, qv_load, ld9, readN, AR, Nat.zero_add, Nat.reduceAdd, decide_true, Bool.not_true, Bool.not_false, decide_false, eq_self, if_true, if_false, Bool.or_true, Bool.and_true, Bool.or_false, Bool.and_self, Bool.false_or, hB1.cell, hB6.cell, hB9.cell]; rfl) ?_
      refine WL.qq (by simp only [EN, Nat.reduceEqDiff, reduceIte, qv_fieldAddr, fa45_2, Nat.zero_add, Nat.reduceAdd, decide_true, Bool.not_true, Bool.not_false, decide_false, eq_self, if_true, if_false, Bool.or_true, Bool.and_true, Bool.or_false, Bool.and_self, Bool.false_or, hB1.cell, hB6.cell, hB9.cell]; rfl) ?_
      refine WL.qq (by simp only [EN, Nat.reduceEqDiff, reduceIte, qv_load, ld9, readN, AR, Nat.zero_add, Nat.reduceAdd, decide_true, Bool.not_true, Bool.not_false, decide_false, eq_self, if_true, if_false, Bool.or_true, Bool.and_true, Bool.or_false, Bool.and_self, Bool.false_or, hB1.cell, hB6.cell, hB9.cell]; rfl) ?_
      refine WL.qq (by simp only [EN, Nat.reduceEqDiff, reduceIte, qv_fieldAddr, fa45_3, Nat.zero_add, Nat.reduceAdd, decide_true, Bool.not_true, Bool.not_false, decide_false, eq_self, if_true, if_false, Bool.or_true, Bool.and_true, Bool.or_false, Bool.and_self, Bool.false_or, hB1.cell, hB6.cell, hB9.cell]; rfl) ?_
      refine WL.qq (by simp only [EN, Nat.reduceEqDiff, reduceIte, qv_load, ld2, readN, AR, Nat.zero_add, Nat.reduceAdd, decide_true, Bool.not_true, Bool.not_false, decide_false, eq_self, if_true, if_false, Bool.or_true, Bool.and_true, Bool.or_false, Bool.and_self, Bool.false_or, hB1.cell, hB6.cell, hB9.cell]; rfl) ?_
      refine WL.ck Try.call27 (by simp only [EN, Nat.reduceEqDiff, reduceIte, AR, decide_true, Bool.not_true, Bool.not_false, decide_false, eq_self, if_true, if_false, Bool.or_true, Bool.and_true, Bool.or_false, Bool.and_self, Bool.false_or, hB1.cell, hB6.cell, hB9.cell]; exact n_setB _ _ _) ?_
      refine WL.qq (by simp only [EN, Nat.reduceEqDiff, reduceIte, qv_binOp, binv_neq, eq26, Option.map_some, decide_true, Bool.not_true, Bool.not_false, decide_false, eq_self, if_true, if_false, Bool.or_true, Bool.and_true, Bool.or_false, Bool.and_self, Bool.false_or, hB1.cell, hB6.cell, hB9.cell]; rfl) ?_
      refine WL.qq (by simp only [EN, Nat.reduceEqDiff, reduceIte, qv_move, decide_true, Bool.not_true, Bool.not_false, decide_false, eq_self, if_true, if_false, Bool.or_true, Bool.and_true, Bool.or_false, Bool.and_self, Bool.false_or, hB1.cell, hB6.cell, hB9.cell]; rfl) ?_
      refine WL.cq (gd_at (t := 103) rfl (by simp only [EN, Nat.reduceEqDiff, reduceIte, decide_true, Bool.not_true, Bool.not_false, decide_false, eq_self, if_true, if_false, Bool.or_true, Bool.and_true, Bool.or_false, Bool.and_self, Bool.false_or, hB1.cell, hB6.cell, hB9.cell] <;> rfl)) (fun hg10_10 => by simp only [EN, Nat.reduceEqDiff, reduceIte, qv_move, decide_true, Bool.not_true, Bool.not_false, decide_false, eq_self, if_true, if_false, Bool.or_true, Bool.and_true, Bool.or_false, Bool.and_self, Bool.false_or, hB1.cell, hB6.cell, hB9.cell, hg10_10, GR]; rfl) ?_
      refine WL.cq (gd_at (t := 103) rfl (by simp only [EN, Nat.reduceEqDiff, reduceIte, decide_true, Bool.not_true, Bool.not_false, decide_false, eq_self, if_true, if_false, Bool.or_true, Bool.and_true, Bool.or_false, Bool.and_self, Bool.false_or, hB1.cell, hB6.cell, hB9.cell] <;> rfl)) (fun hg10_11 => by simp only [EN, Nat.reduceEqDiff, reduceIte, qv_fieldAddr, fa45_1, Nat.zero_add, Nat.reduceAdd, decide_true, Bool.not_true, Bool.not_false, decide_false, eq_self, if_true, if_false, Bool.or_true, Bool.and_true, Bool.or_false, Bool.and_self, Bool.false_or, hB1.cell, hB6.cell, hB9.cell, hg10_11, GR]; rfl) ?_
      refine WL.cq (gd_at (t := 103) rfl (by simp only [EN, Nat.reduceEqDiff, reduceIte, decide_true, Bool.not_true, Bool.not_false, decide_false, eq_self, if_true, if_false, Bool.or_true, Bool.and_true, Bool.or_false, Bool.and_self, Bool.false_or, hB1.cell, hB6.cell, hB9.cell] <;> rfl)) (fun hg10_12 => by simp only [EN, Nat.reduceEqDiff, reduceIte, qv_load, ld9, readN, AR, Nat.zero_add, Nat.reduceAdd, decide_true, Bool.not_true, Bool.not_false, decide_false, eq_self, if_true, if_false, Bool.or_true, Bool.and_true, Bool.or_false, Bool.and_self, Bool.false_or, hB1.cell, hB6.cell, hB9.cell, hg10_12, GR]; rfl) ?_
      refine WL.cq (gd_at (t := 103) rfl (by simp only [EN, Nat.reduceEqDiff, reduceIte, decide_true, Bool.not_true, Bool.not_false, decide_false, eq_self, if_true, if_false, Bool.or_true, Bool.and_true, Bool.or_false, Bool.and_self, Bool.false_or, hB1.cell, hB6.cell, hB9.cell] <;> rfl)) (fun hg10_13 => by simp only [EN, Nat.reduceEqDiff, reduceIte, qv_fieldAddr, fa45_3, Nat.zero_add, Nat.reduceAdd, decide_true, Bool.not_true, Bool.not_false, decide_false, eq_self, if_true, if_false, Bool.or_true, Bool.and_true, Bool.or_false, Bool.and_self, Bool.false_or, hB1.cell, hB6.cell, hB9.cell, hg10_13, GR]; rfl) ?_
      refine WL.cq (gd_at (t := 103) rfl (by simp only [EN, Nat.reduceEqDiff, reduceIte, decide_true, Bool.not_true, Bool.not_false, decide_false, eq_self, if_true, if_false, Bool.or_true, Bool.and_true, Bool.or_false, Bool.and_self, Bool.false_or, hB1.cell, hB6.cell, hB9.cell] <;> rfl)) (fun hg10_14 => by simp only [EN, Nat.reduceEqDiff, reduceIte, qv_load, ld2, readN, AR, Nat.zero_add, Nat.reduceAdd, decide_true, Bool.not_true, Bool.not_false, decide_false, eq_self, if_true, if_false, Bool.or_true, Bool.and_true, Bool.or_false, Bool.and_self, Bool.false_or, hB1.cell, hB6.cell, hB9.cell, hg10_14, GR]; rfl) ?_
      refine WL.cck (gd_at (t := 103) rfl (by simp only [EN, Nat.reduceEqDiff, reduceIte, decide_true, Bool.not_true, Bool.not_false, decide_false, eq_self, if_true, if_false, Bool.or_true, Bool.and_true, Bool.or_false, Bool.and_self, Bool.false_or, hB1.cell, hB6.cell, hB9.cell] <;> rfl)) Try.call13 (fun hg10_15 => by simp only [EN, Nat.reduceEqDiff, reduceIte, AR, decide_true, Bool.not_true, Bool.not_false, decide_false, eq_self, if_true, if_false, Bool.or_true, Bool.and_true, Bool.or_false, Bool.and_self, Bool.false_or, hB1.cell, hB6.cell, hB9.cell, hg10_15, GR]; exact n_setM _ _) ?_
      refine WL.cq (gd_at (t := 103) rfl (by simp only [EN, Nat.reduceEqDiff, reduceIte, decide_true, Bool.not_true, Bool.not_false, decide_false, eq_self, if_true, if_false, Bool.or_true, Bool.and_true, Bool.or_false, Bool.and_self, Bool.false_or, hB1.cell, hB6.cell, hB9.cell] <;> rfl)) (fun hg10_16 => by simp only [EN, Nat.reduceEqDiff, reduceIte, qv_binOp, binv_neq, eq26, Option.map_some, decide_true, Bool.not_true, Bool.not_false, decide_false, eq_self, if_true, if_false, Bool.or_true, Bool.and_true, Bool.or_false, Bool.and_self, Bool.false_or, hB1.cell, hB6.cell, hB9.cell, hg10_16, GR]; rfl) ?_
      refine WL.qq (by simp only [EN, Nat.reduceEqDiff, reduceIte, qv_pick, pk_and, pk_or, GR, decide_true, Bool.not_true, Bool.not_false, decide_false, eq_self, if_true, if_false, Bool.or_true, Bool.and_true, Bool.or_false, Bool.and_self, Bool.false_or, hB1.cell, hB6.cell, hB9.cell]; rfl) ?_
      refine WL.qq (by simp only [EN, Nat.reduceEqDiff, reduceIte, qv_move, decide_true, Bool.not_true, Bool.not_false, decide_false, eq_self, if_true, if_false, Bool.or_true, Bool.and_true, Bool.or_false, Bool.and_self, Bool.false_or, hB1.cell, hB6.cell, hB9.cell]; rfl) ?_
      refine WL.cq (gd_at (t := 112) rfl (by simp only [EN, Nat.reduceEqDiff, reduceIte, decide_true, Bool.not_true, Bool.not_false, decide_false, eq_self, if_true, if_false, Bool.or_true, Bool.and_true, Bool.or_false, Bool.and_self, Bool.false_or, hB1.cell, hB6.cell, hB9.cell] <;> rfl)) (fun hg10_19 => by simp only [EN, Nat.reduceEqDiff, reduceIte, qv_move, decide_true, Bool.not_true, Bool.not_false, decide_false, eq_self, if_true, if_false, Bool.or_true, Bool.and_true, Bool.or_false, Bool.and_self, Bool.false_or, hB1.cell, hB6.cell, hB9.cell, hg10_19, GR]; rfl) ?_
      refine WL.cq (gd_at (t := 112) rfl (by simp only [EN, Nat.reduceEqDiff, reduceIte, decide_true, Bool.not_true, Bool.not_false, decide_false, eq_self, if_true, if_false, Bool.or_true, Bool.and_true, Bool.or_false, Bool.and_self, Bool.false_or, hB1.cell, hB6.cell, hB9.cell] <;> rfl)) (fun hg10_20 => by simp only [EN, Nat.reduceEqDiff, reduceIte, qv_fieldAddr, fa45_4, Nat.zero_add, Nat.reduceAdd, decide_true, Bool.not_true, Bool.not_false, decide_false, eq_self, if_true, if_false, Bool.or_true, Bool.and_true, Bool.or_false, Bool.and_self, Bool.false_or, hB1.cell, hB6.cell, hB9.cell, hg10_20, GR]; rfl) ?_
      refine WL.cq (gd_at (t := 112) rfl (by simp only [EN, Nat.reduceEqDiff, reduceIte, decide_true, Bool.not_true, Bool.not_false, decide_false, eq_self, if_true, if_false, Bool.or_true, Bool.and_true, Bool.or_false, Bool.and_self, Bool.false_or, hB1.cell, hB6.cell, hB9.cell] <;> rfl)) (fun hg10_21 => by simp only [EN, Nat.reduceEqDiff, reduceIte, qv_load, ld39, readN, AR, Nat.zero_add, Nat.reduceAdd, decide_true, Bool.not_true, Bool.not_false, decide_false, eq_self, if_true, if_false, Bool.or_true, Bool.and_true, Bool.or_false, Bool.and_self, Bool.false_or, hB1.cell, hB6.cell, hB9.cell, hg10_21, GR]; rfl) ?_
      refine WL.gy _ (gd_at (t := 112) rfl (by simp only [EN, Nat.reduceEqDiff, reduceIte, decide_true, Bool.not_true, Bool.not_false, decide_false, eq_self, if_true, if_false, Bool.or_true, Bool.and_true, Bool.or_false, Bool.and_self, Bool.false_or, hB1.cell, hB6.cell, hB9.cell] <;> rfl)) (e_call Try.call26 (by simp only [EN, Nat.reduceEqDiff, reduceIte, AR, decide_true, Bool.not_true, Bool.not_false, decide_false, eq_self, if_true, if_false, Bool.or_true, Bool.and_true, Bool.or_false, Bool.and_self, Bool.false_or, hB1.cell, hB6.cell, hB9.cell]; exact c_flows o.x.a o.x.L o.x.c (by omega) hfl)) ?_
      rintro _ h14 ⟨hx14, -⟩
      replace hE := hE.trans hx14
      replace hEo6 := hEo6.trans hx14
      replace hEo9 := hEo9.trans hx14
      replace hl := hl.ext hx14
      replace hm := hm.ext hx14
      replace hfl := hfl.ext hx14
      replace hB1 := hB1.ext hx14
      replace hT := hT.ext hx14
      replace hs1 := hs1.ext hx14
      replace hs2 := hs2.ext hx14
      replace hB6 := hB6.ext hx14
      replace hT' := hT'.ext hx14
      replace hs3 := hs3.ext hx14
      replace hs4 := hs4.ext hx14
      replace hB9 := hB9.ext hx14
      simp only [put_some]
      refine WL.cck (gd_at (t := 112) rfl (by simp only [EN, Nat.reduceEqDiff, reduceIte, decide_true, Bool.not_true, Bool.not_false, decide_false, eq_self, if_true, if_false, Bool.or_true, Bool.and_true, Bool.or_false, Bool.and_self, Bool.false_or, hB1.cell, hB6.cell, hB9.cell] <;> rfl)) Try.call15 (fun hg10_23 => by simp only [EN, Nat.reduceEqDiff, reduceIte, AR, decide_true, Bool.not_true, Bool.not_false, decide_false, eq_self, if_true, if_false, Bool.or_true, Bool.and_true, Bool.or_false, Bool.and_self, Bool.false_or, hB1.cell, hB6.cell, hB9.cell, hg10_23, GR]; exact n_record _) ?_
      refine WL.cq (gd_at (t := 112) rfl (by simp only [EN, Nat.reduceEqDiff, reduceIte, decide_true, Bool.not_true, Bool.not_false, decide_false, eq_self, if_true, if_false, Bool.or_true, Bool.and_true, Bool.or_false, Bool.and_self, Bool.false_or, hB1.cell, hB6.cell, hB9.cell] <;> rfl)) (fun hg10_24 => by simp only [EN, Nat.reduceEqDiff, reduceIte, qv_binOp, binv_neq, eq26, Option.map_some, decide_true, Bool.not_true, Bool.not_false, decide_false, eq_self, if_true, if_false, Bool.or_true, Bool.and_true, Bool.or_false, Bool.and_self, Bool.false_or, hB1.cell, hB6.cell, hB9.cell, hg10_24, GR]; rfl) ?_
      refine WL.qq (by simp only [EN, Nat.reduceEqDiff, reduceIte, qv_pick, pk_and, pk_or, GR, decide_true, Bool.not_true, Bool.not_false, decide_false, eq_self, if_true, if_false, Bool.or_true, Bool.and_true, Bool.or_false, Bool.and_self, Bool.false_or, hB1.cell, hB6.cell, hB9.cell]; rfl) ?_
      refine WL.qq (by simp only [EN, Nat.reduceEqDiff, reduceIte, qv_move, decide_true, Bool.not_true, Bool.not_false, decide_false, eq_self, if_true, if_false, Bool.or_true, Bool.and_true, Bool.or_false, Bool.and_self, Bool.false_or, hB1.cell, hB6.cell, hB9.cell]; rfl) ?_
      refine WL.cq (gd_at (t := 120) rfl (by simp only [EN, Nat.reduceEqDiff, reduceIte, decide_true, Bool.not_true, Bool.not_false, decide_false, eq_self, if_true, if_false, Bool.or_true, Bool.and_true, Bool.or_false, Bool.and_self, Bool.false_or, hB1.cell, hB6.cell, hB9.cell] <;> rfl)) (fun hg10_27 => by simp only [EN, Nat.reduceEqDiff, reduceIte, qv_move, decide_true, Bool.not_true, Bool.not_false, decide_false, eq_self, if_true, if_false, Bool.or_true, Bool.and_true, Bool.or_false, Bool.and_self, Bool.false_or, hB1.cell, hB6.cell, hB9.cell, hg10_27, GR]; rfl) ?_
      refine WL.cq (gd_at (t := 120) rfl (by simp only [EN, Nat.reduceEqDiff, reduceIte, decide_true, Bool.not_true, Bool.not_false, decide_false, eq_self, if_true, if_false, Bool.or_true, Bool.and_true, Bool.or_false, Bool.and_self, Bool.false_or, hB1.cell, hB6.cell, hB9.cell] <;> rfl)) (fun hg10_28 => by simp only [EN, Nat.reduceEqDiff, reduceIte, qv_fieldAddr, fa45_4, Nat.zero_add, Nat.reduceAdd, decide_true, Bool.not_true, Bool.not_false, decide_false, eq_self, if_true, if_false, Bool.or_true, Bool.and_true, Bool.or_false, Bool.and_self, Bool.false_or, hB1.cell, hB6.cell, hB9.cell, hg10_28, GR]; rfl) ?_
      refine WL.cq (gd_at (t := 120) rfl (by simp only [EN, Nat.reduceEqDiff, reduceIte, decide_true, Bool.not_true, Bool.not_false, decide_false, eq_self, if_true, if_false, Bool.or_true, Bool.and_true, Bool.or_false, Bool.and_self, Bool.false_or, hB1.cell, hB6.cell, hB9.cell] <;> rfl)) (fun hg10_29 => by simp only [EN, Nat.reduceEqDiff, reduceIte, qv_load, ld39, readN, AR, Nat.zero_add, Nat.reduceAdd, decide_true, Bool.not_true, Bool.not_false, decide_false, eq_self, if_true, if_false, Bool.or_true, Bool.and_true, Bool.or_false, Bool.and_self, Bool.false_or, hB1.cell, hB6.cell, hB9.cell, hg10_29, GR]; rfl) ?_
      refine WL.gy _ (gd_at (t := 120) rfl (by simp only [EN, Nat.reduceEqDiff, reduceIte, decide_true, Bool.not_true, Bool.not_false, decide_false, eq_self, if_true, if_false, Bool.or_true, Bool.and_true, Bool.or_false, Bool.and_self, Bool.false_or, hB1.cell, hB6.cell, hB9.cell] <;> rfl)) (e_call Try.call26 (by simp only [EN, Nat.reduceEqDiff, reduceIte, AR, decide_true, Bool.not_true, Bool.not_false, decide_false, eq_self, if_true, if_false, Bool.or_true, Bool.and_true, Bool.or_false, Bool.and_self, Bool.false_or, hB1.cell, hB6.cell, hB9.cell]; exact c_flows o.x.a o.x.L o.x.c (by omega) hfl)) ?_
      rintro _ h15 ⟨hx15, -⟩
      replace hE := hE.trans hx15
      replace hEo6 := hEo6.trans hx15
      replace hEo9 := hEo9.trans hx15
      replace hl := hl.ext hx15
      replace hm := hm.ext hx15
      replace hfl := hfl.ext hx15
      replace hB1 := hB1.ext hx15
      replace hT := hT.ext hx15
      replace hs1 := hs1.ext hx15
      replace hs2 := hs2.ext hx15
      replace hB6 := hB6.ext hx15
      replace hT' := hT'.ext hx15
      replace hs3 := hs3.ext hx15
      replace hs4 := hs4.ext hx15
      replace hB9 := hB9.ext hx15
      simp only [put_some]
      refine WL.cck (gd_at (t := 120) rfl (by simp only [EN, Nat.reduceEqDiff, reduceIte, decide_true, Bool.not_true, Bool.not_false, decide_false, eq_self, if_true, if_false, Bool.or_true, Bool.and_true, Bool.or_false, Bool.and_self, Bool.false_or, hB1.cell, hB6.cell, hB9.cell] <;> rfl)) Try.call25 (fun hg10_31 => by simp only [EN, Nat.reduceEqDiff, reduceIte, AR, decide_true, Bool.not_true, Bool.not_false, decide_false, eq_self, if_true, if_false, Bool.or_true, Bool.and_true, Bool.or_false, Bool.and_self, Bool.false_or, hB1.cell, hB6.cell, hB9.cell, hg10_31, GR]; exact n_check _) ?_
      refine WL.cq (gd_at (t := 120) rfl (by simp only [EN, Nat.reduceEqDiff, reduceIte, decide_true, Bool.not_true, Bool.not_false, decide_false, eq_self, if_true, if_false, Bool.or_true, Bool.and_true, Bool.or_false, Bool.and_self, Bool.false_or, hB1.cell, hB6.cell, hB9.cell] <;> rfl)) (fun hg10_32 => by simp only [EN, Nat.reduceEqDiff, reduceIte, qv_binOp, binv_neq, eq26, Option.map_some, decide_true, Bool.not_true, Bool.not_false, decide_false, eq_self, if_true, if_false, Bool.or_true, Bool.and_true, Bool.or_false, Bool.and_self, Bool.false_or, hB1.cell, hB6.cell, hB9.cell, hg10_32, GR]; rfl) ?_
      refine WL.qq (by simp only [EN, Nat.reduceEqDiff, reduceIte, qv_pick, pk_and, pk_or, GR, decide_true, Bool.not_true, Bool.not_false, decide_false, eq_self, if_true, if_false, Bool.or_true, Bool.and_true, Bool.or_false, Bool.and_self, Bool.false_or, hB1.cell, hB6.cell, hB9.cell]; rfl) ?_
      refine WL.qq (by simp only [EN, Nat.reduceEqDiff, reduceIte, qv_move, decide_true, Bool.not_true, Bool.not_false, decide_false, eq_self, if_true, if_false, Bool.or_true, Bool.and_true, Bool.or_false, Bool.and_self, Bool.false_or, hB1.cell, hB6.cell, hB9.cell]; rfl) ?_
      refine WL.cq (gd_at (t := 128) rfl (by simp only [EN, Nat.reduceEqDiff, reduceIte, decide_true, Bool.not_true, Bool.not_false, decide_false, eq_self, if_true, if_false, Bool.or_true, Bool.and_true, Bool.or_false, Bool.and_self, Bool.false_or, hB1.cell, hB6.cell, hB9.cell] <;> rfl)) (fun hg10_35 => by simp only [EN, Nat.reduceEqDiff, reduceIte, qv_move, decide_true, Bool.not_true, Bool.not_false, decide_false, eq_self, if_true, if_false, Bool.or_true, Bool.and_true, Bool.or_false, Bool.and_self, Bool.false_or, hB1.cell, hB6.cell, hB9.cell, hg10_35, GR]; rfl) ?_
      refine WL.cck (gd_at (t := 128) rfl (by simp only [EN, Nat.reduceEqDiff, reduceIte, decide_true, Bool.not_true, Bool.not_false, decide_false, eq_self, if_true, if_false, Bool.or_true, Bool.and_true, Bool.or_false, Bool.and_self, Bool.false_or, hB1.cell, hB6.cell, hB9.cell] <;> rfl)) Try.call32 (fun hg10_36 => by simp only [EN, Nat.reduceEqDiff, reduceIte, AR, decide_true, Bool.not_true, Bool.not_false, decide_false, eq_self, if_true, if_false, Bool.or_true, Bool.and_true, Bool.or_false, Bool.and_self, Bool.false_or, hB1.cell, hB6.cell, hB9.cell, hg10_36, GR]; exact n_reset) ?_
      refine WL.cq (gd_at (t := 128) rfl (by simp only [EN, Nat.reduceEqDiff, reduceIte, decide_true, Bool.not_true, Bool.not_false, decide_false, eq_self, if_true, if_false, Bool.or_true, Bool.and_true, Bool.or_false, Bool.and_self, Bool.false_or, hB1.cell, hB6.cell, hB9.cell] <;> rfl)) (fun hg10_37 => by simp only [EN, Nat.reduceEqDiff, reduceIte, qv_binOp, binv_neq, eq26, Option.map_some, decide_true, Bool.not_true, Bool.not_false, decide_false, eq_self, if_true, if_false, Bool.or_true, Bool.and_true, Bool.or_false, Bool.and_self, Bool.false_or, hB1.cell, hB6.cell, hB9.cell, hg10_37, GR]; rfl) ?_
      refine WL.qq (by simp only [EN, Nat.reduceEqDiff, reduceIte, qv_pick, pk_and, pk_or, GR, decide_true, Bool.not_true, Bool.not_false, decide_false, eq_self, if_true, if_false, Bool.or_true, Bool.and_true, Bool.or_false, Bool.and_self, Bool.false_or, hB1.cell, hB6.cell, hB9.cell]; rfl) ?_
      refine WL.nil ?_
      refine th_norm ?_
      refine hx_cond (by simp only [EN, Nat.reduceEqDiff, reduceIte, decide_true, Bool.not_true, Bool.not_false, decide_false, eq_self, if_true, if_false, Bool.or_true, Bool.and_true, Bool.or_false, Bool.and_self, Bool.false_or, hB1.cell, hB6.cell, hB9.cell]; rfl) (fun hct132 => ?_) (fun hct132 => ?_)
      ·
        simp at hct132
      ·
        try simp only [BD] at hct132
        refine hx_skip ?_
        refine th_norm ?_
        refine hx_seq ?_
        refine hx_region ?_
        refine WL.qq (by simp only [EN, Nat.reduceEqDiff, reduceIte, qv_move, decide_true, Bool.not_true, Bool.not_false, decide_false, eq_self, if_true, if_false, Bool.or_true, Bool.and_true, Bool.or_false, Bool.and_self, Bool.false_or, hB1.cell, hB6.cell, hB9.cell]; rfl) ?_
        refine WL.qq (by simp only [EN, Nat.reduceEqDiff, reduceIte, qv_binOp, binv_eql, eq2, Option.map_some, decide_true, Bool.not_true, Bool.not_false, decide_false, eq_self, if_true, if_false, Bool.or_true, Bool.and_true, Bool.or_false, Bool.and_self, Bool.false_or, hB1.cell, hB6.cell, hB9.cell]; rfl) ?_
        refine WL.qq (by simp only [EN, Nat.reduceEqDiff, reduceIte, qv_move, decide_true, Bool.not_true, Bool.not_false, decide_false, eq_self, if_true, if_false, Bool.or_true, Bool.and_true, Bool.or_false, Bool.and_self, Bool.false_or, hB1.cell, hB6.cell, hB9.cell]; rfl) ?_
        refine WL.cq (gd_at (t := 135) rfl (by simp only [EN, Nat.reduceEqDiff, reduceIte, decide_true, Bool.not_true, Bool.not_false, decide_false, eq_self, if_true, if_false, Bool.or_true, Bool.and_true, Bool.or_false, Bool.and_self, Bool.false_or, hB1.cell, hB6.cell, hB9.cell] <;> rfl)) (fun hg12_3 => by simp only [EN, Nat.reduceEqDiff, reduceIte, qv_move, decide_true, Bool.not_true, Bool.not_false, decide_false, eq_self, if_true, if_false, Bool.or_true, Bool.and_true, Bool.or_false, Bool.and_self, Bool.false_or, hB1.cell, hB6.cell, hB9.cell, hg12_3, GR]; rfl) ?_
        refine WL.cq (gd_at (t := 135) rfl (by simp only [EN, Nat.reduceEqDiff, reduceIte, decide_true, Bool.not_true, Bool.not_false, decide_false, eq_self, if_true, if_false, Bool.or_true, Bool.and_true, Bool.or_false, Bool.and_self, Bool.false_or, hB1.cell, hB6.cell, hB9.cell] <;> rfl)) (fun hg12_4 => by simp only [EN, Nat.reduceEqDiff, reduceIte, qv_unOp, unv_not, decide_true, Bool.not_true, Bool.not_false, decide_false, eq_self, if_true, if_false, Bool.or_true, Bool.and_true, Bool.or_false, Bool.and_self, Bool.false_or, hB1.cell, hB6.cell, hB9.cell, hg12_4, GR]; rfl) ?_
        refine WL.qq (by simp only [EN, Nat.reduceEqDiff, reduceIte, qv_pick, pk_and, pk_or, GR, decide_true, Bool.not_true, Bool.not_false, decide_false, eq_self, if_true, if_false, Bool.or_true, Bool.and_true, Bool.or_false, Bool.and_self, Bool.false_or, hB1.cell, hB6.cell, hB9.cell]; rfl) ?_
        refine WL.qq (by simp only [EN, Nat.reduceEqDiff, reduceIte, qv_move, decide_true, Bool.not_true, Bool.not_false, decide_false, eq_self, if_true, if_false, Bool.or_true, Bool.and_true, Bool.or_false, Bool.and_self, Bool.false_or, hB1.cell, hB6.cell, hB9.cell]; rfl) ?_
        refine WL.cq (gd_at (t := 139) rfl (by simp only [EN, Nat.reduceEqDiff, reduceIte, decide_true, Bool.not_true, Bool.not_false, decide_false, eq_self, if_true, if_false, Bool.or_true, Bool.and_true, Bool.or_false, Bool.and_self, Bool.false_or, hB1.cell, hB6.cell, hB9.cell] <;> rfl)) (fun hg12_7 => by simp only [EN, Nat.reduceEqDiff, reduceIte, qv_move, decide_true, Bool.not_true, Bool.not_false, decide_false, eq_self, if_true, if_false, Bool.or_true, Bool.and_true, Bool.or_false, Bool.and_self, Bool.false_or, hB1.cell, hB6.cell, hB9.cell, hg12_7, GR]; rfl) ?_
        refine WL.cq (gd_at (t := 139) rfl (by simp only [EN, Nat.reduceEqDiff, reduceIte, decide_true, Bool.not_true, Bool.not_false, decide_false, eq_self, if_true, if_false, Bool.or_true, Bool.and_true, Bool.or_false, Bool.and_self, Bool.false_or, hB1.cell, hB6.cell, hB9.cell] <;> rfl)) (fun hg12_8 => by simp only [EN, Nat.reduceEqDiff, reduceIte, qv_binOp, binv_eql, eq2, Option.map_some, decide_true, Bool.not_true, Bool.not_false, decide_false, eq_self, if_true, if_false, Bool.or_true, Bool.and_true, Bool.or_false, Bool.and_self, Bool.false_or, hB1.cell, hB6.cell, hB9.cell, hg12_8, GR]; rfl) ?_
        refine WL.qq (by simp only [EN, Nat.reduceEqDiff, reduceIte, qv_pick, pk_and, pk_or, GR, decide_true, Bool.not_true, Bool.not_false, decide_false, eq_self, if_true, if_false, Bool.or_true, Bool.and_true, Bool.or_false, Bool.and_self, Bool.false_or, hB1.cell, hB6.cell, hB9.cell]; rfl) ?_
        refine WL.qq (by simp only [EN, Nat.reduceEqDiff, reduceIte, qv_move, decide_true, Bool.not_true, Bool.not_false, decide_false, eq_self, if_true, if_false, Bool.or_true, Bool.and_true, Bool.or_false, Bool.and_self, Bool.false_or, hB1.cell, hB6.cell, hB9.cell]; rfl) ?_
        refine WL.cq (gd_at (t := 143) rfl (by simp only [EN, Nat.reduceEqDiff, reduceIte, decide_true, Bool.not_true, Bool.not_false, decide_false, eq_self, if_true, if_false, Bool.or_true, Bool.and_true, Bool.or_false, Bool.and_self, Bool.false_or, hB1.cell, hB6.cell, hB9.cell] <;> rfl)) (fun hg12_11 => by simp only [EN, Nat.reduceEqDiff, reduceIte, qv_move, decide_true, Bool.not_true, Bool.not_false, decide_false, eq_self, if_true, if_false, Bool.or_true, Bool.and_true, Bool.or_false, Bool.and_self, Bool.false_or, hB1.cell, hB6.cell, hB9.cell, hg12_11, GR]; rfl) ?_
        refine WL.cq (gd_at (t := 143) rfl (by simp only [EN, Nat.reduceEqDiff, reduceIte, decide_true, Bool.not_true, Bool.not_false, decide_false, eq_self, if_true, if_false, Bool.or_true, Bool.and_true, Bool.or_false, Bool.and_self, Bool.false_or, hB1.cell, hB6.cell, hB9.cell] <;> rfl)) (fun hg12_12 => by simp only [EN, Nat.reduceEqDiff, reduceIte, qv_unOp, unv_not, decide_true, Bool.not_true, Bool.not_false, decide_false, eq_self, if_true, if_false, Bool.or_true, Bool.and_true, Bool.or_false, Bool.and_self, Bool.false_or, hB1.cell, hB6.cell, hB9.cell, hg12_12, GR]; rfl) ?_
        refine WL.qq (by simp only [EN, Nat.reduceEqDiff, reduceIte, qv_pick, pk_and, pk_or, GR, decide_true, Bool.not_true, Bool.not_false, decide_false, eq_self, if_true, if_false, Bool.or_true, Bool.and_true, Bool.or_false, Bool.and_self, Bool.false_or, hB1.cell, hB6.cell, hB9.cell]; rfl) ?_
        refine WL.qq (by simp only [EN, Nat.reduceEqDiff, reduceIte, qv_move, decide_true, Bool.not_true, Bool.not_false, decide_false, eq_self, if_true, if_false, Bool.or_true, Bool.and_true, Bool.or_false, Bool.and_self, Bool.false_or, hB1.cell, hB6.cell, hB9.cell]; rfl) ?_
        refine WL.cq (gd_at (t := 147) rfl (by simp only [EN, Nat.reduceEqDiff, reduceIte, decide_true, Bool.not_true, Bool.not_false, decide_false, eq_self, if_true, if_false, Bool.or_true, Bool.and_true, Bool.or_false, Bool.and_self, Bool.false_or, hB1.cell, hB6.cell, hB9.cell] <;> rfl)) (fun hg12_15 => by simp only [EN, Nat.reduceEqDiff, reduceIte, qv_move, decide_true, Bool.not_true, Bool.not_false, decide_false, eq_self, if_true, if_false, Bool.or_true, Bool.and_true, Bool.or_false, Bool.and_self, Bool.false_or, hB1.cell, hB6.cell, hB9.cell, hg12_15, GR]; rfl) ?_
        refine WL.cck (gd_at (t := 147) rfl (by simp only [EN, Nat.reduceEqDiff, reduceIte, decide_true, Bool.not_true, Bool.not_false, decide_false, eq_self, if_true, if_false, Bool.or_true, Bool.and_true, Bool.or_false, Bool.and_self, Bool.false_or, hB1.cell, hB6.cell, hB9.cell] <;> rfl)) Try.call28 (fun hg12_16 => by simp only [EN, Nat.reduceEqDiff, reduceIte, AR, decide_true, Bool.not_true, Bool.not_false, decide_false, eq_self, if_true, if_false, Bool.or_true, Bool.and_true, Bool.or_false, Bool.and_self, Bool.false_or, hB1.cell, hB6.cell, hB9.cell, hg12_16, GR]; exact n_limits) ?_
        refine WL.cq (gd_at (t := 147) rfl (by simp only [EN, Nat.reduceEqDiff, reduceIte, decide_true, Bool.not_true, Bool.not_false, decide_false, eq_self, if_true, if_false, Bool.or_true, Bool.and_true, Bool.or_false, Bool.and_self, Bool.false_or, hB1.cell, hB6.cell, hB9.cell] <;> rfl)) (fun hg12_17 => by simp only [EN, Nat.reduceEqDiff, reduceIte, qv_len, ln59, AR, decide_true, Bool.not_true, Bool.not_false, decide_false, eq_self, if_true, if_false, Bool.or_true, Bool.and_true, Bool.or_false, Bool.and_self, Bool.false_or, hB1.cell, hB6.cell, hB9.cell, hg12_17, GR]; rfl) ?_
        refine WL.cq (gd_at (t := 147) rfl (by simp only [EN, Nat.reduceEqDiff, reduceIte, decide_true, Bool.not_true, Bool.not_false, decide_false, eq_self, if_true, if_false, Bool.or_true, Bool.and_true, Bool.or_false, Bool.and_self, Bool.false_or, hB1.cell, hB6.cell, hB9.cell] <;> rfl)) (fun hg12_18 => by simp only [EN, Nat.reduceEqDiff, reduceIte, qv_binOp, binv_eql, eq3, Option.map_some, decide_true, Bool.not_true, Bool.not_false, decide_false, eq_self, if_true, if_false, Bool.or_true, Bool.and_true, Bool.or_false, Bool.and_self, Bool.false_or, hB1.cell, hB6.cell, hB9.cell, hg12_18, GR]; rfl) ?_
        refine WL.qq (by simp only [EN, Nat.reduceEqDiff, reduceIte, qv_pick, pk_and, pk_or, GR, decide_true, Bool.not_true, Bool.not_false, decide_false, eq_self, if_true, if_false, Bool.or_true, Bool.and_true, Bool.or_false, Bool.and_self, Bool.false_or, hB1.cell, hB6.cell, hB9.cell]; rfl) ?_
        refine WL.qq (by simp only [EN, Nat.reduceEqDiff, reduceIte, qv_move, decide_true, Bool.not_true, Bool.not_false, decide_false, eq_self, if_true, if_false, Bool.or_true, Bool.and_true, Bool.or_false, Bool.and_self, Bool.false_or, hB1.cell, hB6.cell, hB9.cell]; rfl) ?_
        refine WL.cq (gd_at (t := 153) rfl (by simp only [EN, Nat.reduceEqDiff, reduceIte, decide_true, Bool.not_true, Bool.not_false, decide_false, eq_self, if_true, if_false, Bool.or_true, Bool.and_true, Bool.or_false, Bool.and_self, Bool.false_or, hB1.cell, hB6.cell, hB9.cell] <;> rfl)) (fun hg12_21 => by simp only [EN, Nat.reduceEqDiff, reduceIte, qv_move, decide_true, Bool.not_true, Bool.not_false, decide_false, eq_self, if_true, if_false, Bool.or_true, Bool.and_true, Bool.or_false, Bool.and_self, Bool.false_or, hB1.cell, hB6.cell, hB9.cell, hg12_21, GR]; rfl) ?_
        refine WL.cq (gd_at (t := 153) rfl (by simp only [EN, Nat.reduceEqDiff, reduceIte, decide_true, Bool.not_true, Bool.not_false, decide_false, eq_self, if_true, if_false, Bool.or_true, Bool.and_true, Bool.or_false, Bool.and_self, Bool.false_or, hB1.cell, hB6.cell, hB9.cell] <;> rfl)) (fun hg12_22 => by simp only [EN, Nat.reduceEqDiff, reduceIte, qv_fieldAddr, fa45_1, Nat.zero_add, Nat.reduceAdd, decide_true, Bool.not_true, Bool.not_false, decide_false, eq_self, if_true, if_false, Bool.or_true, Bool.and_true, Bool.or_false, Bool.and_self, Bool.false_or, hB1.cell, hB6.cell, hB9.cell, hg12_22, GR]; rfl) ?_
        refine WL.cq (gd_at (t := 153) rfl (by simp only [EN, Nat.reduceEqDiff, reduceIte, decide_true, Bool.not_true, Bool.not_false, decide_false, eq_self, if_true, if_false, Bool.or_true, Bool.and_true, Bool.or_false, Bool.and_self, Bool.false_or, hB1.cell, hB6.cell, hB9.cell] <;> rfl)) (fun hg12_23 => by simp only [EN, Nat.reduceEqDiff, reduceIte, qv_load, ld9, readN, AR, Nat.zero_add, Nat.reduceAdd, decide_true, Bool.not_true, Bool.not_false, decide_false, eq_self, if_true, if_false, Bool.or_true, Bool.and_true, Bool.or_false, Bool.and_self, Bool.false_or, hB1.cell, hB6.cell, hB9.cell, hg12_23, GR]; rfl) ?_
        refine WL.cq (gd_at (t := 153) rfl (by simp only [EN, Nat.reduceEqDiff, reduceIte, decide_true, Bool.not_true, Bool.not_false, decide_false, eq_self, if_true, if_false, Bool.or_true, Bool.and_true, Bool.or_false, Bool.and_self, Bool.false_or, hB1.cell, hB6.cell, hB9.cell] <;> rfl)) (fun hg12_24 => by simp only [EN, Nat.reduceEqDiff, reduceIte, qv_fieldAddr, fa45_2, Nat.zero_add, Nat.reduceAdd, decide_true, Bool.not_true, Bool.not_false, decide_false, eq_self, if_true, if_false, Bool.or_true, Bool.and_true, Bool.or_false, Bool.and_self, Bool.false_or, hB1.cell, hB6.cell, hB9.cell, hg12_24, GR]; rfl) ?_
        refine WL.cq (gd_at (t := 153) rfl (by simp only [EN, Nat.reduceEqDiff, reduceIte, decide_true, Bool.not_true, Bool.not_false, decide_false, eq_self, if_true, if_false, Bool.or_true, Bool.and_true, Bool.or_false, Bool.and_self, Bool.false_or, hB1.cell, hB6.cell, hB9.cell] <;> rfl)) (fun hg12_25 => by simp only [EN, Nat.reduceEqDiff, reduceIte, qv_load, ld9, readN, AR, Nat.zero_add, Nat.reduceAdd, decide_true, Bool.not_true, Bool.not_false, decide_false, eq_self, if_true, if_false, Bool.or_true, Bool.and_true, Bool.or_false, Bool.and_self, Bool.false_or, hB1.cell, hB6.cell, hB9.cell, hg12_25, GR]; rfl) ?_
        refine WL.cck (gd_at (t := 153) rfl (by simp only [EN, Nat.reduceEqDiff, reduceIte, decide_true, Bool.not_true, Bool.not_false, decide_false, eq_self, if_true, if_false, Bool.or_true, Bool.and_true, Bool.or_false, Bool.and_self, Bool.false_or, hB1.cell, hB6.cell, hB9.cell] <;> rfl)) Try.call20 (fun hg12_26 => by simp only [EN, Nat.reduceEqDiff, reduceIte, AR, decide_true, Bool.not_true, Bool.not_false, decide_false, eq_self, if_true, if_false, Bool.or_true, Bool.and_true, Bool.or_false, Bool.and_self, Bool.false_or, hB1.cell, hB6.cell, hB9.cell, hg12_26, GR]; exact n_net _ _) ?_
        refine WL.cq (gd_at (t := 153) rfl (by simp only [EN, Nat.reduceEqDiff, reduceIte, decide_true, Bool.not_true, Bool.not_false, decide_false, eq_self, if_true, if_false, Bool.or_true, Bool.and_true, Bool.or_false, Bool.and_self, Bool.false_or, hB1.cell, hB6.cell, hB9.cell] <;> rfl)) (fun hg12_27 => by simp only [EN, Nat.reduceEqDiff, reduceIte, qv_binOp, binv_eql, eq2, Option.map_some, decide_true, Bool.not_true, Bool.not_false, decide_false, eq_self, if_true, if_false, Bool.or_true, Bool.and_true, Bool.or_false, Bool.and_self, Bool.false_or, hB1.cell, hB6.cell, hB9.cell, hg12_27, GR]; rfl) ?_
        refine WL.qq (by simp only [EN, Nat.reduceEqDiff, reduceIte, qv_pick, pk_and, pk_or, GR, decide_true, Bool.not_true, Bool.not_false, decide_false, eq_self, if_true, if_false, Bool.or_true, Bool.and_true, Bool.or_false, Bool.and_self, Bool.false_or, hB1.cell, hB6.cell, hB9.cell]; rfl) ?_
        refine WL.qq (by simp only [EN, Nat.reduceEqDiff, reduceIte, qv_move, decide_true, Bool.not_true, Bool.not_false, decide_false, eq_self, if_true, if_false, Bool.or_true, Bool.and_true, Bool.or_false, Bool.and_self, Bool.false_or, hB1.cell, hB6.cell, hB9.cell]; rfl) ?_
        refine WL.cq (gd_at (t := 162) rfl (by simp only [EN, Nat.reduceEqDiff, reduceIte, decide_true, Bool.not_true, Bool.not_false, decide_false, eq_self, if_true, if_false, Bool.or_true, Bool.and_true, Bool.or_false, Bool.and_self, Bool.false_or, hB1.cell, hB6.cell, hB9.cell] <;> rfl)) (fun hg12_30 => by simp only [EN, Nat.reduceEqDiff, reduceIte, qv_move, decide_true, Bool.not_true, Bool.not_false, decide_false, eq_self, if_true, if_false, Bool.or_true, Bool.and_true, Bool.or_false, Bool.and_self, Bool.false_or, hB1.cell, hB6.cell, hB9.cell, hg12_30, GR]; rfl) ?_
        refine WL.cq (gd_at (t := 162) rfl (by simp only [EN, Nat.reduceEqDiff, reduceIte, decide_true, Bool.not_true, Bool.not_false, decide_false, eq_self, if_true, if_false, Bool.or_true, Bool.and_true, Bool.or_false, Bool.and_self, Bool.false_or, hB1.cell, hB6.cell, hB9.cell] <;> rfl)) (fun hg12_31 => by simp only [EN, Nat.reduceEqDiff, reduceIte, qv_fieldAddr, fa45_1, Nat.zero_add, Nat.reduceAdd, decide_true, Bool.not_true, Bool.not_false, decide_false, eq_self, if_true, if_false, Bool.or_true, Bool.and_true, Bool.or_false, Bool.and_self, Bool.false_or, hB1.cell, hB6.cell, hB9.cell, hg12_31, GR]; rfl) ?_
        refine WL.cq (gd_at (t := 162) rfl (by simp only [EN, Nat.reduceEqDiff, reduceIte, decide_true, Bool.not_true, Bool.not_false, decide_false, eq_self, if_true, if_false, Bool.or_true, Bool.and_true, Bool.or_false, Bool.and_self, Bool.false_or, hB1.cell, hB6.cell, hB9.cell] <;> rfl)) (fun hg12_32 => by simp only [EN, Nat.reduceEqDiff, reduceIte, qv_load, ld9, readN, AR, Nat.zero_add, Nat.reduceAdd, decide_true, Bool.not_true, Bool.not_false, decide_false, eq_self, if_true, if_false, Bool.or_true, Bool.and_true, Bool.or_false, Bool.and_self, Bool.false_or, hB1.cell, hB6.cell, hB9.cell, hg12_32, GR]; rfl) ?_
        refine WL.cck (gd_at (t := 162) rfl (by simp only [EN, Nat.reduceEqDiff, reduceIte, decide_true, Bool.not_true, Bool.not_false, decide_false, eq_self, if_true, if_false, Bool.or_true, Bool.and_true, Bool.or_false, Bool.and_self, Bool.false_or, hB1.cell, hB6.cell, hB9.cell] <;> rfl)) Try.call21 (fun hg12_33 => by simp only [EN, Nat.reduceEqDiff, reduceIte, AR, decide_true, Bool.not_true, Bool.not_false, decide_false, eq_self, if_true, if_false, Bool.or_true, Bool.and_true, Bool.or_false, Bool.and_self, Bool.false_or, hB1.cell, hB6.cell, hB9.cell, hg12_33, GR]; exact n_out _) ?_
        refine WL.cq (gd_at (t := 162) rfl (by simp only [EN, Nat.reduceEqDiff, reduceIte, decide_true, Bool.not_true, Bool.not_false, decide_false, eq_self, if_true, if_false, Bool.or_true, Bool.and_true, Bool.or_false, Bool.and_self, Bool.false_or, hB1.cell, hB6.cell, hB9.cell] <;> rfl)) (fun hg12_34 => by simp only [EN, Nat.reduceEqDiff, reduceIte, qv_binOp, binv_eql, eq2, Option.map_some, decide_true, Bool.not_true, Bool.not_false, decide_false, eq_self, if_true, if_false, Bool.or_true, Bool.and_true, Bool.or_false, Bool.and_self, Bool.false_or, hB1.cell, hB6.cell, hB9.cell, hg12_34, GR]; rfl) ?_
        refine WL.qq (by simp only [EN, Nat.reduceEqDiff, reduceIte, qv_pick, pk_and, pk_or, GR, decide_true, Bool.not_true, Bool.not_false, decide_false, eq_self, if_true, if_false, Bool.or_true, Bool.and_true, Bool.or_false, Bool.and_self, Bool.false_or, hB1.cell, hB6.cell, hB9.cell]; rfl) ?_
        refine WL.qq (by simp only [EN, Nat.reduceEqDiff, reduceIte, qv_move, decide_true, Bool.not_true, Bool.not_false, decide_false, eq_self, if_true, if_false, Bool.or_true, Bool.and_true, Bool.or_false, Bool.and_self, Bool.false_or, hB1.cell, hB6.cell, hB9.cell]; rfl) ?_
        refine WL.cq (gd_at (t := 169) rfl (by simp only [EN, Nat.reduceEqDiff, reduceIte, decide_true, Bool.not_true, Bool.not_false, decide_false, eq_self, if_true, if_false, Bool.or_true, Bool.and_true, Bool.or_false, Bool.and_self, Bool.false_or, hB1.cell, hB6.cell, hB9.cell] <;> rfl)) (fun hg12_37 => by simp only [EN, Nat.reduceEqDiff, reduceIte, qv_move, decide_true, Bool.not_true, Bool.not_false, decide_false, eq_self, if_true, if_false, Bool.or_true, Bool.and_true, Bool.or_false, Bool.and_self, Bool.false_or, hB1.cell, hB6.cell, hB9.cell, hg12_37, GR]; rfl) ?_
        refine WL.cck (gd_at (t := 169) rfl (by simp only [EN, Nat.reduceEqDiff, reduceIte, decide_true, Bool.not_true, Bool.not_false, decide_false, eq_self, if_true, if_false, Bool.or_true, Bool.and_true, Bool.or_false, Bool.and_self, Bool.false_or, hB1.cell, hB6.cell, hB9.cell] <;> rfl)) Try.call23 (fun hg12_38 => by simp only [EN, Nat.reduceEqDiff, reduceIte, AR, decide_true, Bool.not_true, Bool.not_false, decide_false, eq_self, if_true, if_false, Bool.or_true, Bool.and_true, Bool.or_false, Bool.and_self, Bool.false_or, hB1.cell, hB6.cell, hB9.cell, hg12_38, GR]; exact n_clone) ?_
        refine WL.cq (gd_at (t := 169) rfl (by simp only [EN, Nat.reduceEqDiff, reduceIte, decide_true, Bool.not_true, Bool.not_false, decide_false, eq_self, if_true, if_false, Bool.or_true, Bool.and_true, Bool.or_false, Bool.and_self, Bool.false_or, hB1.cell, hB6.cell, hB9.cell] <;> rfl)) (fun hg12_39 => by simp only [EN, Nat.reduceEqDiff, reduceIte, qv_binOp, binv_eql, eqz24, eqn24, eqm24, Option.map_some, decide_true, Bool.not_true, Bool.not_false, decide_false, eq_self, if_true, if_false, Bool.or_true, Bool.and_true, Bool.or_false, Bool.and_self, Bool.false_or, hB1.cell, hB6.cell, hB9.cell, hg12_39, GR]; rfl) ?_
        refine WL.qq (by simp only [EN, Nat.reduceEqDiff, reduceIte, qv_pick, pk_and, pk_or, GR, decide_true, Bool.not_true, Bool.not_false, decide_false, eq_self, if_true, if_false, Bool.or_true, Bool.and_true, Bool.or_false, Bool.and_self, Bool.false_or, hB1.cell, hB6.cell, hB9.cell]; rfl) ?_
        refine WL.qq (by simp only [EN, Nat.reduceEqDiff, reduceIte, qv_assign, decide_true, Bool.not_true, Bool.not_false, decide_false, eq_self, if_true, if_false, Bool.or_true, Bool.and_true, Bool.or_false, Bool.and_self, Bool.false_or, hB1.cell, hB6.cell, hB9.cell]; rfl) ?_
        refine WL.nil ?_
        refine th_norm ?_
        refine hx_ret ?_
        refine fin_ret [.tmp 6] rfl rfl (by simp only [EN, Nat.reduceEqDiff, reduceIte, resv, e0, e1, e2, decide_true, Bool.not_true, Bool.not_false, decide_false, eq_self, if_true, if_false, Bool.or_true, Bool.and_true, Bool.or_false, Bool.and_self, Bool.false_or, hB1.cell, hB6.cell, hB9.cell]; rfl) ?_  -- ret 1 r12
        exact ⟨by simp [retOf], hE⟩
end GL
namespace Go.Proofs.Ytenjmnpefmjdfaa.limitEqualNil
open Go.ChangeShapes Go.WideShapes Go.ChangeAt Go.RowKit
theorem own : ownKnob Try.prog.godebug = none := by kernel_rfl
theorem laid : laidOutB Try.prog = true := by kernel_rfl
set_option maxRecDepth 100000 in
theorem lifted (os : Os) (started : os.Started) (H : Type) (enc : TypeId × Value → H) :
    ReturnsInHanded {} Try.checked os 10 .any (Rows.limitEqualNilSpec.pre6 enc Try.prog Try.f10 Rows.limitEqualNilRow.domain false) (Rows.limitEqualNilSpec.post enc Try.prog Try.f10 false true false false) := by
  refine returnsInHanded_of_change (C := Try.checked) own started (by kernel_rfl) Try.func10
    (ChangeSpec.witness6 (enc := enc) (C := Try.checked) false ⟨#[], #[(.slice none 0 0), (.slice none 0 0), (.agg #[(.int .u8 0), (.string ⟨#[]⟩), (.string ⟨#[]⟩), (.int .i64 0), (.slice none 0 0)])], []⟩ 8 (by kernel_rfl) (by kernel_rfl) (by kernel_rfl) (by kernel_rfl)) ?_
  intro W base args ds gs before hval0 hW hcnd _
  have hval : ∀ (j : Nat) t v, Try.f10.params[j]? = some t → args[j]? = some v → Value.okWide Try.prog W .any base t v := hval0
  have hW' := hW
  obtain ⟨p, q, hA0, hV, rfl, hfz, hnd⟩ := hW
  have hA : DataW.TrodAll enc Try.prog W 0 (fun _ => true) true Try.f10.params.toList args.toList ds p := hA0
  rw [Try.params10] at hA hval
  obtain ⟨v0, vs0, d0, ds0, p0, q0, hargs, rfl, rfl, h0, r0⟩ := trodAll_cons hA
  obtain ⟨v1, vs1, d1, ds1, p1, q1, rfl, rfl, rfl, h1, r1⟩ := trodAll_cons r0
  obtain ⟨v2, vs2, d2, ds2, p2, q2, rfl, rfl, rfl, h2, r2⟩ := trodAll_cons r1
  obtain ⟨rfl, rfl, rfl⟩ := trodAll_nil r2
  obtain rfl : args = #[v0, v1, v2] := by cases args; simp_all
  obtain ⟨rfl, rfl⟩ := trodVars_none hV
  obtain ⟨al, l, cl, rfl, hl, hlc, hcl, _, hok⟩ := GL.view_ops (hval 0 35 v0 rfl rfl) h0
  obtain ⟨am, m, cm, rfl, hm, hmc, hcm, _, hom⟩ := GL.view_ops (hval 1 35 v1 rfl rfl) h1
  obtain ⟨o, rfl, ho⟩ := GL.view_op (hval 2 45 v2 rfl rfl) h2
  exact GL.law_done (tb := 4) laid (by kernel_rfl) rfl (by kernel_rfl) Try.underlying4 hW' rfl (GL.l_eqnil al l cl am m cm o hl (Nat.le_trans hlc hcl) hok hm (Nat.le_trans hmc hcm) hom ho)
theorem over : Rows.limitEqualNilRow.holds Try.pinned (OpenSpec.ofChange Rows.limitEqualNilSpec) :=
  OpenClaim.holds_of_wide 10 Try.f10 rfl rfl rfl rfl rfl rfl rfl ⟨rfl, rfl, rfl, rfl, rfl⟩ rfl rfl rfl rfl rfl (by kernel_rfl) Try.func10 (by kernel_rfl)
    (of_decide_eq_true (by kernel_rfl)) (by unfold Func.isWrapper; first | (rw [if_pos (by decide +kernel)]; kernel_rfl) | (rw [if_neg (by decide +kernel)]; exact ⟨rfl, rfl⟩))
    (fun os started H enc _ => lifted os started H enc)
theorem proved : Rows.LimitEqualNilSaid := over
end Go.Proofs.Ytenjmnpefmjdfaa.limitEqualNil


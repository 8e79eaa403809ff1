/- Calendar: calendars that are nil; equality. -/
import Derived.Test.YtafdegdodmelpaaCalBF
import Derived.Test.YtafdegdodmelpaaGlU
set_option linter.unusedSimpArgs false
set_option linter.unusedVariables false
set_option linter.unnecessarySimpa false
namespace GL
open Go Go.Proofs
set_option maxRecDepth 8000
theorem n_next (m : Int) (h : Heap) : HCalls Try.prog 17 #[.pointer none, .int .i64 m] h (Grow (.tuple #[.int .i64 0, .int .i64 1]) h) := by
  refine hcalls2 Try.func17 rfl (by decide +kernel) (by simp only [Try.ntmps17]; exact of_decide_eq_true rfl) ?_
  intro e hin
  have e0 := hin 0 _ rfl
  have e1 := hin 1 _ rfl
  refine hx_seq ?_
  refine hx_region ?_
  refine WL.qq (by simp only [ev_tmp, ev_const, ev_func, set_get, Nat.reduceEqDiff, reduceIte, qv_assign, e0, e1]; rfl) ?_
  refine WL.qq (by simp only [ev_tmp, ev_const, ev_func, set_get, Nat.reduceEqDiff, reduceIte, qv_assign, e0, e1]; rfl) ?_
  refine WL.nil ?_
  refine th_norm ?_
  refine hx_seq ?_
  refine hx_seq ?_
  refine hx_region ?_
  refine WL.qq (by simp only [ev_tmp, ev_const, ev_func, set_get, Nat.reduceEqDiff, reduceIte, qv_move, e0, e1]; rfl) ?_
  refine WL.qq (by simp only [ev_tmp, ev_const, ev_func, set_get, Nat.reduceEqDiff, reduceIte, qv_move, e0, e1]; rfl) ?_
  refine WL.lit2 #[(.int .i64 0)] Try.underlying22 sz3 zr3 (by decide) (by kernel_rfl) ⟨_, (by simp only [ev_tmp, ev_const, ev_func, set_get, Nat.reduceEqDiff, reduceIte, List.getElem?_toArray, List.getElem?_cons_zero, List.getElem?_cons_succ, List.map_toArray, List.map_cons, List.map_nil, Option.map_some, Option.bind_some, e0, e1]; simp [Instr.fill, Value.cells]; rfl), rfl⟩ ?_
  intro h1 B1 hx1 hlt1 hB1
  refine WL.ck Try.call39 (by simp only [ev_tmp, ev_const, ev_func, set_get, Nat.reduceEqDiff, reduceIte, List.getElem?_toArray, List.getElem?_cons_zero, List.getElem?_cons_succ, List.map_toArray, List.map_cons, List.map_nil, Option.map_some, Option.bind_some, e0, e1, hB1.cell]; exact c_usable_nil _ _) ?_
  refine WL.qq (by simp only [ev_tmp, ev_const, ev_func, set_get, Nat.reduceEqDiff, reduceIte, qv_assign, e0, e1, hB1.cell]; rfl) ?_
  refine WL.nil ?_
  refine th_norm ?_
  refine hx_seq ?_
  refine hx_region ?_
  refine WL.qq (by simp only [ev_tmp, ev_const, ev_func, set_get, Nat.reduceEqDiff, reduceIte, qv_move, e0, e1, hB1.cell]; rfl) ?_
  refine WL.qq (by simp only [ev_tmp, ev_const, ev_func, set_get, Nat.reduceEqDiff, reduceIte, qv_binOp, binv_neq, eq28, Option.map_some, e0, e1, hB1.cell]; rfl) ?_
  refine WL.nil ?_
  refine th_norm ?_
  refine hx_cond (by simp only [ev_tmp, ev_const, ev_func, set_get, Nat.reduceEqDiff, reduceIte, e0, e1, hB1.cell]; rfl) (fun hct12 => ?_) (fun hct12 => ?_)
  ·
    try simp only [decide_eq_true_eq, decide_eq_false_iff_not, Bool.and_eq_true, Bool.and_eq_false_iff, Bool.or_eq_true, Bool.or_eq_false_iff, Bool.not_eq_true', Bool.not_eq_false', Bool.not_eq_true, Bool.not_eq_false] at hct12
    refine hx_seq ?_
    refine hx_region ?_
    refine WL.qq (by simp only [ev_tmp, ev_const, ev_func, set_get, Nat.reduceEqDiff, reduceIte, qv_move, e0, e1, hB1.cell]; rfl) ?_
    refine WL.qq (by simp only [ev_tmp, ev_const, ev_func, set_get, Nat.reduceEqDiff, reduceIte, qv_assign, e0, e1, hB1.cell]; rfl) ?_
    refine WL.qq (by simp only [ev_tmp, ev_const, ev_func, set_get, Nat.reduceEqDiff, reduceIte, qv_assign, e0, e1, hB1.cell]; rfl) ?_
    refine WL.nil ?_
    refine th_norm ?_
    refine hx_ret ?_
    refine th_ret ?_
    refine fin_ret [.tmp 4, .tmp 5] rfl rfl (by simp only [ev_tmp, ev_const, ev_func, set_get, Nat.reduceEqDiff, reduceIte, resv, e0, e1, hB1.cell]; rfl) ?_  -- ret 0 r3
    exact ⟨rfl, (hx1)⟩
  ·
    simp at hct12
theorem n_previous (m : Int) (h : Heap) : HCalls Try.prog 19 #[.pointer none, .int .i64 m] h (Grow (.tuple #[.int .i64 0, .int .i64 1]) h) := by
  refine hcalls2 Try.func19 rfl (by decide +kernel) (by simp only [Try.ntmps19]; exact of_decide_eq_true rfl) ?_
  intro e hin
  have e0 := hin 0 _ rfl
  have e1 := hin 1 _ rfl
  refine hx_seq ?_
  refine hx_region ?_
  refine WL.qq (by simp only [ev_tmp, ev_const, ev_func, set_get, Nat.reduceEqDiff, reduceIte, qv_assign, e0, e1]; rfl) ?_
  refine WL.qq (by simp only [ev_tmp, ev_const, ev_func, set_get, Nat.reduceEqDiff, reduceIte, qv_assign, e0, e1]; rfl) ?_
  refine WL.nil ?_
  refine th_norm ?_
  refine hx_seq ?_
  refine hx_seq ?_
  refine hx_region ?_
  refine WL.qq (by simp only [ev_tmp, ev_const, ev_func, set_get, Nat.reduceEqDiff, reduceIte, qv_move, e0, e1]; rfl) ?_
  refine WL.qq (by simp only [ev_tmp, ev_const, ev_func, set_get, Nat.reduceEqDiff, reduceIte, qv_move, e0, e1]; rfl) ?_
  refine WL.lit2 #[(.int .i64 0)] Try.underlying22 sz3 zr3 (by decide) (by kernel_rfl) ⟨_, (by simp only [ev_tmp, ev_const, ev_func, set_get, Nat.reduceEqDiff, reduceIte, List.getElem?_toArray, List.getElem?_cons_zero, List.getElem?_cons_succ, List.map_toArray, List.map_cons, List.map_nil, Option.map_some, Option.bind_some, e0, e1]; simp [Instr.fill, Value.cells]; rfl), rfl⟩ ?_
  intro h1 B1 hx1 hlt1 hB1
  refine WL.ck Try.call39 (by simp only [ev_tmp, ev_const, ev_func, set_get, Nat.reduceEqDiff, reduceIte, List.getElem?_toArray, List.getElem?_cons_zero, List.getElem?_cons_succ, List.map_toArray, List.map_cons, List.map_nil, Option.map_some, Option.bind_some, e0, e1, hB1.cell]; exact c_usable_nil _ _) ?_
  refine WL.qq (by simp only [ev_tmp, ev_const, ev_func, set_get, Nat.reduceEqDiff, reduceIte, qv_assign, e0, e1, hB1.cell]; rfl) ?_
  refine WL.nil ?_
  refine th_norm ?_
  refine hx_seq ?_
  refine hx_region ?_
  refine WL.qq (by simp only [ev_tmp, ev_const, ev_func, set_get, Nat.reduceEqDiff, reduceIte, qv_move, e0, e1, hB1.cell]; rfl) ?_
  refine WL.qq (by simp only [ev_tmp, ev_const, ev_func, set_get, Nat.reduceEqDiff, reduceIte, qv_binOp, binv_neq, eq28, Option.map_some, e0, e1, hB1.cell]; rfl) ?_
  refine WL.nil ?_
  refine th_norm ?_
  refine hx_cond (by simp only [ev_tmp, ev_const, ev_func, set_get, Nat.reduceEqDiff, reduceIte, e0, e1, hB1.cell]; rfl) (fun hct12 => ?_) (fun hct12 => ?_)
  ·
    try simp only [decide_eq_true_eq, decide_eq_false_iff_not, Bool.and_eq_true, Bool.and_eq_false_iff, Bool.or_eq_true, Bool.or_eq_false_iff, Bool.not_eq_true', Bool.not_eq_false', Bool.not_eq_true, Bool.not_eq_false] at hct12
    refine hx_seq ?_
    refine hx_region ?_
    refine WL.qq (by simp only [ev_tmp, ev_const, ev_func, set_get, Nat.reduceEqDiff, reduceIte, qv_move, e0, e1, hB1.cell]; rfl) ?_
    refine WL.qq (by simp only [ev_tmp, ev_const, ev_func, set_get, Nat.reduceEqDiff, reduceIte, qv_assign, e0, e1, hB1.cell]; rfl) ?_
    refine WL.qq (by simp only [ev_tmp, ev_const, ev_func, set_get, Nat.reduceEqDiff, reduceIte, qv_assign, e0, e1, hB1.cell]; rfl) ?_
    refine WL.nil ?_
    refine th_norm ?_
    refine hx_ret ?_
    refine th_ret ?_
    refine fin_ret [.tmp 4, .tmp 5] rfl rfl (by simp only [ev_tmp, ev_const, ev_func, set_get, Nat.reduceEqDiff, reduceIte, resv, e0, e1, hB1.cell]; rfl) ?_  -- ret 0 r3
    exact ⟨rfl, (hx1)⟩
  ·
    simp at hct12
theorem n_adjust (m n : Int) (h : Heap) : HCalls Try.prog 30 #[.pointer none, .int .i64 m, .int .i64 n] h (Grow (.tuple #[.int .i64 0, .int .i64 1]) h) := by
  refine hcalls2 Try.func30 rfl (by decide +kernel) (by simp only [Try.ntmps30]; exact of_decide_eq_true rfl) ?_
  intro e hin
  have e0 := hin 0 _ rfl
  have e1 := hin 1 _ rfl
  have e2 := hin 2 _ rfl
  refine hx_seq ?_
  refine hx_region ?_
  refine WL.qq (by simp only [ev_tmp, ev_const, ev_func, set_get, Nat.reduceEqDiff, reduceIte, qv_assign, e0, e1, e2]; rfl) ?_
  refine WL.qq (by simp only [ev_tmp, ev_const, ev_func, set_get, Nat.reduceEqDiff, reduceIte, qv_assign, e0, e1, e2]; rfl) ?_
  refine WL.nil ?_
  refine th_norm ?_
  refine hx_seq ?_
  refine hx_seq ?_
  refine hx_region ?_
  refine WL.qq (by simp only [ev_tmp, ev_const, ev_func, set_get, Nat.reduceEqDiff, reduceIte, qv_move, e0, e1, e2]; rfl) ?_
  refine WL.qq (by simp only [ev_tmp, ev_const, ev_func, set_get, Nat.reduceEqDiff, reduceIte, qv_move, e0, e1, e2]; rfl) ?_
  refine WL.lit2 #[(.int .i64 0)] Try.underlying22 sz3 zr3 (by decide) (by kernel_rfl) ⟨_, (by simp only [ev_tmp, ev_const, ev_func, set_get, Nat.reduceEqDiff, reduceIte, List.getElem?_toArray, List.getElem?_cons_zero, List.getElem?_cons_succ, List.map_toArray, List.map_cons, List.map_nil, Option.map_some, Option.bind_some, e0, e1, e2]; simp [Instr.fill, Value.cells]; rfl), rfl⟩ ?_
  intro h1 B1 hx1 hlt1 hB1
  refine WL.ck Try.call39 (by simp only [ev_tmp, ev_const, ev_func, set_get, Nat.reduceEqDiff, reduceIte, List.getElem?_toArray, List.getElem?_cons_zero, List.getElem?_cons_succ, List.map_toArray, List.map_cons, List.map_nil, Option.map_some, Option.bind_some, e0, e1, e2, hB1.cell]; exact c_usable_nil _ _) ?_
  refine WL.qq (by simp only [ev_tmp, ev_const, ev_func, set_get, Nat.reduceEqDiff, reduceIte, qv_assign, e0, e1, e2, hB1.cell]; rfl) ?_
  refine WL.nil ?_
  refine th_norm ?_
  refine hx_seq ?_
  refine hx_region ?_
  refine WL.qq (by simp only [ev_tmp, ev_const, ev_func, set_get, Nat.reduceEqDiff, reduceIte, qv_move, e0, e1, e2, hB1.cell]; rfl) ?_
  refine WL.qq (by simp only [ev_tmp, ev_const, ev_func, set_get, Nat.reduceEqDiff, reduceIte, qv_binOp, binv_neq, eq28, Option.map_some, e0, e1, e2, hB1.cell]; rfl) ?_
  refine WL.nil ?_
  refine th_norm ?_
  refine hx_cond (by simp only [ev_tmp, ev_const, ev_func, set_get, Nat.reduceEqDiff, reduceIte, e0, e1, e2, hB1.cell]; rfl) (fun hct19 => ?_) (fun hct19 => ?_)
  ·
    try simp only [decide_eq_true_eq, decide_eq_false_iff_not, Bool.and_eq_true, Bool.and_eq_false_iff, Bool.or_eq_true, Bool.or_eq_false_iff, Bool.not_eq_true', Bool.not_eq_false', Bool.not_eq_true, Bool.not_eq_false] at hct19
    refine hx_seq ?_
    refine hx_region ?_
    refine WL.qq (by simp only [ev_tmp, ev_const, ev_func, set_get, Nat.reduceEqDiff, reduceIte, qv_move, e0, e1, e2, hB1.cell]; rfl) ?_
    refine WL.qq (by simp only [ev_tmp, ev_const, ev_func, set_get, Nat.reduceEqDiff, reduceIte, qv_assign, e0, e1, e2, hB1.cell]; rfl) ?_
    refine WL.qq (by simp only [ev_tmp, ev_const, ev_func, set_get, Nat.reduceEqDiff, reduceIte, qv_assign, e0, e1, e2, hB1.cell]; rfl) ?_
    refine WL.nil ?_
    refine th_norm ?_
    refine hx_ret ?_
    refine th_ret ?_
    refine fin_ret [.tmp 6, .tmp 7] rfl rfl (by simp only [ev_tmp, ev_const, ev_func, set_get, Nat.reduceEqDiff, reduceIte, resv, e0, e1, e2, hB1.cell]; rfl) ?_  -- ret 0 r3
    exact ⟨rfl, (hx1)⟩
  ·
    simp at hct19
theorem n_addBusiness (m n : Int) (h : Heap) : HCalls Try.prog 15 #[.pointer none, .int .i64 m, .int .i64 n] h (Grow (.tuple #[.int .i64 0, .int .i64 1]) h) := by
  refine hcalls2 Try.func15 rfl (by decide +kernel) (by simp only [Try.ntmps15]; exact of_decide_eq_true rfl) ?_
  intro e hin
  have e0 := hin 0 _ rfl
  have e1 := hin 1 _ rfl
  have e2 := hin 2 _ rfl
  refine hx_seq ?_
  refine hx_region ?_
  refine WL.qq (by simp only [ev_tmp, ev_const, ev_func, set_get, Nat.reduceEqDiff, reduceIte, qv_assign, e0, e1, e2]; rfl) ?_
  refine WL.qq (by simp only [ev_tmp, ev_const, ev_func, set_get, Nat.reduceEqDiff, reduceIte, qv_assign, e0, e1, e2]; rfl) ?_
  refine WL.nil ?_
  refine th_norm ?_
  refine hx_seq ?_
  refine hx_seq ?_
  refine hx_region ?_
  refine WL.qq (by simp only [ev_tmp, ev_const, ev_func, set_get, Nat.reduceEqDiff, reduceIte, qv_move, e0, e1, e2]; rfl) ?_
  refine WL.qq (by simp only [ev_tmp, ev_const, ev_func, set_get, Nat.reduceEqDiff, reduceIte, qv_move, e0, e1, e2]; rfl) ?_
  refine WL.lit2 #[(.int .i64 0)] Try.underlying22 sz3 zr3 (by decide) (by kernel_rfl) ⟨_, (by simp only [ev_tmp, ev_const, ev_func, set_get, Nat.reduceEqDiff, reduceIte, List.getElem?_toArray, List.getElem?_cons_zero, List.getElem?_cons_succ, List.map_toArray, List.map_cons, List.map_nil, Option.map_some, Option.bind_some, e0, e1, e2]; simp [Instr.fill, Value.cells]; rfl), rfl⟩ ?_
  intro h1 B1 hx1 hlt1 hB1
  refine WL.ck Try.call39 (by simp only [ev_tmp, ev_const, ev_func, set_get, Nat.reduceEqDiff, reduceIte, List.getElem?_toArray, List.getElem?_cons_zero, List.getElem?_cons_succ, List.map_toArray, List.map_cons, List.map_nil, Option.map_some, Option.bind_some, e0, e1, e2, hB1.cell]; exact c_usable_nil _ _) ?_
  refine WL.qq (by simp only [ev_tmp, ev_const, ev_func, set_get, Nat.reduceEqDiff, reduceIte, qv_assign, e0, e1, e2, hB1.cell]; rfl) ?_
  refine WL.nil ?_
  refine th_norm ?_
  refine hx_seq ?_
  refine hx_region ?_
  refine WL.qq (by simp only [ev_tmp, ev_const, ev_func, set_get, Nat.reduceEqDiff, reduceIte, qv_move, e0, e1, e2, hB1.cell]; rfl) ?_
  refine WL.qq (by simp only [ev_tmp, ev_const, ev_func, set_get, Nat.reduceEqDiff, reduceIte, qv_binOp, binv_neq, eq28, Option.map_some, e0, e1, e2, hB1.cell]; rfl) ?_
  refine WL.nil ?_
  refine th_norm ?_
  refine hx_cond (by simp only [ev_tmp, ev_const, ev_func, set_get, Nat.reduceEqDiff, reduceIte, e0, e1, e2, hB1.cell]; rfl) (fun hct14 => ?_) (fun hct14 => ?_)
  ·
    try simp only [decide_eq_true_eq, decide_eq_false_iff_not, Bool.and_eq_true, Bool.and_eq_false_iff, Bool.or_eq_true, Bool.or_eq_false_iff, Bool.not_eq_true', Bool.not_eq_false', Bool.not_eq_true, Bool.not_eq_false] at hct14
    refine hx_seq ?_
    refine hx_region ?_
    refine WL.qq (by simp only [ev_tmp, ev_const, ev_func, set_get, Nat.reduceEqDiff, reduceIte, qv_move, e0, e1, e2, hB1.cell]; rfl) ?_
    refine WL.qq (by simp only [ev_tmp, ev_const, ev_func, set_get, Nat.reduceEqDiff, reduceIte, qv_assign, e0, e1, e2, hB1.cell]; rfl) ?_
    refine WL.qq (by simp only [ev_tmp, ev_const, ev_func, set_get, Nat.reduceEqDiff, reduceIte, qv_assign, e0, e1, e2, hB1.cell]; rfl) ?_
    refine WL.nil ?_
    refine th_norm ?_
    refine hx_ret ?_
    refine th_ret ?_
    refine fin_ret [.tmp 6, .tmp 7] rfl rfl (by simp only [ev_tmp, ev_const, ev_func, set_get, Nat.reduceEqDiff, reduceIte, resv, e0, e1, e2, hB1.cell]; rfl) ?_  -- ret 0 r3
    exact ⟨rfl, (hx1)⟩
  ·
    simp at hct14
theorem n_between (m n : Int) (h : Heap) : HCalls Try.prog 21 #[.pointer none, .int .i64 m, .int .i64 n] h (Grow (.tuple #[.int .i64 0, .int .i64 1]) h) := by
  refine hcalls2 Try.func21 rfl (by decide +kernel) (by simp only [Try.ntmps21]; exact of_decide_eq_true rfl) ?_
  intro e hin
  have e0 := hin 0 _ rfl
  have e1 := hin 1 _ rfl
  have e2 := hin 2 _ rfl
  refine hx_seq ?_
  refine hx_region ?_
  refine WL.qq (by simp only [ev_tmp, ev_const, ev_func, set_get, Nat.reduceEqDiff, reduceIte, qv_assign, e0, e1, e2]; rfl) ?_
  refine WL.qq (by simp only [ev_tmp, ev_const, ev_func, set_get, Nat.reduceEqDiff, reduceIte, qv_assign, e0, e1, e2]; rfl) ?_
  refine WL.nil ?_
  refine th_norm ?_
  refine hx_seq ?_
  refine hx_seq ?_
  refine hx_region ?_
  refine WL.qq (by simp only [ev_tmp, ev_const, ev_func, set_get, Nat.reduceEqDiff, reduceIte, qv_move, e0, e1, e2]; rfl) ?_
  refine WL.qq (by simp only [ev_tmp, ev_const, ev_func, set_get, Nat.reduceEqDiff, reduceIte, qv_move, e0, e1, e2]; rfl) ?_
  refine WL.qq (by simp only [ev_tmp, ev_const, ev_func, set_get, Nat.reduceEqDiff, reduceIte, qv_move, e0, e1, e2]; rfl) ?_
  refine WL.lit2 #[(.int .i64 0), (.int .i64 0)] Try.underlying22 sz3 zr3 (by decide) (by kernel_rfl) ⟨_, (by simp only [ev_tmp, ev_const, ev_func, set_get, Nat.reduceEqDiff, reduceIte, List.getElem?_toArray, List.getElem?_cons_zero, List.getElem?_cons_succ, List.map_toArray, List.map_cons, List.map_nil, Option.map_some, Option.bind_some, e0, e1, e2]; simp [Instr.fill, Value.cells]; rfl), rfl⟩ ?_
  intro h1 B1 hx1 hlt1 hB1
  refine WL.ck Try.call39 (by simp only [ev_tmp, ev_const, ev_func, set_get, Nat.reduceEqDiff, reduceIte, List.getElem?_toArray, List.getElem?_cons_zero, List.getElem?_cons_succ, List.map_toArray, List.map_cons, List.map_nil, Option.map_some, Option.bind_some, e0, e1, e2, hB1.cell]; exact c_usable_nil _ _) ?_
  refine WL.qq (by simp only [ev_tmp, ev_const, ev_func, set_get, Nat.reduceEqDiff, reduceIte, qv_assign, e0, e1, e2, hB1.cell]; rfl) ?_
  refine WL.nil ?_
  refine th_norm ?_
  refine hx_seq ?_
  refine hx_region ?_
  refine WL.qq (by simp only [ev_tmp, ev_const, ev_func, set_get, Nat.reduceEqDiff, reduceIte, qv_move, e0, e1, e2, hB1.cell]; rfl) ?_
  refine WL.qq (by simp only [ev_tmp, ev_const, ev_func, set_get, Nat.reduceEqDiff, reduceIte, qv_binOp, binv_neq, eq28, Option.map_some, e0, e1, e2, hB1.cell]; rfl) ?_
  refine WL.nil ?_
  refine th_norm ?_
  refine hx_cond (by simp only [ev_tmp, ev_const, ev_func, set_get, Nat.reduceEqDiff, reduceIte, e0, e1, e2, hB1.cell]; rfl) (fun hct17 => ?_) (fun hct17 => ?_)
  ·
    try simp only [decide_eq_true_eq, decide_eq_false_iff_not, Bool.and_eq_true, Bool.and_eq_false_iff, Bool.or_eq_true, Bool.or_eq_false_iff, Bool.not_eq_true', Bool.not_eq_false', Bool.not_eq_true, Bool.not_eq_false] at hct17
    refine hx_seq ?_
    refine hx_region ?_
    refine WL.qq (by simp only [ev_tmp, ev_const, ev_func, set_get, Nat.reduceEqDiff, reduceIte, qv_move, e0, e1, e2, hB1.cell]; rfl) ?_
    refine WL.qq (by simp only [ev_tmp, ev_const, ev_func, set_get, Nat.reduceEqDiff, reduceIte, qv_assign, e0, e1, e2, hB1.cell]; rfl) ?_
    refine WL.qq (by simp only [ev_tmp, ev_const, ev_func, set_get, Nat.reduceEqDiff, reduceIte, qv_assign, e0, e1, e2, hB1.cell]; rfl) ?_
    refine WL.nil ?_
    refine th_norm ?_
    refine hx_ret ?_
    refine th_ret ?_
    refine fin_ret [.tmp 6, .tmp 7] rfl rfl (by simp only [ev_tmp, ev_const, ev_func, set_get, Nat.reduceEqDiff, reduceIte, resv, e0, e1, e2, hB1.cell]; rfl) ?_  -- ret 0 r3
    exact ⟨rfl, (hx1)⟩
  ·
    simp at hct17
theorem n_last (m : Int) (h : Heap) : HCalls Try.prog 33 #[.pointer none, .int .i64 m] h (Grow (.tuple #[.int .i64 0, .int .i64 1]) h) := by
  refine hcalls2 Try.func33 rfl (by decide +kernel) (by simp only [Try.ntmps33]; exact of_decide_eq_true rfl) ?_
  intro e hin
  have e0 := hin 0 _ rfl
  have e1 := hin 1 _ rfl
  refine hx_seq ?_
  refine hx_region ?_
  refine WL.qq (by simp only [ev_tmp, ev_const, ev_func, set_get, Nat.reduceEqDiff, reduceIte, qv_assign, e0, e1]; rfl) ?_
  refine WL.qq (by simp only [ev_tmp, ev_const, ev_func, set_get, Nat.reduceEqDiff, reduceIte, qv_assign, e0, e1]; rfl) ?_
  refine WL.nil ?_
  refine th_norm ?_
  refine hx_seq ?_
  refine hx_seq ?_
  refine hx_region ?_
  refine WL.qq (by simp only [ev_tmp, ev_const, ev_func, set_get, Nat.reduceEqDiff, reduceIte, qv_move, e0, e1]; rfl) ?_
  refine WL.qq (by simp only [ev_tmp, ev_const, ev_func, set_get, Nat.reduceEqDiff, reduceIte, qv_move, e0, e1]; rfl) ?_
  refine WL.lit2 #[(.int .i64 0)] Try.underlying22 sz3 zr3 (by decide) (by kernel_rfl) ⟨_, (by simp only [ev_tmp, ev_const, ev_func, set_get, Nat.reduceEqDiff, reduceIte, List.getElem?_toArray, List.getElem?_cons_zero, List.getElem?_cons_succ, List.map_toArray, List.map_cons, List.map_nil, Option.map_some, Option.bind_some, e0, e1]; simp [Instr.fill, Value.cells]; rfl), rfl⟩ ?_
  intro h1 B1 hx1 hlt1 hB1
  refine WL.ck Try.call39 (by simp only [ev_tmp, ev_const, ev_func, set_get, Nat.reduceEqDiff, reduceIte, List.getElem?_toArray, List.getElem?_cons_zero, List.getElem?_cons_succ, List.map_toArray, List.map_cons, List.map_nil, Option.map_some, Option.bind_some, e0, e1, hB1.cell]; exact c_usable_nil _ _) ?_
  refine WL.qq (by simp only [ev_tmp, ev_const, ev_func, set_get, Nat.reduceEqDiff, reduceIte, qv_assign, e0, e1, hB1.cell]; rfl) ?_
  refine WL.nil ?_
  refine th_norm ?_
  refine hx_seq ?_
  refine hx_region ?_
  refine WL.qq (by simp only [ev_tmp, ev_const, ev_func, set_get, Nat.reduceEqDiff, reduceIte, qv_move, e0, e1, hB1.cell]; rfl) ?_
  refine WL.qq (by simp only [ev_tmp, ev_const, ev_func, set_get, Nat.reduceEqDiff, reduceIte, qv_binOp, binv_neq, eq28, Option.map_some, e0, e1, hB1.cell]; rfl) ?_
  refine WL.nil ?_
  refine th_norm ?_
  refine hx_cond (by simp only [ev_tmp, ev_const, ev_func, set_get, Nat.reduceEqDiff, reduceIte, e0, e1, hB1.cell]; rfl) (fun hct15 => ?_) (fun hct15 => ?_)
  ·
    try simp only [decide_eq_true_eq, decide_eq_false_iff_not, Bool.and_eq_true, Bool.and_eq_false_iff, Bool.or_eq_true, Bool.or_eq_false_iff, Bool.not_eq_true', Bool.not_eq_false', Bool.not_eq_true, Bool.not_eq_false] at hct15
    refine hx_seq ?_
    refine hx_region ?_
    refine WL.qq (by simp only [ev_tmp, ev_const, ev_func, set_get, Nat.reduceEqDiff, reduceIte, qv_move, e0, e1, hB1.cell]; rfl) ?_
    refine WL.qq (by simp only [ev_tmp, ev_const, ev_func, set_get, Nat.reduceEqDiff, reduceIte, qv_assign, e0, e1, hB1.cell]; rfl) ?_
    refine WL.qq (by simp only [ev_tmp, ev_const, ev_func, set_get, Nat.reduceEqDiff, reduceIte, qv_assign, e0, e1, hB1.cell]; rfl) ?_
    refine WL.nil ?_
    refine th_norm ?_
    refine hx_ret ?_
    refine th_ret ?_
    refine fin_ret [.tmp 4, .tmp 5] rfl rfl (by simp only [ev_tmp, ev_const, ev_func, set_get, Nat.reduceEqDiff, reduceIte, resv, e0, e1, hB1.cell]; rfl) ?_  -- ret 0 r3
    exact ⟨rfl, (hx1)⟩
  ·
    simp at hct15
theorem n_isBusiness (m : Int) (h : Heap) : HCalls Try.prog 20 #[.pointer none, .int .i64 m] h (Pure (.bool false) h) := by
  refine hcalls2 Try.func20 rfl (by decide +kernel) (by simp only [Try.ntmps20]; exact of_decide_eq_true rfl) ?_
  intro e hin
  have e0 := hin 0 _ rfl
  have e1 := hin 1 _ rfl
  refine hx_seq ?_
  refine hx_region ?_
  refine WL.qq (by simp only [ev_tmp, ev_const, ev_func, set_get, Nat.reduceEqDiff, reduceIte, qv_assign, e0, e1]; rfl) ?_
  refine WL.nil ?_
  refine th_norm ?_
  refine hx_seq ?_
  refine hx_seq ?_
  apply hx_draw2 Rel.same [] [4, 10] [(4, Spec.is _), (10, Spec.is _)] rfl (by decide +kernel) rfl
  refine LD.qq rfl rfl (by simp only [ev_tmp, ev_const, ev_func, set_get, Nat.reduceEqDiff, reduceIte, qv_move, e0, e1]; rfl) ?_
  refine LD.qq rfl rfl (by simp only [ev_tmp, ev_const, ev_func, set_get, Nat.reduceEqDiff, reduceIte, qv_binOp, binv_eql, eqz27, eqn27, eqm27, Option.map_some, e0, e1]; rfl) ?_
  refine LD.qq rfl rfl (by simp only [ev_tmp, ev_const, ev_func, set_get, Nat.reduceEqDiff, reduceIte, qv_move, e0, e1]; rfl) ?_
  refine LD.cq rfl rfl (gd_at (t := 9) rfl (by simp only [ev_tmp, ev_const, ev_func, set_get, Nat.reduceEqDiff, reduceIte, e0, e1]; rfl)) (fun hg1_3 => by simp only [ev_tmp, ev_const, ev_func, set_get, Nat.reduceEqDiff, reduceIte, qv_move, e0, e1, hg1_3, Bool.false_eq_true, Bool.true_eq_false, eq_self, if_true, if_false, true_and, and_true, false_and, and_false]; rfl) ?_
  refine LD.cck rfl rfl (gd_at (t := 9) rfl (by simp only [ev_tmp, ev_const, ev_func, set_get, Nat.reduceEqDiff, reduceIte, e0, e1]; rfl)) Try.call41 (fun hg1_4 => by intro hh hr; obtain rfl : hh = _ := hr; simp only [ev_tmp, ev_const, ev_func, set_get, Nat.reduceEqDiff, reduceIte, List.getElem?_toArray, List.getElem?_cons_zero, List.getElem?_cons_succ, List.map_toArray, List.map_cons, List.map_nil, Option.map_some, Option.bind_some, e0, e1, hg1_4, Bool.false_eq_true, Bool.true_eq_false, eq_self, if_true, if_false, true_and, and_true, false_and, and_false]; exact c_valid _ _) ?_
  refine LD.cq rfl rfl (gd_at (t := 9) rfl (by simp only [ev_tmp, ev_const, ev_func, set_get, Nat.reduceEqDiff, reduceIte, e0, e1]; rfl)) (fun hg1_5 => by simp only [ev_tmp, ev_const, ev_func, set_get, Nat.reduceEqDiff, reduceIte, qv_unOp, unv_not, e0, e1, hg1_5, Bool.false_eq_true, Bool.true_eq_false, eq_self, if_true, if_false, true_and, and_true, false_and, and_false]; rfl) ?_
  refine LD.qq rfl rfl (by simp only [ev_tmp, ev_const, ev_func, set_get, Nat.reduceEqDiff, reduceIte, qv_pick, pk_and, pk_or, Bool.false_eq_true, Bool.true_eq_false, eq_self, if_true, if_false, true_and, and_true, false_and, and_false, e0, e1]; rfl) ?_
  refine LD.qq rfl rfl (by simp only [ev_tmp, ev_const, ev_func, set_get, Nat.reduceEqDiff, reduceIte, qv_move, e0, e1]; rfl) ?_
  refine LD.cq rfl rfl (gd_at (t := 14) rfl (by simp only [ev_tmp, ev_const, ev_func, set_get, Nat.reduceEqDiff, reduceIte, e0, e1]; rfl)) (fun hg1_8 => by simp only [ev_tmp, ev_const, ev_func, set_get, Nat.reduceEqDiff, reduceIte, qv_move, e0, e1, hg1_8, Bool.false_eq_true, Bool.true_eq_false, eq_self, if_true, if_false, true_and, and_true, false_and, and_false]; rfl) ?_
  refine LD.cq rfl rfl (gd_at (t := 14) rfl (by simp only [ev_tmp, ev_const, ev_func, set_get, Nat.reduceEqDiff, reduceIte, e0, e1]; rfl)) (fun hg1_9 => by simp only [ev_tmp, ev_const, ev_func, set_get, Nat.reduceEqDiff, reduceIte, qv_move, e0, e1, hg1_9, Bool.false_eq_true, Bool.true_eq_false, eq_self, if_true, if_false, true_and, and_true, false_and, and_false]; rfl) ?_
  refine LD.cck rfl rfl (gd_at (t := 14) rfl (by simp only [ev_tmp, ev_const, ev_func, set_get, Nat.reduceEqDiff, reduceIte, e0, e1]; rfl)) Try.call42 (fun hg1_10 => by intro hh hr; obtain rfl : hh = _ := hr; simp only [ev_tmp, ev_const, ev_func, set_get, Nat.reduceEqDiff, reduceIte, List.getElem?_toArray, List.getElem?_cons_zero, List.getElem?_cons_succ, List.map_toArray, List.map_cons, List.map_nil, Option.map_some, Option.bind_some, e0, e1, hg1_10, Bool.false_eq_true, Bool.true_eq_false, eq_self, if_true, if_false, true_and, and_true, false_and, and_false]; exact c_weekday _ _) ?_
  refine LD.cq rfl rfl (gd_at (t := 14) rfl (by simp only [ev_tmp, ev_const, ev_func, set_get, Nat.reduceEqDiff, reduceIte, e0, e1]; rfl)) (fun hg1_11 => by exact (absurd hg1_11 (by simp) : _ = some undef)) ?_
  refine LD.cq rfl rfl (gd_at (t := 14) rfl (by simp only [ev_tmp, ev_const, ev_func, set_get, Nat.reduceEqDiff, reduceIte, e0, e1]; rfl)) (fun hg1_12 => by exact (absurd hg1_12 (by simp) : _ = some undef)) ?_
  refine LD.cq rfl rfl (gd_at (t := 14) rfl (by simp only [ev_tmp, ev_const, ev_func, set_get, Nat.reduceEqDiff, reduceIte, e0, e1]; rfl)) (fun hg1_13 => by exact (absurd hg1_13 (by simp) : _ = some undef)) ?_
  refine LD.cq rfl rfl (gd_at (t := 14) rfl (by simp only [ev_tmp, ev_const, ev_func, set_get, Nat.reduceEqDiff, reduceIte, e0, e1]; rfl)) (fun hg1_14 => by exact (absurd hg1_14 (by simp) : _ = some (Value.bool true))) ?_
  refine LD.qq rfl rfl (by simp only [ev_tmp, ev_const, ev_func, set_get, Nat.reduceEqDiff, reduceIte, qv_pick, pk_and, pk_or, Bool.false_eq_true, Bool.true_eq_false, eq_self, if_true, if_false, true_and, and_true, false_and, and_false, e0, e1]; rfl) ?_
  refine LD.nil ?_
  rintro _ rfl -
  refine WL.nil ?_
  refine th_norm ?_
  refine hx_cond (by simp only [ev_tmp, ev_const, ev_func, set_get, Nat.reduceEqDiff, reduceIte, e0, e1]; rfl) (fun hct22 => ?_) (fun hct22 => ?_)
  ·
    try simp only [decide_eq_true_eq, decide_eq_false_iff_not, Bool.and_eq_true, Bool.and_eq_false_iff, Bool.or_eq_true, Bool.or_eq_false_iff, Bool.not_eq_true', Bool.not_eq_false', Bool.not_eq_true, Bool.not_eq_false] at hct22
    refine hx_seq ?_
    refine hx_region ?_
    refine WL.qq (by simp only [ev_tmp, ev_const, ev_func, set_get, Nat.reduceEqDiff, reduceIte, qv_assign, e0, e1]; rfl) ?_
    refine WL.nil ?_
    refine th_norm ?_
    refine hx_ret ?_
    refine th_ret ?_
    refine fin_ret [.tmp 4] rfl rfl (by simp only [ev_tmp, ev_const, ev_func, set_get, Nat.reduceEqDiff, reduceIte, resv, e0, e1]; rfl) ?_  -- ret 0 r2
    exact ⟨rfl, rfl⟩
  ·
    simp at hct22
theorem n_holidays (h : Heap) : HCalls Try.prog 26 #[.pointer none] h (Pure (.slice none 0 0) h) := by
  refine hcalls2 Try.func26 rfl (by decide +kernel) (by simp only [Try.ntmps26]; exact of_decide_eq_true rfl) ?_
  intro e hin
  have e0 := hin 0 _ rfl
  refine hx_seq ?_
  refine hx_region ?_
  refine WL.qq (by simp only [ev_tmp, ev_const, ev_func, set_get, Nat.reduceEqDiff, reduceIte, qv_assign, e0]; rfl) ?_
  refine WL.nil ?_
  refine th_norm ?_
  refine hx_seq ?_
  refine hx_seq ?_
  refine hx_region ?_
  refine WL.qq (by simp only [ev_tmp, ev_const, ev_func, set_get, Nat.reduceEqDiff, reduceIte, qv_move, e0]; rfl) ?_
  refine WL.qq (by simp only [ev_tmp, ev_const, ev_func, set_get, Nat.reduceEqDiff, reduceIte, qv_binOp, binv_eql, eqz27, eqn27, eqm27, Option.map_some, e0]; rfl) ?_
  refine WL.nil ?_
  refine th_norm ?_
  refine hx_cond (by simp only [ev_tmp, ev_const, ev_func, set_get, Nat.reduceEqDiff, reduceIte, e0]; rfl) (fun hct4 => ?_) (fun hct4 => ?_)
  ·
    try simp only [decide_eq_true_eq, decide_eq_false_iff_not, Bool.and_eq_true, Bool.and_eq_false_iff, Bool.or_eq_true, Bool.or_eq_false_iff, Bool.not_eq_true', Bool.not_eq_false', Bool.not_eq_true, Bool.not_eq_false] at hct4
    refine hx_seq ?_
    refine hx_region ?_
    refine WL.qq (by simp only [ev_tmp, ev_const, ev_func, set_get, Nat.reduceEqDiff, reduceIte, qv_assign, e0]; rfl) ?_
    refine WL.nil ?_
    refine th_norm ?_
    refine hx_ret ?_
    refine th_ret ?_
    refine fin_ret [.tmp 2] rfl rfl (by simp only [ev_tmp, ev_const, ev_func, set_get, Nat.reduceEqDiff, reduceIte, resv, e0]; rfl) ?_  -- ret 0 r2
    exact ⟨rfl, rfl⟩
  ·
    simp at hct4
theorem n_weekend (h : Heap) : HCalls Try.prog 24 #[.pointer none] h (Pure (.slice none 0 0) h) := by
  refine hcalls2 Try.func24 rfl (by decide +kernel) (by simp only [Try.ntmps24]; exact of_decide_eq_true rfl) ?_
  intro e hin
  have e0 := hin 0 _ rfl
  refine hx_seq ?_
  refine hx_region ?_
  refine WL.qq (by simp only [ev_tmp, ev_const, ev_func, set_get, Nat.reduceEqDiff, reduceIte, qv_assign, e0]; rfl) ?_
  refine WL.nil ?_
  refine th_norm ?_
  refine hx_seq ?_
  refine hx_seq ?_
  refine hx_region ?_
  refine WL.qq (by simp only [ev_tmp, ev_const, ev_func, set_get, Nat.reduceEqDiff, reduceIte, qv_move, e0]; rfl) ?_
  refine WL.qq (by simp only [ev_tmp, ev_const, ev_func, set_get, Nat.reduceEqDiff, reduceIte, qv_binOp, binv_eql, eqz27, eqn27, eqm27, Option.map_some, e0]; rfl) ?_
  refine WL.nil ?_
  refine th_norm ?_
  refine hx_cond (by simp only [ev_tmp, ev_const, ev_func, set_get, Nat.reduceEqDiff, reduceIte, e0]; rfl) (fun hct7 => ?_) (fun hct7 => ?_)
  ·
    try simp only [decide_eq_true_eq, decide_eq_false_iff_not, Bool.and_eq_true, Bool.and_eq_false_iff, Bool.or_eq_true, Bool.or_eq_false_iff, Bool.not_eq_true', Bool.not_eq_false', Bool.not_eq_true, Bool.not_eq_false] at hct7
    refine hx_seq ?_
    refine hx_region ?_
    refine WL.qq (by simp only [ev_tmp, ev_const, ev_func, set_get, Nat.reduceEqDiff, reduceIte, qv_assign, e0]; rfl) ?_
    refine WL.nil ?_
    refine th_norm ?_
    refine hx_ret ?_
    refine th_ret ?_
    refine fin_ret [.tmp 2] rfl rfl (by simp only [ev_tmp, ev_const, ev_func, set_get, Nat.reduceEqDiff, reduceIte, resv, e0]; rfl) ?_  -- ret 0 r2
    exact ⟨rfl, rfl⟩
  ·
    simp at hct7
theorem n_equal (h : Heap) : HCalls Try.prog 35 #[.pointer none, .pointer none] h (Pure (.bool true) h) := by
  refine hcalls2 Try.func35 rfl (by decide +kernel) (by simp only [Try.ntmps35]; exact of_decide_eq_true rfl) ?_
  intro e hin
  have e0 := hin 0 _ rfl
  have e1 := hin 1 _ rfl
  refine hx_seq ?_
  refine hx_region ?_
  refine WL.qq (by simp only [ev_tmp, ev_const, ev_func, set_get, Nat.reduceEqDiff, reduceIte, qv_assign, e0, e1]; rfl) ?_
  refine WL.nil ?_
  refine th_norm ?_
  refine hx_seq ?_
  refine hx_seq ?_
  refine hx_region ?_
  refine WL.qq (by simp only [ev_tmp, ev_const, ev_func, set_get, Nat.reduceEqDiff, reduceIte, qv_move, e0, e1]; rfl) ?_
  refine WL.qq (by simp only [ev_tmp, ev_const, ev_func, set_get, Nat.reduceEqDiff, reduceIte, qv_binOp, binv_eql, eqz27, eqn27, eqm27, Option.map_some, e0, e1]; rfl) ?_
  refine WL.qq (by simp only [ev_tmp, ev_const, ev_func, set_get, Nat.reduceEqDiff, reduceIte, qv_move, e0, e1]; rfl) ?_
  refine WL.cq (gd_at (t := 7) rfl (by simp only [ev_tmp, ev_const, ev_func, set_get, Nat.reduceEqDiff, reduceIte, e0, e1]; rfl)) (fun hg1_3 => by simp only [ev_tmp, ev_const, ev_func, set_get, Nat.reduceEqDiff, reduceIte, qv_move, e0, e1, hg1_3, Bool.false_eq_true, Bool.true_eq_false, eq_self, if_true, if_false, true_and, and_true, false_and, and_false]; rfl) ?_
  refine WL.cq (gd_at (t := 7) rfl (by simp only [ev_tmp, ev_const, ev_func, set_get, Nat.reduceEqDiff, reduceIte, e0, e1]; rfl)) (fun hg1_4 => by simp only [ev_tmp, ev_const, ev_func, set_get, Nat.reduceEqDiff, reduceIte, qv_binOp, binv_eql, eqz27, eqn27, eqm27, Option.map_some, e0, e1, hg1_4, Bool.false_eq_true, Bool.true_eq_false, eq_self, if_true, if_false, true_and, and_true, false_and, and_false]; rfl) ?_
  refine WL.qq (by simp only [ev_tmp, ev_const, ev_func, set_get, Nat.reduceEqDiff, reduceIte, qv_pick, pk_and, pk_or, Bool.false_eq_true, Bool.true_eq_false, eq_self, if_true, if_false, true_and, and_true, false_and, and_false, e0, e1]; rfl) ?_
  refine WL.nil ?_
  refine th_norm ?_
  refine hx_cond (by simp only [ev_tmp, ev_const, ev_func, set_get, Nat.reduceEqDiff, reduceIte, e0, e1]; rfl) (fun hct10 => ?_) (fun hct10 => ?_)
  ·
    try simp only [decide_eq_true_eq, decide_eq_false_iff_not, Bool.and_eq_true, Bool.and_eq_false_iff, Bool.or_eq_true, Bool.or_eq_false_iff, Bool.not_eq_true', Bool.not_eq_false', Bool.not_eq_true, Bool.not_eq_false] at hct10
    refine hx_seq ?_
    refine hx_region ?_
    refine WL.qq (by simp only [ev_tmp, ev_const, ev_func, set_get, Nat.reduceEqDiff, reduceIte, qv_move, e0, e1]; rfl) ?_
    refine WL.qq (by simp only [ev_tmp, ev_const, ev_func, set_get, Nat.reduceEqDiff, reduceIte, qv_move, e0, e1]; rfl) ?_
    refine WL.qq (by simp only [ev_tmp, ev_const, ev_func, set_get, Nat.reduceEqDiff, reduceIte, qv_binOp, binv_eql, eqz27, eqn27, eqm27, Option.map_some, e0, e1]; rfl) ?_
    refine WL.qq (by simp only [ev_tmp, ev_const, ev_func, set_get, Nat.reduceEqDiff, reduceIte, qv_assign, e0, e1]; rfl) ?_
    refine WL.nil ?_
    refine th_norm ?_
    refine hx_ret ?_
    refine th_ret ?_
    refine fin_ret [.tmp 4] rfl rfl (by simp only [ev_tmp, ev_const, ev_func, set_get, Nat.reduceEqDiff, reduceIte, resv, e0, e1]; rfl) ?_  -- ret 0 r2
    exact ⟨rfl, rfl⟩
  ·
    simp at hct10
theorem n_equal1 (a : Addr) (h : Heap) : HCalls Try.prog 35 #[.pointer (some a), .pointer none] h (Pure (.bool false) h) := by
  refine hcalls2 Try.func35 rfl (by decide +kernel) (by simp only [Try.ntmps35]; exact of_decide_eq_true rfl) ?_
  intro e hin
  have e0 := hin 0 _ rfl
  have e1 := hin 1 _ rfl
  refine hx_seq ?_
  refine hx_region ?_
  refine WL.qq (by simp only [ev_tmp, ev_const, ev_func, set_get, Nat.reduceEqDiff, reduceIte, qv_assign, e0, e1]; rfl) ?_
  refine WL.nil ?_
  refine th_norm ?_
  refine hx_seq ?_
  refine hx_seq ?_
  refine hx_region ?_
  refine WL.qq (by simp only [ev_tmp, ev_const, ev_func, set_get, Nat.reduceEqDiff, reduceIte, qv_move, e0, e1]; rfl) ?_
  refine WL.qq (by simp only [ev_tmp, ev_const, ev_func, set_get, Nat.reduceEqDiff, reduceIte, qv_binOp, binv_eql, eqz27, eqn27, eqm27, Option.map_some, e0, e1]; rfl) ?_
  refine WL.qq (by simp only [ev_tmp, ev_const, ev_func, set_get, Nat.reduceEqDiff, reduceIte, qv_move, e0, e1]; rfl) ?_
  refine WL.cq (gd_at (t := 7) rfl (by simp only [ev_tmp, ev_const, ev_func, set_get, Nat.reduceEqDiff, reduceIte, e0, e1]; rfl)) (fun hg1_3 => by simp only [ev_tmp, ev_const, ev_func, set_get, Nat.reduceEqDiff, reduceIte, qv_move, e0, e1, hg1_3, Bool.false_eq_true, Bool.true_eq_false, eq_self, if_true, if_false, true_and, and_true, false_and, and_false]; rfl) ?_
  refine WL.cq (gd_at (t := 7) rfl (by simp only [ev_tmp, ev_const, ev_func, set_get, Nat.reduceEqDiff, reduceIte, e0, e1]; rfl)) (fun hg1_4 => by simp only [ev_tmp, ev_const, ev_func, set_get, Nat.reduceEqDiff, reduceIte, qv_binOp, binv_eql, eqz27, eqn27, eqm27, Option.map_some, e0, e1, hg1_4, Bool.false_eq_true, Bool.true_eq_false, eq_self, if_true, if_false, true_and, and_true, false_and, and_false]; rfl) ?_
  refine WL.qq (by simp only [ev_tmp, ev_const, ev_func, set_get, Nat.reduceEqDiff, reduceIte, qv_pick, pk_and, pk_or, Bool.false_eq_true, Bool.true_eq_false, eq_self, if_true, if_false, true_and, and_true, false_and, and_false, e0, e1]; rfl) ?_
  refine WL.nil ?_
  refine th_norm ?_
  refine hx_cond (by simp only [ev_tmp, ev_const, ev_func, set_get, Nat.reduceEqDiff, reduceIte, e0, e1]; rfl) (fun hct10 => ?_) (fun hct10 => ?_)
  ·
    try simp only [decide_eq_true_eq, decide_eq_false_iff_not, Bool.and_eq_true, Bool.and_eq_false_iff, Bool.or_eq_true, Bool.or_eq_false_iff, Bool.not_eq_true', Bool.not_eq_false', Bool.not_eq_true, Bool.not_eq_false] at hct10
    refine hx_seq ?_
    refine hx_region ?_
    refine WL.qq (by simp only [ev_tmp, ev_const, ev_func, set_get, Nat.reduceEqDiff, reduceIte, qv_move, e0, e1]; rfl) ?_
    refine WL.qq (by simp only [ev_tmp, ev_const, ev_func, set_get, Nat.reduceEqDiff, reduceIte, qv_move, e0, e1]; rfl) ?_
    refine WL.qq (by simp only [ev_tmp, ev_const, ev_func, set_get, Nat.reduceEqDiff, reduceIte, qv_binOp, binv_eql, eqz27, eqn27, eqm27, Option.map_some, e0, e1]; rfl) ?_
    refine WL.qq (by simp only [ev_tmp, ev_const, ev_func, set_get, Nat.reduceEqDiff, reduceIte, qv_assign, e0, e1]; rfl) ?_
    refine WL.nil ?_
    refine th_norm ?_
    refine hx_ret ?_
    refine th_ret ?_
    refine fin_ret [.tmp 4] rfl rfl (by simp only [ev_tmp, ev_const, ev_func, set_get, Nat.reduceEqDiff, reduceIte, resv, e0, e1]; rfl) ?_  -- ret 0 r2
    exact ⟨rfl, rfl⟩
  ·
    simp at hct10
theorem n_equal2 (a : Addr) (h : Heap) : HCalls Try.prog 35 #[.pointer none, .pointer (some a)] h (Pure (.bool false) h) := by
  refine hcalls2 Try.func35 rfl (by decide +kernel) (by simp only [Try.ntmps35]; exact of_decide_eq_true rfl) ?_
  intro e hin
  have e0 := hin 0 _ rfl
  have e1 := hin 1 _ rfl
  refine hx_seq ?_
  refine hx_region ?_
  refine WL.qq (by simp only [ev_tmp, ev_const, ev_func, set_get, Nat.reduceEqDiff, reduceIte, qv_assign, e0, e1]; rfl) ?_
  refine WL.nil ?_
  refine th_norm ?_
  refine hx_seq ?_
  refine hx_seq ?_
  refine hx_region ?_
  refine WL.qq (by simp only [ev_tmp, ev_const, ev_func, set_get, Nat.reduceEqDiff, reduceIte, qv_move, e0, e1]; rfl) ?_
  refine WL.qq (by simp only [ev_tmp, ev_const, ev_func, set_get, Nat.reduceEqDiff, reduceIte, qv_binOp, binv_eql, eqz27, eqn27, eqm27, Option.map_some, e0, e1]; rfl) ?_
  refine WL.qq (by simp only [ev_tmp, ev_const, ev_func, set_get, Nat.reduceEqDiff, reduceIte, qv_move, e0, e1]; rfl) ?_
  refine WL.cq (gd_at (t := 7) rfl (by simp only [ev_tmp, ev_const, ev_func, set_get, Nat.reduceEqDiff, reduceIte, e0, e1]; rfl)) (fun hg1_3 => by simp only [ev_tmp, ev_const, ev_func, set_get, Nat.reduceEqDiff, reduceIte, qv_move, e0, e1, hg1_3, Bool.false_eq_true, Bool.true_eq_false, eq_self, if_true, if_false, true_and, and_true, false_and, and_false]; rfl) ?_
  refine WL.cq (gd_at (t := 7) rfl (by simp only [ev_tmp, ev_const, ev_func, set_get, Nat.reduceEqDiff, reduceIte, e0, e1]; rfl)) (fun hg1_4 => by simp only [ev_tmp, ev_const, ev_func, set_get, Nat.reduceEqDiff, reduceIte, qv_binOp, binv_eql, eqz27, eqn27, eqm27, Option.map_some, e0, e1, hg1_4, Bool.false_eq_true, Bool.true_eq_false, eq_self, if_true, if_false, true_and, and_true, false_and, and_false]; rfl) ?_
  refine WL.qq (by simp only [ev_tmp, ev_const, ev_func, set_get, Nat.reduceEqDiff, reduceIte, qv_pick, pk_and, pk_or, Bool.false_eq_true, Bool.true_eq_false, eq_self, if_true, if_false, true_and, and_true, false_and, and_false, e0, e1]; rfl) ?_
  refine WL.nil ?_
  refine th_norm ?_
  refine hx_cond (by simp only [ev_tmp, ev_const, ev_func, set_get, Nat.reduceEqDiff, reduceIte, e0, e1]; rfl) (fun hct10 => ?_) (fun hct10 => ?_)
  ·
    try simp only [decide_eq_true_eq, decide_eq_false_iff_not, Bool.and_eq_true, Bool.and_eq_false_iff, Bool.or_eq_true, Bool.or_eq_false_iff, Bool.not_eq_true', Bool.not_eq_false', Bool.not_eq_true, Bool.not_eq_false] at hct10
    refine hx_seq ?_
    refine hx_region ?_
    refine WL.qq (by simp only [ev_tmp, ev_const, ev_func, set_get, Nat.reduceEqDiff, reduceIte, qv_move, e0, e1]; rfl) ?_
    refine WL.qq (by simp only [ev_tmp, ev_const, ev_func, set_get, Nat.reduceEqDiff, reduceIte, qv_move, e0, e1]; rfl) ?_
    refine WL.qq (by simp only [ev_tmp, ev_const, ev_func, set_get, Nat.reduceEqDiff, reduceIte, qv_binOp, binv_eql, eqz27, eqn27, eqm27, Option.map_some, e0, e1]; rfl) ?_
    refine WL.qq (by simp only [ev_tmp, ev_const, ev_func, set_get, Nat.reduceEqDiff, reduceIte, qv_assign, e0, e1]; rfl) ?_
    refine WL.nil ?_
    refine th_norm ?_
    refine hx_ret ?_
    refine th_ret ?_
    refine fin_ret [.tmp 4] rfl rfl (by simp only [ev_tmp, ev_const, ev_func, set_get, Nat.reduceEqDiff, reduceIte, resv, e0, e1]; rfl) ?_  -- ret 0 r2
    exact ⟨rfl, rfl⟩
  ·
    simp at hct10
def eqW (wk wk' : List Int) : Bool := ((wk.contains 0 == wk'.contains 0) && ((wk.contains 1 == wk'.contains 1) && ((wk.contains 2 == wk'.contains 2) && ((wk.contains 3 == wk'.contains 3) && ((wk.contains 4 == wk'.contains 4) && ((wk.contains 5 == wk'.contains 5) && ((wk.contains 6 == wk'.contains 6) && true)))))))
theorem c_equal (p p' : Nat) (wk wk' hs hs' : List Int) {h : Heap} (hc : IsCal h p wk hs) (hd : IsCal h p' wk' hs') :
    HCalls Try.prog 35 #[.pointer (some ⟨p, 0, none⟩), .pointer (some ⟨p', 0, none⟩)] h (Pure (.bool (eqW wk wk' && decide (hs = hs'))) h) := by
  obtain ⟨⟨a, c, hp, hsl, hcap⟩, ho, hsm⟩ := hc
  obtain ⟨⟨a', c', hp', hsl', hcap'⟩, ho', hsm'⟩ := hd
  refine hcalls2 Try.func35 rfl (by decide +kernel) (by simp only [Try.ntmps35]; exact of_decide_eq_true rfl) ?_
  intro e hin
  have e0 := hin 0 _ rfl
  have e1 := hin 1 _ rfl
  refine hx_seq ?_
  refine hx_region ?_
  refine WL.qq (by simp only [ev_tmp, ev_const, ev_func, set_get, Nat.reduceEqDiff, reduceIte, qv_assign, e0, e1, hp.cell, hp'.cell]; rfl) ?_
  refine WL.nil ?_
  refine th_norm ?_
  refine hx_seq ?_
  refine hx_seq ?_
  refine hx_region ?_
  refine WL.qq (by simp only [ev_tmp, ev_const, ev_func, set_get, Nat.reduceEqDiff, reduceIte, qv_move, e0, e1, hp.cell, hp'.cell]; rfl) ?_
  refine WL.qq (by simp only [ev_tmp, ev_const, ev_func, set_get, Nat.reduceEqDiff, reduceIte, qv_binOp, binv_eql, eqz27, eqn27, eqm27, Option.map_some, e0, e1, hp.cell, hp'.cell]; rfl) ?_
  refine WL.qq (by simp only [ev_tmp, ev_const, ev_func, set_get, Nat.reduceEqDiff, reduceIte, qv_move, e0, e1, hp.cell, hp'.cell]; rfl) ?_
  refine WL.cq (gd_at (t := 7) rfl (by simp only [ev_tmp, ev_const, ev_func, set_get, Nat.reduceEqDiff, reduceIte, e0, e1, hp.cell, hp'.cell]; rfl)) (fun hg1_3 => by simp only [ev_tmp, ev_const, ev_func, set_get, Nat.reduceEqDiff, reduceIte, qv_move, e0, e1, hp.cell, hp'.cell, hg1_3, Bool.false_eq_true, Bool.true_eq_false, eq_self, if_true, if_false, true_and, and_true, false_and, and_false]; rfl) ?_
  refine WL.cq (gd_at (t := 7) rfl (by simp only [ev_tmp, ev_const, ev_func, set_get, Nat.reduceEqDiff, reduceIte, e0, e1, hp.cell, hp'.cell]; rfl)) (fun hg1_4 => by simp only [ev_tmp, ev_const, ev_func, set_get, Nat.reduceEqDiff, reduceIte, qv_binOp, binv_eql, eqz27, eqn27, eqm27, Option.map_some, e0, e1, hp.cell, hp'.cell, hg1_4, Bool.false_eq_true, Bool.true_eq_false, eq_self, if_true, if_false, true_and, and_true, false_and, and_false]; rfl) ?_
  refine WL.qq (by simp only [ev_tmp, ev_const, ev_func, set_get, Nat.reduceEqDiff, reduceIte, qv_pick, pk_and, pk_or, Bool.false_eq_true, Bool.true_eq_false, eq_self, if_true, if_false, true_and, and_true, false_and, and_false, e0, e1, hp.cell, hp'.cell]; rfl) ?_
  refine WL.nil ?_
  refine th_norm ?_
  refine hx_cond (by simp only [ev_tmp, ev_const, ev_func, set_get, Nat.reduceEqDiff, reduceIte, e0, e1, hp.cell, hp'.cell]; rfl) (fun hct10 => ?_) (fun hct10 => ?_)
  ·
    (simp at hct10)
  ·
    try simp only [decide_eq_true_eq, decide_eq_false_iff_not, Bool.and_eq_true, Bool.and_eq_false_iff, Bool.or_eq_true, Bool.or_eq_false_iff, Bool.not_eq_true', Bool.not_eq_false', Bool.not_eq_true, Bool.not_eq_false] at hct10
    refine hx_skip ?_
    refine th_norm ?_
    refine hx_seq ?_
    apply hx_draw2 Rel.same [] [18] [(18, Spec.is _)] rfl (by decide +kernel) rfl
    refine LD.qq rfl rfl (by simp only [ev_tmp, ev_const, ev_func, set_get, Nat.reduceEqDiff, reduceIte, qv_move, e0, e1, hp.cell, hp'.cell]; rfl) ?_
    refine LD.qq rfl rfl (by simp only [ev_tmp, ev_const, ev_func, set_get, Nat.reduceEqDiff, reduceIte, qv_nilCheck, e0, e1, hp.cell, hp'.cell]; rfl) ?_
    refine LD.qq rfl rfl (by simp only [ev_tmp, ev_const, ev_func, set_get, Nat.reduceEqDiff, reduceIte, qv_fieldAddr, fa62_0, Nat.zero_add, Nat.reduceAdd, e0, e1, hp.cell, hp'.cell]; rfl) ?_
    refine LD.qq rfl rfl (by simp only [ev_tmp, ev_const, ev_func, set_get, Nat.reduceEqDiff, reduceIte, qv_load, ld60, readN, List.getElem?_toArray, List.getElem?_cons_zero, List.getElem?_cons_succ, List.map_toArray, List.map_cons, List.map_nil, Option.map_some, Option.bind_some, Nat.zero_add, Nat.reduceAdd, e0, e1, hp.cell, hp'.cell]; rfl) ?_
    refine LD.qq rfl rfl (by simp only [ev_tmp, ev_const, ev_func, set_get, Nat.reduceEqDiff, reduceIte, qv_move, e0, e1, hp.cell, hp'.cell]; rfl) ?_
    refine LD.qq rfl rfl (by simp only [ev_tmp, ev_const, ev_func, set_get, Nat.reduceEqDiff, reduceIte, qv_nilCheck, e0, e1, hp.cell, hp'.cell]; rfl) ?_
    refine LD.qq rfl rfl (by simp only [ev_tmp, ev_const, ev_func, set_get, Nat.reduceEqDiff, reduceIte, qv_fieldAddr, fa62_0, Nat.zero_add, Nat.reduceAdd, e0, e1, hp.cell, hp'.cell]; rfl) ?_
    refine LD.qq rfl rfl (by simp only [ev_tmp, ev_const, ev_func, set_get, Nat.reduceEqDiff, reduceIte, qv_load, ld60, readN, List.getElem?_toArray, List.getElem?_cons_zero, List.getElem?_cons_succ, List.map_toArray, List.map_cons, List.map_nil, Option.map_some, Option.bind_some, Nat.zero_add, Nat.reduceAdd, e0, e1, hp.cell, hp'.cell]; rfl) ?_
    refine LD.qq rfl rfl (by refine (?_ : _ = some (Value.bool (eqW wk wk'))); simp only [ev_tmp, ev_const, ev_func, set_get, Nat.reduceEqDiff, reduceIte, e0, e1, hp.cell, hp'.cell, qv_binOp, binv_eql, eqs60, Option.map_some]; rfl) ?_
    refine LD.qq rfl rfl (by simp only [ev_tmp, ev_const, ev_func, set_get, Nat.reduceEqDiff, reduceIte, qv_move, e0, e1, hp.cell, hp'.cell]; rfl) ?_
    refine LD.cq rfl rfl (gd_at (t := 23) rfl (by simp only [ev_tmp, ev_const, ev_func, set_get, Nat.reduceEqDiff, reduceIte, e0, e1, hp.cell, hp'.cell]; rfl)) (fun hg3_10 => by simp only [ev_tmp, ev_const, ev_func, set_get, Nat.reduceEqDiff, reduceIte, qv_move, e0, e1, hp.cell, hp'.cell, hg3_10, Bool.false_eq_true, Bool.true_eq_false, eq_self, if_true, if_false, true_and, and_true, false_and, and_false]; rfl) ?_
    refine LD.cq rfl rfl (gd_at (t := 23) rfl (by simp only [ev_tmp, ev_const, ev_func, set_get, Nat.reduceEqDiff, reduceIte, e0, e1, hp.cell, hp'.cell]; rfl)) (fun hg3_11 => by simp only [ev_tmp, ev_const, ev_func, set_get, Nat.reduceEqDiff, reduceIte, qv_nilCheck, e0, e1, hp.cell, hp'.cell, hg3_11, Bool.false_eq_true, Bool.true_eq_false, eq_self, if_true, if_false, true_and, and_true, false_and, and_false]; rfl) ?_
    refine LD.cq rfl rfl (gd_at (t := 23) rfl (by simp only [ev_tmp, ev_const, ev_func, set_get, Nat.reduceEqDiff, reduceIte, e0, e1, hp.cell, hp'.cell]; rfl)) (fun hg3_12 => by simp only [ev_tmp, ev_const, ev_func, set_get, Nat.reduceEqDiff, reduceIte, qv_fieldAddr, fa62_1, Nat.zero_add, Nat.reduceAdd, e0, e1, hp.cell, hp'.cell, hg3_12, Bool.false_eq_true, Bool.true_eq_false, eq_self, if_true, if_false, true_and, and_true, false_and, and_false]; rfl) ?_
    refine LD.cq rfl rfl (gd_at (t := 23) rfl (by simp only [ev_tmp, ev_const, ev_func, set_get, Nat.reduceEqDiff, reduceIte, e0, e1, hp.cell, hp'.cell]; rfl)) (fun hg3_13 => by simp only [ev_tmp, ev_const, ev_func, set_get, Nat.reduceEqDiff, reduceIte, qv_load, ld22, readN, List.getElem?_toArray, List.getElem?_cons_zero, List.getElem?_cons_succ, List.map_toArray, List.map_cons, List.map_nil, Option.map_some, Option.bind_some, Nat.zero_add, Nat.reduceAdd, e0, e1, hp.cell, hp'.cell, hg3_13, Bool.false_eq_true, Bool.true_eq_false, eq_self, if_true, if_false, true_and, and_true, false_and, and_false]; rfl) ?_
    refine LD.cq rfl rfl (gd_at (t := 23) rfl (by simp only [ev_tmp, ev_const, ev_func, set_get, Nat.reduceEqDiff, reduceIte, e0, e1, hp.cell, hp'.cell]; rfl)) (fun hg3_14 => by simp only [ev_tmp, ev_const, ev_func, set_get, Nat.reduceEqDiff, reduceIte, qv_move, e0, e1, hp.cell, hp'.cell, hg3_14, Bool.false_eq_true, Bool.true_eq_false, eq_self, if_true, if_false, true_and, and_true, false_and, and_false]; rfl) ?_
    refine LD.cq rfl rfl (gd_at (t := 23) rfl (by simp only [ev_tmp, ev_const, ev_func, set_get, Nat.reduceEqDiff, reduceIte, e0, e1, hp.cell, hp'.cell]; rfl)) (fun hg3_15 => by simp only [ev_tmp, ev_const, ev_func, set_get, Nat.reduceEqDiff, reduceIte, qv_nilCheck, e0, e1, hp.cell, hp'.cell, hg3_15, Bool.false_eq_true, Bool.true_eq_false, eq_self, if_true, if_false, true_and, and_true, false_and, and_false]; rfl) ?_
    refine LD.cq rfl rfl (gd_at (t := 23) rfl (by simp only [ev_tmp, ev_const, ev_func, set_get, Nat.reduceEqDiff, reduceIte, e0, e1, hp.cell, hp'.cell]; rfl)) (fun hg3_16 => by simp only [ev_tmp, ev_const, ev_func, set_get, Nat.reduceEqDiff, reduceIte, qv_fieldAddr, fa62_1, Nat.zero_add, Nat.reduceAdd, e0, e1, hp.cell, hp'.cell, hg3_16, Bool.false_eq_true, Bool.true_eq_false, eq_self, if_true, if_false, true_and, and_true, false_and, and_false]; rfl) ?_
    refine LD.cq rfl rfl (gd_at (t := 23) rfl (by simp only [ev_tmp, ev_const, ev_func, set_get, Nat.reduceEqDiff, reduceIte, e0, e1, hp.cell, hp'.cell]; rfl)) (fun hg3_17 => by simp only [ev_tmp, ev_const, ev_func, set_get, Nat.reduceEqDiff, reduceIte, qv_load, ld22, readN, List.getElem?_toArray, List.getElem?_cons_zero, List.getElem?_cons_succ, List.map_toArray, List.map_cons, List.map_nil, Option.map_some, Option.bind_some, Nat.zero_add, Nat.reduceAdd, e0, e1, hp.cell, hp'.cell, hg3_17, Bool.false_eq_true, Bool.true_eq_false, eq_self, if_true, if_false, true_and, and_true, false_and, and_false]; rfl) ?_
    refine LD.cck rfl rfl (gd_at (t := 23) rfl (by simp only [ev_tmp, ev_const, ev_func, set_get, Nat.reduceEqDiff, reduceIte, e0, e1, hp.cell, hp'.cell]; rfl)) Try.call55 (fun hg3_18 => by intro hh hr; obtain rfl : hh = _ := hr; simp only [ev_tmp, ev_const, ev_func, set_get, Nat.reduceEqDiff, reduceIte, List.getElem?_toArray, List.getElem?_cons_zero, List.getElem?_cons_succ, List.map_toArray, List.map_cons, List.map_nil, Option.map_some, Option.bind_some, e0, e1, hp.cell, hp'.cell, hg3_18, Bool.false_eq_true, Bool.true_eq_false, eq_self, if_true, if_false, true_and, and_true, false_and, and_false]; exact c_slEqual a a' c c' hs hs' hsm hsl hsl') ?_
    refine LD.qq rfl rfl (by simp only [ev_tmp, ev_const, ev_func, set_get, Nat.reduceEqDiff, reduceIte, qv_pick, pk_and, pk_or, Bool.false_eq_true, Bool.true_eq_false, eq_self, if_true, if_false, true_and, and_true, false_and, and_false, e0, e1, hp.cell, hp'.cell]; rfl) ?_
    refine LD.qq rfl rfl (by simp only [ev_tmp, ev_const, ev_func, set_get, Nat.reduceEqDiff, reduceIte, qv_assign, e0, e1, hp.cell, hp'.cell]; rfl) ?_
    refine LD.nil ?_
    rintro _ rfl -
    refine WL.nil ?_
    refine th_norm ?_
    refine hx_ret ?_
    refine fin_ret [.tmp 4] rfl rfl (by simp only [ev_tmp, ev_const, ev_func, set_get, Nat.reduceEqDiff, reduceIte, resv, e0, e1, hp.cell, hp'.cell]; rfl) ?_  -- ret 0 r3
    exact ⟨by cases eqW wk wk' <;> simp [retOf], rfl⟩
theorem wk_mem (wk : List Int) (d : Int) : d ∈ wkList wk 7 ↔ (0 ≤ d ∧ d < 7) ∧ wk.contains d = true := by
  unfold wkList
  simp only [List.mem_filter, List.mem_map, List.mem_range]
  constructor
  · rintro ⟨⟨i, hi, rfl⟩, h⟩; exact ⟨⟨by omega, by omega⟩, h⟩
  · rintro ⟨⟨h1, h2⟩, h⟩; exact ⟨⟨d.toNat, by omega, by omega⟩, h⟩
theorem wk_eq (wk wk' : List Int) : eqW wk wk' = decide (wkList wk 7 = wkList wk' 7) := by
  rw [Bool.eq_iff_iff, decide_eq_true_eq]
  constructor
  · intro h
    simp only [eqW, Bool.and_eq_true, beq_iff_eq] at h
    obtain ⟨h0, h1, h2, h3, h4, h5, h6, -⟩ := h
    unfold wkList
    refine List.filter_congr fun d hd => ?_
    rw [List.mem_map] at hd
    obtain ⟨i, hi, rfl⟩ := hd
    rw [List.mem_range] at hi
    have : i = 0 ∨ i = 1 ∨ i = 2 ∨ i = 3 ∨ i = 4 ∨ i = 5 ∨ i = 6 := by omega
    rcases this with rfl | rfl | rfl | rfl | rfl | rfl | rfl <;> assumption
  · intro h
    have hc : ∀ d : Int, 0 ≤ d → d < 7 → wk.contains d = wk'.contains d := by
      intro d h0 h1
      rw [Bool.eq_iff_iff]
      have e1 := wk_mem wk d
      have e2 := wk_mem wk' d
      rw [h] at e1
      constructor
      · intro hh; exact (e2.1 (e1.2 ⟨⟨h0, h1⟩, hh⟩)).2
      · intro hh; exact (e1.1 (e2.2 ⟨⟨h0, h1⟩, hh⟩)).2
    simp only [eqW, Bool.and_eq_true, beq_iff_eq]
    exact ⟨hc 0 (by omega) (by omega), hc 1 (by omega) (by omega), hc 2 (by omega) (by omega), hc 3 (by omega) (by omega), hc 4 (by omega) (by omega), hc 5 (by omega) (by omega), hc 6 (by omega) (by omega), trivial⟩
theorem c_eqc (p p' : Nat) {wk wk' hol hol' : List Int} (hz : newM wk hol = 0) (hz' : newM wk' hol' = 0) {h : Heap} (hc : IsCal h p wk (srt hol)) (hd : IsCal h p' wk' (srt hol')) :
    HCalls Try.prog 35 #[.pointer (some ⟨p, 0, none⟩), .pointer (some ⟨p', 0, none⟩)] h (Pure (.bool (decide (srt wk = srt wk') && decide (srt hol = srt hol'))) h) := by
  have := c_equal p p' wk wk' (srt hol) (srt hol') hc hd
  obtain ⟨q1, q2, _⟩ := newM_zero hz
  obtain ⟨q3, q4, _⟩ := newM_zero hz'
  rwa [wk_eq, wk_srt q1 q2, wk_srt q3 q4] at this
theorem wk_len {wk hol : List Int} (hz : newM wk hol = 0) : wk.length ≤ 7 := by
  obtain ⟨q1, q2, _⟩ := newM_zero hz
  rw [← srt_len, ← wk_srt q1 q2]
  exact wkList_len wk 7
set_option maxHeartbeats 4000000 in
theorem l_equalNil (wk hol wk' hol' : List Int) (a b a' b' : Option Addr) (c d c' d' : Nat) (m n : Int) {h : Heap} (hw : SlI h a wk) (ho : SlI h b hol) (hw' : SlI h a' wk') (ho' : SlI h b' hol')
    (lw : wk.length ≤ 9223372036854775807) (lw' : wk'.length ≤ 9223372036854775807) :
    HCalls Try.prog 11 #[.agg #[.slice a wk.length c, .slice b hol.length d], .agg #[.slice a' wk'.length c', .slice b' hol'.length d'], .int .i64 m, .int .i64 n] h (Grow (.bool true) h) := by
  refine hcalls2 Try.func11 rfl (by decide +kernel) (by simp only [Try.ntmps11]; exact of_decide_eq_true rfl) ?_
  intro e hin
  have e0 := hin 0 _ rfl
  have e1 := hin 1 _ rfl
  have e2 := hin 2 _ rfl
  have e3 := hin 3 _ rfl
  refine hx_seq ?_
  refine hx_region ?_
  refine WL.box2 (by simp only [ev_tmp, ev_const, ev_func, set_get, Nat.reduceEqDiff, reduceIte, Value.cells, e0, e1, e2, e3]; rfl) ?_
  intro h1 B1 hx1 hlt1 hB1
  replace hw := hw.ext hx1
  replace ho := ho.ext hx1
  replace hw' := hw'.ext hx1
  replace ho' := ho'.ext hx1
  refine WL.box2 (by simp only [ev_tmp, ev_const, ev_func, set_get, Nat.reduceEqDiff, reduceIte, Value.cells, e0, e1, e2, e3, hB1.cell]; rfl) ?_
  intro h2 B2 hx2 hlt2 hB2
  replace hw := hw.ext hx2
  replace ho := ho.ext hx2
  replace hw' := hw'.ext hx2
  replace ho' := ho'.ext hx2
  replace hB1 := hB1.ext hx2
  refine WL.qq (by simp only [ev_tmp, ev_const, ev_func, set_get, Nat.reduceEqDiff, reduceIte, qv_assign, e0, e1, e2, e3, hB1.cell, hB2.cell]; rfl) ?_
  refine WL.nil ?_
  refine th_norm ?_
  refine hx_seq ?_
  refine hx_seq ?_
  refine hx_region ?_
  refine WL.cg Try.call12 (by simp only [ev_tmp, ev_const, ev_func, set_get, Nat.reduceEqDiff, reduceIte, List.getElem?_toArray, List.getElem?_cons_zero, List.getElem?_cons_succ, List.map_toArray, List.map_cons, List.map_nil, Option.map_some, Option.bind_some, e0, e1, e2, e3, hB1.cell, hB2.cell]; exact c_known _) ?_
  intro h3 hx3
  replace hw := hw.ext hx3
  replace ho := ho.ext hx3
  replace hw' := hw'.ext hx3
  replace ho' := ho'.ext hx3
  replace hB1 := hB1.ext hx3
  replace hB2 := hB2.ext hx3
  refine WL.qq (by simp only [ev_tmp, ev_const, ev_func, set_get, Nat.reduceEqDiff, reduceIte, qv_unOp, unv_not, e0, e1, e2, e3, hB1.cell, hB2.cell]; rfl) ?_
  refine WL.qq (by simp only [ev_tmp, ev_const, ev_func, set_get, Nat.reduceEqDiff, reduceIte, qv_move, e0, e1, e2, e3, hB1.cell, hB2.cell]; rfl) ?_
  refine WL.cq (gd_at (t := 29) rfl (by simp only [ev_tmp, ev_const, ev_func, set_get, Nat.reduceEqDiff, reduceIte, e0, e1, e2, e3, hB1.cell, hB2.cell]; rfl)) (fun hg1_3 => by simp only [ev_tmp, ev_const, ev_func, set_get, Nat.reduceEqDiff, reduceIte, qv_fieldAddr, fa24_1, Nat.zero_add, Nat.reduceAdd, e0, e1, e2, e3, hB1.cell, hB2.cell, hg1_3, Bool.false_eq_true, Bool.true_eq_false, eq_self, if_true, if_false, true_and, and_true, false_and, and_false]; rfl) ?_
  refine WL.cq (gd_at (t := 29) rfl (by simp only [ev_tmp, ev_const, ev_func, set_get, Nat.reduceEqDiff, reduceIte, e0, e1, e2, e3, hB1.cell, hB2.cell]; rfl)) (fun hg1_4 => by simp only [ev_tmp, ev_const, ev_func, set_get, Nat.reduceEqDiff, reduceIte, qv_load, ld22, readN, List.getElem?_toArray, List.getElem?_cons_zero, List.getElem?_cons_succ, List.map_toArray, List.map_cons, List.map_nil, Option.map_some, Option.bind_some, Nat.zero_add, Nat.reduceAdd, e0, e1, e2, e3, hB1.cell, hB2.cell, hg1_4, Bool.false_eq_true, Bool.true_eq_false, eq_self, if_true, if_false, true_and, and_true, false_and, and_false]; rfl) ?_
  refine WL.cq (gd_at (t := 29) rfl (by simp only [ev_tmp, ev_const, ev_func, set_get, Nat.reduceEqDiff, reduceIte, e0, e1, e2, e3, hB1.cell, hB2.cell]; rfl)) (fun hg1_5 => by simp only [ev_tmp, ev_const, ev_func, set_get, Nat.reduceEqDiff, reduceIte, qv_len, ln22, List.getElem?_toArray, List.getElem?_cons_zero, List.getElem?_cons_succ, List.map_toArray, List.map_cons, List.map_nil, Option.map_some, Option.bind_some, e0, e1, e2, e3, hB1.cell, hB2.cell, hg1_5, Bool.false_eq_true, Bool.true_eq_false, eq_self, if_true, if_false, true_and, and_true, false_and, and_false]; rfl) ?_
  refine WL.cq (gd_at (t := 29) rfl (by simp only [ev_tmp, ev_const, ev_func, set_get, Nat.reduceEqDiff, reduceIte, e0, e1, e2, e3, hB1.cell, hB2.cell]; rfl)) (fun hg1_6 => by simp only [ev_tmp, ev_const, ev_func, set_get, Nat.reduceEqDiff, reduceIte, qv_binOp, binv_gtr, e0, e1, e2, e3, hB1.cell, hB2.cell, hg1_6, Bool.false_eq_true, Bool.true_eq_false, eq_self, if_true, if_false, true_and, and_true, false_and, and_false]; rfl) ?_
  refine WL.qq (by simp only [ev_tmp, ev_const, ev_func, set_get, Nat.reduceEqDiff, reduceIte, qv_pick, pk_and, pk_or, Bool.false_eq_true, Bool.true_eq_false, eq_self, if_true, if_false, true_and, and_true, false_and, and_false, e0, e1, e2, e3, hB1.cell, hB2.cell]; rfl) ?_
  refine WL.qq (by simp only [ev_tmp, ev_const, ev_func, set_get, Nat.reduceEqDiff, reduceIte, qv_move, e0, e1, e2, e3, hB1.cell, hB2.cell]; rfl) ?_
  refine WL.cq (gd_at (t := 35) rfl (by simp only [ev_tmp, ev_const, ev_func, set_get, Nat.reduceEqDiff, reduceIte, e0, e1, e2, e3, hB1.cell, hB2.cell]; rfl)) (fun hg1_9 => by simp only [ev_tmp, ev_const, ev_func, set_get, Nat.reduceEqDiff, reduceIte, qv_fieldAddr, fa24_1, Nat.zero_add, Nat.reduceAdd, e0, e1, e2, e3, hB1.cell, hB2.cell, hg1_9, Bool.false_eq_true, Bool.true_eq_false, eq_self, if_true, if_false, true_and, and_true, false_and, and_false]; rfl) ?_
  refine WL.cq (gd_at (t := 35) rfl (by simp only [ev_tmp, ev_const, ev_func, set_get, Nat.reduceEqDiff, reduceIte, e0, e1, e2, e3, hB1.cell, hB2.cell]; rfl)) (fun hg1_10 => by simp only [ev_tmp, ev_const, ev_func, set_get, Nat.reduceEqDiff, reduceIte, qv_load, ld22, readN, List.getElem?_toArray, List.getElem?_cons_zero, List.getElem?_cons_succ, List.map_toArray, List.map_cons, List.map_nil, Option.map_some, Option.bind_some, Nat.zero_add, Nat.reduceAdd, e0, e1, e2, e3, hB1.cell, hB2.cell, hg1_10, Bool.false_eq_true, Bool.true_eq_false, eq_self, if_true, if_false, true_and, and_true, false_and, and_false]; rfl) ?_
  refine WL.cq (gd_at (t := 35) rfl (by simp only [ev_tmp, ev_const, ev_func, set_get, Nat.reduceEqDiff, reduceIte, e0, e1, e2, e3, hB1.cell, hB2.cell]; rfl)) (fun hg1_11 => by simp only [ev_tmp, ev_const, ev_func, set_get, Nat.reduceEqDiff, reduceIte, qv_len, ln22, List.getElem?_toArray, List.getElem?_cons_zero, List.getElem?_cons_succ, List.map_toArray, List.map_cons, List.map_nil, Option.map_some, Option.bind_some, e0, e1, e2, e3, hB1.cell, hB2.cell, hg1_11, Bool.false_eq_true, Bool.true_eq_false, eq_self, if_true, if_false, true_and, and_true, false_and, and_false]; rfl) ?_
  refine WL.cq (gd_at (t := 35) rfl (by simp only [ev_tmp, ev_const, ev_func, set_get, Nat.reduceEqDiff, reduceIte, e0, e1, e2, e3, hB1.cell, hB2.cell]; rfl)) (fun hg1_12 => by simp only [ev_tmp, ev_const, ev_func, set_get, Nat.reduceEqDiff, reduceIte, qv_binOp, binv_gtr, e0, e1, e2, e3, hB1.cell, hB2.cell, hg1_12, Bool.false_eq_true, Bool.true_eq_false, eq_self, if_true, if_false, true_and, and_true, false_and, and_false]; rfl) ?_
  refine WL.qq (by simp only [ev_tmp, ev_const, ev_func, set_get, Nat.reduceEqDiff, reduceIte, qv_pick, pk_and, pk_or, Bool.false_eq_true, Bool.true_eq_false, eq_self, if_true, if_false, true_and, and_true, false_and, and_false, e0, e1, e2, e3, hB1.cell, hB2.cell]; rfl) ?_
  refine WL.nil ?_
  refine th_norm ?_
  refine hx_cond (by simp only [ev_tmp, ev_const, ev_func, set_get, Nat.reduceEqDiff, reduceIte, e0, e1, e2, e3, hB1.cell, hB2.cell]; rfl) (fun hct40 => ?_) (fun hct40 => ?_)
  ·
    try simp only [decide_eq_true_eq, decide_eq_false_iff_not, Bool.and_eq_true, Bool.and_eq_false_iff, Bool.or_eq_true, Bool.or_eq_false_iff, Bool.not_eq_true', Bool.not_eq_false', Bool.not_eq_true, Bool.not_eq_false] at hct40
    refine hx_seq ?_
    refine hx_region ?_
    refine WL.cg Try.call12 (by simp only [ev_tmp, ev_const, ev_func, set_get, Nat.reduceEqDiff, reduceIte, List.getElem?_toArray, List.getElem?_cons_zero, List.getElem?_cons_succ, List.map_toArray, List.map_cons, List.map_nil, Option.map_some, Option.bind_some, e0, e1, e2, e3, hB1.cell, hB2.cell]; exact c_known _) ?_
    intro h4 hx4
    replace hw := hw.ext hx4
    replace ho := ho.ext hx4
    replace hw' := hw'.ext hx4
    replace ho' := ho'.ext hx4
    replace hB1 := hB1.ext hx4
    replace hB2 := hB2.ext hx4
    refine WL.qq (by simp only [ev_tmp, ev_const, ev_func, set_get, Nat.reduceEqDiff, reduceIte, qv_assign, e0, e1, e2, e3, hB1.cell, hB2.cell]; rfl) ?_
    refine WL.nil ?_
    refine th_norm ?_
    refine hx_ret ?_
    refine th_ret ?_
    refine fin_ret [.tmp 8] rfl rfl (by simp only [ev_tmp, ev_const, ev_func, set_get, Nat.reduceEqDiff, reduceIte, resv, e0, e1, e2, e3, hB1.cell, hB2.cell]; rfl) ?_  -- ret 0 r2
    exact ⟨rfl, ((hx1).trans ((hx2).trans ((hx3).trans (hx4))))⟩
  ·
    try simp only [decide_eq_true_eq, decide_eq_false_iff_not, Bool.and_eq_true, Bool.and_eq_false_iff, Bool.or_eq_true, Bool.or_eq_false_iff, Bool.not_eq_true', Bool.not_eq_false', Bool.not_eq_true, Bool.not_eq_false] at hct40
    refine hx_skip ?_
    refine th_norm ?_
    refine hx_seq ?_
    refine hx_region ?_
    refine WL.qq (by simp only [ev_tmp, ev_const, ev_func, set_get, Nat.reduceEqDiff, reduceIte, qv_assign, e0, e1, e2, e3, hB1.cell, hB2.cell]; rfl) ?_
    refine WL.nil ?_
    refine th_norm ?_
    refine hx_seq ?_
    refine hx_region ?_
    refine WL.qq (by simp only [ev_tmp, ev_const, ev_func, set_get, Nat.reduceEqDiff, reduceIte, qv_move, e0, e1, e2, e3, hB1.cell, hB2.cell]; rfl) ?_
    refine WL.qq (by simp only [ev_tmp, ev_const, ev_func, set_get, Nat.reduceEqDiff, reduceIte, qv_move, e0, e1, e2, e3, hB1.cell, hB2.cell]; rfl) ?_
    refine WL.cg Try.call17 (by simp only [ev_tmp, ev_const, ev_func, set_get, Nat.reduceEqDiff, reduceIte, List.getElem?_toArray, List.getElem?_cons_zero, List.getElem?_cons_succ, List.map_toArray, List.map_cons, List.map_nil, Option.map_some, Option.bind_some, e0, e1, e2, e3, hB1.cell, hB2.cell]; exact n_next _ _) ?_
    intro h5 hx5
    replace hw := hw.ext hx5
    replace ho := ho.ext hx5
    replace hw' := hw'.ext hx5
    replace ho' := ho'.ext hx5
    replace hB1 := hB1.ext hx5
    replace hB2 := hB2.ext hx5
    refine WL.qq (by simp only [ev_tmp, ev_const, ev_func, set_get, Nat.reduceEqDiff, reduceIte, qv_move, e0, e1, e2, e3, hB1.cell, hB2.cell]; rfl) ?_
    refine WL.qq (by simp only [ev_tmp, ev_const, ev_func, set_get, Nat.reduceEqDiff, reduceIte, qv_extract, List.getElem?_toArray, List.getElem?_cons_zero, List.getElem?_cons_succ, List.map_toArray, List.map_cons, List.map_nil, Option.map_some, Option.bind_some, e0, e1, e2, e3, hB1.cell, hB2.cell]; rfl) ?_
    refine WL.qq (by simp only [ev_tmp, ev_const, ev_func, set_get, Nat.reduceEqDiff, reduceIte, qv_extract, List.getElem?_toArray, List.getElem?_cons_zero, List.getElem?_cons_succ, List.map_toArray, List.map_cons, List.map_nil, Option.map_some, Option.bind_some, e0, e1, e2, e3, hB1.cell, hB2.cell]; rfl) ?_
    refine WL.qq (by simp only [ev_tmp, ev_const, ev_func, set_get, Nat.reduceEqDiff, reduceIte, qv_assign, e0, e1, e2, e3, hB1.cell, hB2.cell]; rfl) ?_
    refine WL.qq (by simp only [ev_tmp, ev_const, ev_func, set_get, Nat.reduceEqDiff, reduceIte, qv_assign, e0, e1, e2, e3, hB1.cell, hB2.cell]; rfl) ?_
    refine WL.nil ?_
    refine th_norm ?_
    refine hx_seq ?_
    refine hx_region ?_
    refine WL.qq (by simp only [ev_tmp, ev_const, ev_func, set_get, Nat.reduceEqDiff, reduceIte, qv_move, e0, e1, e2, e3, hB1.cell, hB2.cell]; rfl) ?_
    refine WL.qq (by simp only [ev_tmp, ev_const, ev_func, set_get, Nat.reduceEqDiff, reduceIte, qv_move, e0, e1, e2, e3, hB1.cell, hB2.cell]; rfl) ?_
    refine WL.cg Try.call19 (by simp only [ev_tmp, ev_const, ev_func, set_get, Nat.reduceEqDiff, reduceIte, List.getElem?_toArray, List.getElem?_cons_zero, List.getElem?_cons_succ, List.map_toArray, List.map_cons, List.map_nil, Option.map_some, Option.bind_some, e0, e1, e2, e3, hB1.cell, hB2.cell]; exact n_previous _ _) ?_
    intro h6 hx6
    replace hw := hw.ext hx6
    replace ho := ho.ext hx6
    replace hw' := hw'.ext hx6
    replace ho' := ho'.ext hx6
    replace hB1 := hB1.ext hx6
    replace hB2 := hB2.ext hx6
    refine WL.qq (by simp only [ev_tmp, ev_const, ev_func, set_get, Nat.reduceEqDiff, reduceIte, qv_move, e0, e1, e2, e3, hB1.cell, hB2.cell]; rfl) ?_
    refine WL.qq (by simp only [ev_tmp, ev_const, ev_func, set_get, Nat.reduceEqDiff, reduceIte, qv_extract, List.getElem?_toArray, List.getElem?_cons_zero, List.getElem?_cons_succ, List.map_toArray, List.map_cons, List.map_nil, Option.map_some, Option.bind_some, e0, e1, e2, e3, hB1.cell, hB2.cell]; rfl) ?_
    refine WL.qq (by simp only [ev_tmp, ev_const, ev_func, set_get, Nat.reduceEqDiff, reduceIte, qv_extract, List.getElem?_toArray, List.getElem?_cons_zero, List.getElem?_cons_succ, List.map_toArray, List.map_cons, List.map_nil, Option.map_some, Option.bind_some, e0, e1, e2, e3, hB1.cell, hB2.cell]; rfl) ?_
    refine WL.qq (by simp only [ev_tmp, ev_const, ev_func, set_get, Nat.reduceEqDiff, reduceIte, qv_assign, e0, e1, e2, e3, hB1.cell, hB2.cell]; rfl) ?_
    refine WL.qq (by simp only [ev_tmp, ev_const, ev_func, set_get, Nat.reduceEqDiff, reduceIte, qv_assign, e0, e1, e2, e3, hB1.cell, hB2.cell]; rfl) ?_
    refine WL.nil ?_
    refine th_norm ?_
    refine hx_seq ?_
    refine hx_region ?_
    refine WL.qq (by simp only [ev_tmp, ev_const, ev_func, set_get, Nat.reduceEqDiff, reduceIte, qv_move, e0, e1, e2, e3, hB1.cell, hB2.cell]; rfl) ?_
    refine WL.qq (by simp only [ev_tmp, ev_const, ev_func, set_get, Nat.reduceEqDiff, reduceIte, qv_move, e0, e1, e2, e3, hB1.cell, hB2.cell]; rfl) ?_
    refine WL.qq (by simp only [ev_tmp, ev_const, ev_func, set_get, Nat.reduceEqDiff, reduceIte, qv_move, e0, e1, e2, e3, hB1.cell, hB2.cell]; rfl) ?_
    refine WL.cg Try.call30 (by simp only [ev_tmp, ev_const, ev_func, set_get, Nat.reduceEqDiff, reduceIte, List.getElem?_toArray, List.getElem?_cons_zero, List.getElem?_cons_succ, List.map_toArray, List.map_cons, List.map_nil, Option.map_some, Option.bind_some, e0, e1, e2, e3, hB1.cell, hB2.cell]; exact n_adjust _ _ _) ?_
    intro h7 hx7
    replace hw := hw.ext hx7
    replace ho := ho.ext hx7
    replace hw' := hw'.ext hx7
    replace ho' := ho'.ext hx7
    replace hB1 := hB1.ext hx7
    replace hB2 := hB2.ext hx7
    refine WL.qq (by simp only [ev_tmp, ev_const, ev_func, set_get, Nat.reduceEqDiff, reduceIte, qv_move, e0, e1, e2, e3, hB1.cell, hB2.cell]; rfl) ?_
    refine WL.qq (by simp only [ev_tmp, ev_const, ev_func, set_get, Nat.reduceEqDiff, reduceIte, qv_extract, List.getElem?_toArray, List.getElem?_cons_zero, List.getElem?_cons_succ, List.map_toArray, List.map_cons, List.map_nil, Option.map_some, Option.bind_some, e0, e1, e2, e3, hB1.cell, hB2.cell]; rfl) ?_
    refine WL.qq (by simp only [ev_tmp, ev_const, ev_func, set_get, Nat.reduceEqDiff, reduceIte, qv_extract, List.getElem?_toArray, List.getElem?_cons_zero, List.getElem?_cons_succ, List.map_toArray, List.map_cons, List.map_nil, Option.map_some, Option.bind_some, e0, e1, e2, e3, hB1.cell, hB2.cell]; rfl) ?_
    refine WL.qq (by simp only [ev_tmp, ev_const, ev_func, set_get, Nat.reduceEqDiff, reduceIte, qv_assign, e0, e1, e2, e3, hB1.cell, hB2.cell]; rfl) ?_
    refine WL.qq (by simp only [ev_tmp, ev_const, ev_func, set_get, Nat.reduceEqDiff, reduceIte, qv_assign, e0, e1, e2, e3, hB1.cell, hB2.cell]; rfl) ?_
    refine WL.nil ?_
    refine th_norm ?_
    refine hx_seq ?_
    refine hx_region ?_
    refine WL.qq (by simp only [ev_tmp, ev_const, ev_func, set_get, Nat.reduceEqDiff, reduceIte, qv_move, e0, e1, e2, e3, hB1.cell, hB2.cell]; rfl) ?_
    refine WL.qq (by simp only [ev_tmp, ev_const, ev_func, set_get, Nat.reduceEqDiff, reduceIte, qv_move, e0, e1, e2, e3, hB1.cell, hB2.cell]; rfl) ?_
    refine WL.qq (by simp only [ev_tmp, ev_const, ev_func, set_get, Nat.reduceEqDiff, reduceIte, qv_move, e0, e1, e2, e3, hB1.cell, hB2.cell]; rfl) ?_
    refine WL.cg Try.call15 (by simp only [ev_tmp, ev_const, ev_func, set_get, Nat.reduceEqDiff, reduceIte, List.getElem?_toArray, List.getElem?_cons_zero, List.getElem?_cons_succ, List.map_toArray, List.map_cons, List.map_nil, Option.map_some, Option.bind_some, e0, e1, e2, e3, hB1.cell, hB2.cell]; exact n_addBusiness _ _ _) ?_
    intro h8 hx8
    replace hw := hw.ext hx8
    replace ho := ho.ext hx8
    replace hw' := hw'.ext hx8
    replace ho' := ho'.ext hx8
    replace hB1 := hB1.ext hx8
    replace hB2 := hB2.ext hx8
    refine WL.qq (by simp only [ev_tmp, ev_const, ev_func, set_get, Nat.reduceEqDiff, reduceIte, qv_move, e0, e1, e2, e3, hB1.cell, hB2.cell]; rfl) ?_
    refine WL.qq (by simp only [ev_tmp, ev_const, ev_func, set_get, Nat.reduceEqDiff, reduceIte, qv_extract, List.getElem?_toArray, List.getElem?_cons_zero, List.getElem?_cons_succ, List.map_toArray, List.map_cons, List.map_nil, Option.map_some, Option.bind_some, e0, e1, e2, e3, hB1.cell, hB2.cell]; rfl) ?_
    refine WL.qq (by simp only [ev_tmp, ev_const, ev_func, set_get, Nat.reduceEqDiff, reduceIte, qv_extract, List.getElem?_toArray, List.getElem?_cons_zero, List.getElem?_cons_succ, List.map_toArray, List.map_cons, List.map_nil, Option.map_some, Option.bind_some, e0, e1, e2, e3, hB1.cell, hB2.cell]; rfl) ?_
    refine WL.qq (by simp only [ev_tmp, ev_const, ev_func, set_get, Nat.reduceEqDiff, reduceIte, qv_assign, e0, e1, e2, e3, hB1.cell, hB2.cell]; rfl) ?_
    refine WL.qq (by simp only [ev_tmp, ev_const, ev_func, set_get, Nat.reduceEqDiff, reduceIte, qv_assign, e0, e1, e2, e3, hB1.cell, hB2.cell]; rfl) ?_
    refine WL.nil ?_
    refine th_norm ?_
    refine hx_seq ?_
    refine hx_region ?_
    refine WL.qq (by simp only [ev_tmp, ev_const, ev_func, set_get, Nat.reduceEqDiff, reduceIte, qv_move, e0, e1, e2, e3, hB1.cell, hB2.cell]; rfl) ?_
    refine WL.qq (by simp only [ev_tmp, ev_const, ev_func, set_get, Nat.reduceEqDiff, reduceIte, qv_move, e0, e1, e2, e3, hB1.cell, hB2.cell]; rfl) ?_
    refine WL.qq (by simp only [ev_tmp, ev_const, ev_func, set_get, Nat.reduceEqDiff, reduceIte, qv_move, e0, e1, e2, e3, hB1.cell, hB2.cell]; rfl) ?_
    refine WL.cg Try.call21 (by simp only [ev_tmp, ev_const, ev_func, set_get, Nat.reduceEqDiff, reduceIte, List.getElem?_toArray, List.getElem?_cons_zero, List.getElem?_cons_succ, List.map_toArray, List.map_cons, List.map_nil, Option.map_some, Option.bind_some, e0, e1, e2, e3, hB1.cell, hB2.cell]; exact n_between _ _ _) ?_
    intro h9 hx9
    replace hw := hw.ext hx9
    replace ho := ho.ext hx9
    replace hw' := hw'.ext hx9
    replace ho' := ho'.ext hx9
    replace hB1 := hB1.ext hx9
    replace hB2 := hB2.ext hx9
    refine WL.qq (by simp only [ev_tmp, ev_const, ev_func, set_get, Nat.reduceEqDiff, reduceIte, qv_move, e0, e1, e2, e3, hB1.cell, hB2.cell]; rfl) ?_
    refine WL.qq (by simp only [ev_tmp, ev_const, ev_func, set_get, Nat.reduceEqDiff, reduceIte, qv_extract, List.getElem?_toArray, List.getElem?_cons_zero, List.getElem?_cons_succ, List.map_toArray, List.map_cons, List.map_nil, Option.map_some, Option.bind_some, e0, e1, e2, e3, hB1.cell, hB2.cell]; rfl) ?_
    refine WL.qq (by simp only [ev_tmp, ev_const, ev_func, set_get, Nat.reduceEqDiff, reduceIte, qv_extract, List.getElem?_toArray, List.getElem?_cons_zero, List.getElem?_cons_succ, List.map_toArray, List.map_cons, List.map_nil, Option.map_some, Option.bind_some, e0, e1, e2, e3, hB1.cell, hB2.cell]; rfl) ?_
    refine WL.qq (by simp only [ev_tmp, ev_const, ev_func, set_get, Nat.reduceEqDiff, reduceIte, qv_assign, e0, e1, e2, e3, hB1.cell, hB2.cell]; rfl) ?_
    refine WL.qq (by simp only [ev_tmp, ev_const, ev_func, set_get, Nat.reduceEqDiff, reduceIte, qv_assign, e0, e1, e2, e3, hB1.cell, hB2.cell]; rfl) ?_
    refine WL.nil ?_
    refine th_norm ?_
    refine hx_seq ?_
    refine hx_region ?_
    refine WL.qq (by simp only [ev_tmp, ev_const, ev_func, set_get, Nat.reduceEqDiff, reduceIte, qv_move, e0, e1, e2, e3, hB1.cell, hB2.cell]; rfl) ?_
    refine WL.qq (by simp only [ev_tmp, ev_const, ev_func, set_get, Nat.reduceEqDiff, reduceIte, qv_move, e0, e1, e2, e3, hB1.cell, hB2.cell]; rfl) ?_
    refine WL.cg Try.call33 (by simp only [ev_tmp, ev_const, ev_func, set_get, Nat.reduceEqDiff, reduceIte, List.getElem?_toArray, List.getElem?_cons_zero, List.getElem?_cons_succ, List.map_toArray, List.map_cons, List.map_nil, Option.map_some, Option.bind_some, e0, e1, e2, e3, hB1.cell, hB2.cell]; exact n_last _ _) ?_
    intro h10 hx10
    replace hw := hw.ext hx10
    replace ho := ho.ext hx10
    replace hw' := hw'.ext hx10
    replace ho' := ho'.ext hx10
    replace hB1 := hB1.ext hx10
    replace hB2 := hB2.ext hx10
    refine WL.qq (by simp only [ev_tmp, ev_const, ev_func, set_get, Nat.reduceEqDiff, reduceIte, qv_move, e0, e1, e2, e3, hB1.cell, hB2.cell]; rfl) ?_
    refine WL.qq (by simp only [ev_tmp, ev_const, ev_func, set_get, Nat.reduceEqDiff, reduceIte, qv_extract, List.getElem?_toArray, List.getElem?_cons_zero, List.getElem?_cons_succ, List.map_toArray, List.map_cons, List.map_nil, Option.map_some, Option.bind_some, e0, e1, e2, e3, hB1.cell, hB2.cell]; rfl) ?_
    refine WL.qq (by simp only [ev_tmp, ev_const, ev_func, set_get, Nat.reduceEqDiff, reduceIte, qv_extract, List.getElem?_toArray, List.getElem?_cons_zero, List.getElem?_cons_succ, List.map_toArray, List.map_cons, List.map_nil, Option.map_some, Option.bind_some, e0, e1, e2, e3, hB1.cell, hB2.cell]; rfl) ?_
    refine WL.qq (by simp only [ev_tmp, ev_const, ev_func, set_get, Nat.reduceEqDiff, reduceIte, qv_assign, e0, e1, e2, e3, hB1.cell, hB2.cell]; rfl) ?_
    refine WL.qq (by simp only [ev_tmp, ev_const, ev_func, set_get, Nat.reduceEqDiff, reduceIte, qv_assign, e0, e1, e2, e3, hB1.cell, hB2.cell]; rfl) ?_
    refine WL.nil ?_
    refine th_norm ?_
    refine hx_seq ?_
    refine hx_seq ?_
    refine hx_fresh (fun eF10 hfcf10 => ?_)
    have k2_f10 := hfcf10 2 rfl; simp only [ev_tmp, ev_const, ev_func, set_get, Nat.reduceEqDiff, reduceIte, e0, e1, e2, e3, hB1.cell, hB2.cell] at k2_f10
    have k4_f10 := hfcf10 4 rfl; simp only [ev_tmp, ev_const, ev_func, set_get, Nat.reduceEqDiff, reduceIte, e0, e1, e2, e3, hB1.cell, hB2.cell] at k4_f10
    have k5_f10 := hfcf10 5 rfl; simp only [ev_tmp, ev_const, ev_func, set_get, Nat.reduceEqDiff, reduceIte, e0, e1, e2, e3, hB1.cell, hB2.cell] at k5_f10
    have k8_f10 := hfcf10 8 rfl; simp only [ev_tmp, ev_const, ev_func, set_get, Nat.reduceEqDiff, reduceIte, e0, e1, e2, e3, hB1.cell, hB2.cell] at k8_f10
    have k9_f10 := hfcf10 9 rfl; simp only [ev_tmp, ev_const, ev_func, set_get, Nat.reduceEqDiff, reduceIte, e0, e1, e2, e3, hB1.cell, hB2.cell] at k9_f10
    have k11_f10 := hfcf10 11 rfl; simp only [ev_tmp, ev_const, ev_func, set_get, Nat.reduceEqDiff, reduceIte, e0, e1, e2, e3, hB1.cell, hB2.cell] at k11_f10
    have k13_f10 := hfcf10 13 rfl; simp only [ev_tmp, ev_const, ev_func, set_get, Nat.reduceEqDiff, reduceIte, e0, e1, e2, e3, hB1.cell, hB2.cell] at k13_f10
    have k15_f10 := hfcf10 15 rfl; simp only [ev_tmp, ev_const, ev_func, set_get, Nat.reduceEqDiff, reduceIte, e0, e1, e2, e3, hB1.cell, hB2.cell] at k15_f10
    have k17_f10 := hfcf10 17 rfl; simp only [ev_tmp, ev_const, ev_func, set_get, Nat.reduceEqDiff, reduceIte, e0, e1, e2, e3, hB1.cell, hB2.cell] at k17_f10
    have k19_f10 := hfcf10 19 rfl; simp only [ev_tmp, ev_const, ev_func, set_get, Nat.reduceEqDiff, reduceIte, e0, e1, e2, e3, hB1.cell, hB2.cell] at k19_f10
    have k21_f10 := hfcf10 21 rfl; simp only [ev_tmp, ev_const, ev_func, set_get, Nat.reduceEqDiff, reduceIte, e0, e1, e2, e3, hB1.cell, hB2.cell] at k21_f10
    refine hx_region ?_
    refine WL.qq (by simp only [ev_tmp, ev_const, ev_func, set_get, Nat.reduceEqDiff, reduceIte, qv_move, k2_f10, k4_f10, k5_f10, k8_f10, k9_f10, k11_f10, k13_f10, k15_f10, k17_f10, k19_f10, k21_f10, hB1.cell, hB2.cell]; rfl) ?_
    refine WL.qq (by simp only [ev_tmp, ev_const, ev_func, set_get, Nat.reduceEqDiff, reduceIte, qv_binOp, binv_neq, eq28, Option.map_some, k2_f10, k4_f10, k5_f10, k8_f10, k9_f10, k11_f10, k13_f10, k15_f10, k17_f10, k19_f10, k21_f10, hB1.cell, hB2.cell]; rfl) ?_
    refine WL.qq (by simp only [ev_tmp, ev_const, ev_func, set_get, Nat.reduceEqDiff, reduceIte, qv_move, k2_f10, k4_f10, k5_f10, k8_f10, k9_f10, k11_f10, k13_f10, k15_f10, k17_f10, k19_f10, k21_f10, hB1.cell, hB2.cell]; rfl) ?_
    refine WL.cq (gd_at (t := 83) rfl (by simp only [ev_tmp, ev_const, ev_func, set_get, Nat.reduceEqDiff, reduceIte, k2_f10, k4_f10, k5_f10, k8_f10, k9_f10, k11_f10, k13_f10, k15_f10, k17_f10, k19_f10, k21_f10, hB1.cell, hB2.cell]; rfl)) (fun hg10_3 => by simp only [ev_tmp, ev_const, ev_func, set_get, Nat.reduceEqDiff, reduceIte, qv_move, k2_f10, k4_f10, k5_f10, k8_f10, k9_f10, k11_f10, k13_f10, k15_f10, k17_f10, k19_f10, k21_f10, hB1.cell, hB2.cell, hg10_3, Bool.false_eq_true, Bool.true_eq_false, eq_self, if_true, if_false, true_and, and_true, false_and, and_false]; rfl) ?_
    refine WL.cq (gd_at (t := 83) rfl (by simp only [ev_tmp, ev_const, ev_func, set_get, Nat.reduceEqDiff, reduceIte, k2_f10, k4_f10, k5_f10, k8_f10, k9_f10, k11_f10, k13_f10, k15_f10, k17_f10, k19_f10, k21_f10, hB1.cell, hB2.cell]; rfl)) (fun hg10_4 => by simp only [ev_tmp, ev_const, ev_func, set_get, Nat.reduceEqDiff, reduceIte, qv_binOp, binv_neq, eq28, Option.map_some, k2_f10, k4_f10, k5_f10, k8_f10, k9_f10, k11_f10, k13_f10, k15_f10, k17_f10, k19_f10, k21_f10, hB1.cell, hB2.cell, hg10_4, Bool.false_eq_true, Bool.true_eq_false, eq_self, if_true, if_false, true_and, and_true, false_and, and_false]; rfl) ?_
    refine WL.qq (by simp only [ev_tmp, ev_const, ev_func, set_get, Nat.reduceEqDiff, reduceIte, qv_pick, pk_and, pk_or, Bool.false_eq_true, Bool.true_eq_false, eq_self, if_true, if_false, true_and, and_true, false_and, and_false, k2_f10, k4_f10, k5_f10, k8_f10, k9_f10, k11_f10, k13_f10, k15_f10, k17_f10, k19_f10, k21_f10, hB1.cell, hB2.cell]; rfl) ?_
    refine WL.qq (by simp only [ev_tmp, ev_const, ev_func, set_get, Nat.reduceEqDiff, reduceIte, qv_move, k2_f10, k4_f10, k5_f10, k8_f10, k9_f10, k11_f10, k13_f10, k15_f10, k17_f10, k19_f10, k21_f10, hB1.cell, hB2.cell]; rfl) ?_
    refine WL.cq (gd_at (t := 87) rfl (by simp only [ev_tmp, ev_const, ev_func, set_get, Nat.reduceEqDiff, reduceIte, k2_f10, k4_f10, k5_f10, k8_f10, k9_f10, k11_f10, k13_f10, k15_f10, k17_f10, k19_f10, k21_f10, hB1.cell, hB2.cell]; rfl)) (fun hg10_7 => by simp only [ev_tmp, ev_const, ev_func, set_get, Nat.reduceEqDiff, reduceIte, qv_move, k2_f10, k4_f10, k5_f10, k8_f10, k9_f10, k11_f10, k13_f10, k15_f10, k17_f10, k19_f10, k21_f10, hB1.cell, hB2.cell, hg10_7, Bool.false_eq_true, Bool.true_eq_false, eq_self, if_true, if_false, true_and, and_true, false_and, and_false]; rfl) ?_
    refine WL.cq (gd_at (t := 87) rfl (by simp only [ev_tmp, ev_const, ev_func, set_get, Nat.reduceEqDiff, reduceIte, k2_f10, k4_f10, k5_f10, k8_f10, k9_f10, k11_f10, k13_f10, k15_f10, k17_f10, k19_f10, k21_f10, hB1.cell, hB2.cell]; rfl)) (fun hg10_8 => by simp only [ev_tmp, ev_const, ev_func, set_get, Nat.reduceEqDiff, reduceIte, qv_binOp, binv_neq, eq28, Option.map_some, k2_f10, k4_f10, k5_f10, k8_f10, k9_f10, k11_f10, k13_f10, k15_f10, k17_f10, k19_f10, k21_f10, hB1.cell, hB2.cell, hg10_8, Bool.false_eq_true, Bool.true_eq_false, eq_self, if_true, if_false, true_and, and_true, false_and, and_false]; rfl) ?_
    refine WL.qq (by simp only [ev_tmp, ev_const, ev_func, set_get, Nat.reduceEqDiff, reduceIte, qv_pick, pk_and, pk_or, Bool.false_eq_true, Bool.true_eq_false, eq_self, if_true, if_false, true_and, and_true, false_and, and_false, k2_f10, k4_f10, k5_f10, k8_f10, k9_f10, k11_f10, k13_f10, k15_f10, k17_f10, k19_f10, k21_f10, hB1.cell, hB2.cell]; rfl) ?_
    refine WL.qq (by simp only [ev_tmp, ev_const, ev_func, set_get, Nat.reduceEqDiff, reduceIte, qv_move, k2_f10, k4_f10, k5_f10, k8_f10, k9_f10, k11_f10, k13_f10, k15_f10, k17_f10, k19_f10, k21_f10, hB1.cell, hB2.cell]; rfl) ?_
    refine WL.cq (gd_at (t := 91) rfl (by simp only [ev_tmp, ev_const, ev_func, set_get, Nat.reduceEqDiff, reduceIte, k2_f10, k4_f10, k5_f10, k8_f10, k9_f10, k11_f10, k13_f10, k15_f10, k17_f10, k19_f10, k21_f10, hB1.cell, hB2.cell]; rfl)) (fun hg10_11 => by simp only [ev_tmp, ev_const, ev_func, set_get, Nat.reduceEqDiff, reduceIte, qv_move, k2_f10, k4_f10, k5_f10, k8_f10, k9_f10, k11_f10, k13_f10, k15_f10, k17_f10, k19_f10, k21_f10, hB1.cell, hB2.cell, hg10_11, Bool.false_eq_true, Bool.true_eq_false, eq_self, if_true, if_false, true_and, and_true, false_and, and_false]; rfl) ?_
    refine WL.cq (gd_at (t := 91) rfl (by simp only [ev_tmp, ev_const, ev_func, set_get, Nat.reduceEqDiff, reduceIte, k2_f10, k4_f10, k5_f10, k8_f10, k9_f10, k11_f10, k13_f10, k15_f10, k17_f10, k19_f10, k21_f10, hB1.cell, hB2.cell]; rfl)) (fun hg10_12 => by simp only [ev_tmp, ev_const, ev_func, set_get, Nat.reduceEqDiff, reduceIte, qv_binOp, binv_neq, eq28, Option.map_some, k2_f10, k4_f10, k5_f10, k8_f10, k9_f10, k11_f10, k13_f10, k15_f10, k17_f10, k19_f10, k21_f10, hB1.cell, hB2.cell, hg10_12, Bool.false_eq_true, Bool.true_eq_false, eq_self, if_true, if_false, true_and, and_true, false_and, and_false]; rfl) ?_
    refine WL.qq (by simp only [ev_tmp, ev_const, ev_func, set_get, Nat.reduceEqDiff, reduceIte, qv_pick, pk_and, pk_or, Bool.false_eq_true, Bool.true_eq_false, eq_self, if_true, if_false, true_and, and_true, false_and, and_false, k2_f10, k4_f10, k5_f10, k8_f10, k9_f10, k11_f10, k13_f10, k15_f10, k17_f10, k19_f10, k21_f10, hB1.cell, hB2.cell]; rfl) ?_
    refine WL.qq (by simp only [ev_tmp, ev_const, ev_func, set_get, Nat.reduceEqDiff, reduceIte, qv_move, k2_f10, k4_f10, k5_f10, k8_f10, k9_f10, k11_f10, k13_f10, k15_f10, k17_f10, k19_f10, k21_f10, hB1.cell, hB2.cell]; rfl) ?_
    refine WL.cq (gd_at (t := 95) rfl (by simp only [ev_tmp, ev_const, ev_func, set_get, Nat.reduceEqDiff, reduceIte, k2_f10, k4_f10, k5_f10, k8_f10, k9_f10, k11_f10, k13_f10, k15_f10, k17_f10, k19_f10, k21_f10, hB1.cell, hB2.cell]; rfl)) (fun hg10_15 => by simp only [ev_tmp, ev_const, ev_func, set_get, Nat.reduceEqDiff, reduceIte, qv_move, k2_f10, k4_f10, k5_f10, k8_f10, k9_f10, k11_f10, k13_f10, k15_f10, k17_f10, k19_f10, k21_f10, hB1.cell, hB2.cell, hg10_15, Bool.false_eq_true, Bool.true_eq_false, eq_self, if_true, if_false, true_and, and_true, false_and, and_false]; rfl) ?_
    refine WL.cq (gd_at (t := 95) rfl (by simp only [ev_tmp, ev_const, ev_func, set_get, Nat.reduceEqDiff, reduceIte, k2_f10, k4_f10, k5_f10, k8_f10, k9_f10, k11_f10, k13_f10, k15_f10, k17_f10, k19_f10, k21_f10, hB1.cell, hB2.cell]; rfl)) (fun hg10_16 => by simp only [ev_tmp, ev_const, ev_func, set_get, Nat.reduceEqDiff, reduceIte, qv_binOp, binv_neq, eq28, Option.map_some, k2_f10, k4_f10, k5_f10, k8_f10, k9_f10, k11_f10, k13_f10, k15_f10, k17_f10, k19_f10, k21_f10, hB1.cell, hB2.cell, hg10_16, Bool.false_eq_true, Bool.true_eq_false, eq_self, if_true, if_false, true_and, and_true, false_and, and_false]; rfl) ?_
    refine WL.qq (by simp only [ev_tmp, ev_const, ev_func, set_get, Nat.reduceEqDiff, reduceIte, qv_pick, pk_and, pk_or, Bool.false_eq_true, Bool.true_eq_false, eq_self, if_true, if_false, true_and, and_true, false_and, and_false, k2_f10, k4_f10, k5_f10, k8_f10, k9_f10, k11_f10, k13_f10, k15_f10, k17_f10, k19_f10, k21_f10, hB1.cell, hB2.cell]; rfl) ?_
    refine WL.qq (by simp only [ev_tmp, ev_const, ev_func, set_get, Nat.reduceEqDiff, reduceIte, qv_move, k2_f10, k4_f10, k5_f10, k8_f10, k9_f10, k11_f10, k13_f10, k15_f10, k17_f10, k19_f10, k21_f10, hB1.cell, hB2.cell]; rfl) ?_
    refine WL.cq (gd_at (t := 99) rfl (by simp only [ev_tmp, ev_const, ev_func, set_get, Nat.reduceEqDiff, reduceIte, k2_f10, k4_f10, k5_f10, k8_f10, k9_f10, k11_f10, k13_f10, k15_f10, k17_f10, k19_f10, k21_f10, hB1.cell, hB2.cell]; rfl)) (fun hg10_19 => by simp only [ev_tmp, ev_const, ev_func, set_get, Nat.reduceEqDiff, reduceIte, qv_move, k2_f10, k4_f10, k5_f10, k8_f10, k9_f10, k11_f10, k13_f10, k15_f10, k17_f10, k19_f10, k21_f10, hB1.cell, hB2.cell, hg10_19, Bool.false_eq_true, Bool.true_eq_false, eq_self, if_true, if_false, true_and, and_true, false_and, and_false]; rfl) ?_
    refine WL.cq (gd_at (t := 99) rfl (by simp only [ev_tmp, ev_const, ev_func, set_get, Nat.reduceEqDiff, reduceIte, k2_f10, k4_f10, k5_f10, k8_f10, k9_f10, k11_f10, k13_f10, k15_f10, k17_f10, k19_f10, k21_f10, hB1.cell, hB2.cell]; rfl)) (fun hg10_20 => by simp only [ev_tmp, ev_const, ev_func, set_get, Nat.reduceEqDiff, reduceIte, qv_binOp, binv_neq, eq28, Option.map_some, k2_f10, k4_f10, k5_f10, k8_f10, k9_f10, k11_f10, k13_f10, k15_f10, k17_f10, k19_f10, k21_f10, hB1.cell, hB2.cell, hg10_20, Bool.false_eq_true, Bool.true_eq_false, eq_self, if_true, if_false, true_and, and_true, false_and, and_false]; rfl) ?_
    refine WL.qq (by simp only [ev_tmp, ev_const, ev_func, set_get, Nat.reduceEqDiff, reduceIte, qv_pick, pk_and, pk_or, Bool.false_eq_true, Bool.true_eq_false, eq_self, if_true, if_false, true_and, and_true, false_and, and_false, k2_f10, k4_f10, k5_f10, k8_f10, k9_f10, k11_f10, k13_f10, k15_f10, k17_f10, k19_f10, k21_f10, hB1.cell, hB2.cell]; rfl) ?_
    refine WL.qq (by simp only [ev_tmp, ev_const, ev_func, set_get, Nat.reduceEqDiff, reduceIte, qv_move, k2_f10, k4_f10, k5_f10, k8_f10, k9_f10, k11_f10, k13_f10, k15_f10, k17_f10, k19_f10, k21_f10, hB1.cell, hB2.cell]; rfl) ?_
    refine WL.cq (gd_at (t := 103) rfl (by simp only [ev_tmp, ev_const, ev_func, set_get, Nat.reduceEqDiff, reduceIte, k2_f10, k4_f10, k5_f10, k8_f10, k9_f10, k11_f10, k13_f10, k15_f10, k17_f10, k19_f10, k21_f10, hB1.cell, hB2.cell]; rfl)) (fun hg10_23 => by simp only [ev_tmp, ev_const, ev_func, set_get, Nat.reduceEqDiff, reduceIte, qv_move, k2_f10, k4_f10, k5_f10, k8_f10, k9_f10, k11_f10, k13_f10, k15_f10, k17_f10, k19_f10, k21_f10, hB1.cell, hB2.cell, hg10_23, Bool.false_eq_true, Bool.true_eq_false, eq_self, if_true, if_false, true_and, and_true, false_and, and_false]; rfl) ?_
    refine WL.cq (gd_at (t := 103) rfl (by simp only [ev_tmp, ev_const, ev_func, set_get, Nat.reduceEqDiff, reduceIte, k2_f10, k4_f10, k5_f10, k8_f10, k9_f10, k11_f10, k13_f10, k15_f10, k17_f10, k19_f10, k21_f10, hB1.cell, hB2.cell]; rfl)) (fun hg10_24 => by simp only [ev_tmp, ev_const, ev_func, set_get, Nat.reduceEqDiff, reduceIte, qv_move, k2_f10, k4_f10, k5_f10, k8_f10, k9_f10, k11_f10, k13_f10, k15_f10, k17_f10, k19_f10, k21_f10, hB1.cell, hB2.cell, hg10_24, Bool.false_eq_true, Bool.true_eq_false, eq_self, if_true, if_false, true_and, and_true, false_and, and_false]; rfl) ?_
    refine WL.cck (gd_at (t := 103) rfl (by simp only [ev_tmp, ev_const, ev_func, set_get, Nat.reduceEqDiff, reduceIte, k2_f10, k4_f10, k5_f10, k8_f10, k9_f10, k11_f10, k13_f10, k15_f10, k17_f10, k19_f10, k21_f10, hB1.cell, hB2.cell]; rfl)) Try.call20 (fun hg10_25 => by simp only [ev_tmp, ev_const, ev_func, set_get, Nat.reduceEqDiff, reduceIte, List.getElem?_toArray, List.getElem?_cons_zero, List.getElem?_cons_succ, List.map_toArray, List.map_cons, List.map_nil, Option.map_some, Option.bind_some, k2_f10, k4_f10, k5_f10, k8_f10, k9_f10, k11_f10, k13_f10, k15_f10, k17_f10, k19_f10, k21_f10, hB1.cell, hB2.cell, hg10_25, Bool.false_eq_true, Bool.true_eq_false, eq_self, if_true, if_false, true_and, and_true, false_and, and_false]; exact n_isBusiness _ _) ?_
    refine WL.qq (by simp only [ev_tmp, ev_const, ev_func, set_get, Nat.reduceEqDiff, reduceIte, qv_pick, pk_and, pk_or, Bool.false_eq_true, Bool.true_eq_false, eq_self, if_true, if_false, true_and, and_true, false_and, and_false, k2_f10, k4_f10, k5_f10, k8_f10, k9_f10, k11_f10, k13_f10, k15_f10, k17_f10, k19_f10, k21_f10, hB1.cell, hB2.cell]; rfl) ?_
    refine WL.qq (by simp only [ev_tmp, ev_const, ev_func, set_get, Nat.reduceEqDiff, reduceIte, qv_move, k2_f10, k4_f10, k5_f10, k8_f10, k9_f10, k11_f10, k13_f10, k15_f10, k17_f10, k19_f10, k21_f10, hB1.cell, hB2.cell]; rfl) ?_
    refine WL.cq (gd_at (t := 108) rfl (by simp only [ev_tmp, ev_const, ev_func, set_get, Nat.reduceEqDiff, reduceIte, k2_f10, k4_f10, k5_f10, k8_f10, k9_f10, k11_f10, k13_f10, k15_f10, k17_f10, k19_f10, k21_f10, hB1.cell, hB2.cell]; rfl)) (fun hg10_28 => by simp only [ev_tmp, ev_const, ev_func, set_get, Nat.reduceEqDiff, reduceIte, qv_move, k2_f10, k4_f10, k5_f10, k8_f10, k9_f10, k11_f10, k13_f10, k15_f10, k17_f10, k19_f10, k21_f10, hB1.cell, hB2.cell, hg10_28, Bool.false_eq_true, Bool.true_eq_false, eq_self, if_true, if_false, true_and, and_true, false_and, and_false]; rfl) ?_
    refine WL.cck (gd_at (t := 108) rfl (by simp only [ev_tmp, ev_const, ev_func, set_get, Nat.reduceEqDiff, reduceIte, k2_f10, k4_f10, k5_f10, k8_f10, k9_f10, k11_f10, k13_f10, k15_f10, k17_f10, k19_f10, k21_f10, hB1.cell, hB2.cell]; rfl)) Try.call26 (fun hg10_29 => by simp only [ev_tmp, ev_const, ev_func, set_get, Nat.reduceEqDiff, reduceIte, List.getElem?_toArray, List.getElem?_cons_zero, List.getElem?_cons_succ, List.map_toArray, List.map_cons, List.map_nil, Option.map_some, Option.bind_some, k2_f10, k4_f10, k5_f10, k8_f10, k9_f10, k11_f10, k13_f10, k15_f10, k17_f10, k19_f10, k21_f10, hB1.cell, hB2.cell, hg10_29, Bool.false_eq_true, Bool.true_eq_false, eq_self, if_true, if_false, true_and, and_true, false_and, and_false]; exact n_holidays _) ?_
    refine WL.cq (gd_at (t := 108) rfl (by simp only [ev_tmp, ev_const, ev_func, set_get, Nat.reduceEqDiff, reduceIte, k2_f10, k4_f10, k5_f10, k8_f10, k9_f10, k11_f10, k13_f10, k15_f10, k17_f10, k19_f10, k21_f10, hB1.cell, hB2.cell]; rfl)) (fun hg10_30 => by simp only [ev_tmp, ev_const, ev_func, set_get, Nat.reduceEqDiff, reduceIte, qv_len, ln22, List.getElem?_toArray, List.getElem?_cons_zero, List.getElem?_cons_succ, List.map_toArray, List.map_cons, List.map_nil, Option.map_some, Option.bind_some, k2_f10, k4_f10, k5_f10, k8_f10, k9_f10, k11_f10, k13_f10, k15_f10, k17_f10, k19_f10, k21_f10, hB1.cell, hB2.cell, hg10_30, Bool.false_eq_true, Bool.true_eq_false, eq_self, if_true, if_false, true_and, and_true, false_and, and_false]; rfl) ?_
    refine WL.cq (gd_at (t := 108) rfl (by simp only [ev_tmp, ev_const, ev_func, set_get, Nat.reduceEqDiff, reduceIte, k2_f10, k4_f10, k5_f10, k8_f10, k9_f10, k11_f10, k13_f10, k15_f10, k17_f10, k19_f10, k21_f10, hB1.cell, hB2.cell]; rfl)) (fun hg10_31 => by simp only [ev_tmp, ev_const, ev_func, set_get, Nat.reduceEqDiff, reduceIte, qv_binOp, binv_neq, eq3, Option.map_some, k2_f10, k4_f10, k5_f10, k8_f10, k9_f10, k11_f10, k13_f10, k15_f10, k17_f10, k19_f10, k21_f10, hB1.cell, hB2.cell, hg10_31, Bool.false_eq_true, Bool.true_eq_false, eq_self, if_true, if_false, true_and, and_true, false_and, and_false]; rfl) ?_
    refine WL.qq (by simp only [ev_tmp, ev_const, ev_func, set_get, Nat.reduceEqDiff, reduceIte, qv_pick, pk_and, pk_or, Bool.false_eq_true, Bool.true_eq_false, eq_self, if_true, if_false, true_and, and_true, false_and, and_false, k2_f10, k4_f10, k5_f10, k8_f10, k9_f10, k11_f10, k13_f10, k15_f10, k17_f10, k19_f10, k21_f10, hB1.cell, hB2.cell]; rfl) ?_
    refine WL.qq (by simp only [ev_tmp, ev_const, ev_func, set_get, Nat.reduceEqDiff, reduceIte, qv_move, k2_f10, k4_f10, k5_f10, k8_f10, k9_f10, k11_f10, k13_f10, k15_f10, k17_f10, k19_f10, k21_f10, hB1.cell, hB2.cell]; rfl) ?_
    refine WL.cq (gd_at (t := 114) rfl (by simp only [ev_tmp, ev_const, ev_func, set_get, Nat.reduceEqDiff, reduceIte, k2_f10, k4_f10, k5_f10, k8_f10, k9_f10, k11_f10, k13_f10, k15_f10, k17_f10, k19_f10, k21_f10, hB1.cell, hB2.cell]; rfl)) (fun hg10_34 => by simp only [ev_tmp, ev_const, ev_func, set_get, Nat.reduceEqDiff, reduceIte, qv_move, k2_f10, k4_f10, k5_f10, k8_f10, k9_f10, k11_f10, k13_f10, k15_f10, k17_f10, k19_f10, k21_f10, hB1.cell, hB2.cell, hg10_34, Bool.false_eq_true, Bool.true_eq_false, eq_self, if_true, if_false, true_and, and_true, false_and, and_false]; rfl) ?_
    refine WL.cck (gd_at (t := 114) rfl (by simp only [ev_tmp, ev_const, ev_func, set_get, Nat.reduceEqDiff, reduceIte, k2_f10, k4_f10, k5_f10, k8_f10, k9_f10, k11_f10, k13_f10, k15_f10, k17_f10, k19_f10, k21_f10, hB1.cell, hB2.cell]; rfl)) Try.call24 (fun hg10_35 => by simp only [ev_tmp, ev_const, ev_func, set_get, Nat.reduceEqDiff, reduceIte, List.getElem?_toArray, List.getElem?_cons_zero, List.getElem?_cons_succ, List.map_toArray, List.map_cons, List.map_nil, Option.map_some, Option.bind_some, k2_f10, k4_f10, k5_f10, k8_f10, k9_f10, k11_f10, k13_f10, k15_f10, k17_f10, k19_f10, k21_f10, hB1.cell, hB2.cell, hg10_35, Bool.false_eq_true, Bool.true_eq_false, eq_self, if_true, if_false, true_and, and_true, false_and, and_false]; exact n_weekend _) ?_
    refine WL.cq (gd_at (t := 114) rfl (by simp only [ev_tmp, ev_const, ev_func, set_get, Nat.reduceEqDiff, reduceIte, k2_f10, k4_f10, k5_f10, k8_f10, k9_f10, k11_f10, k13_f10, k15_f10, k17_f10, k19_f10, k21_f10, hB1.cell, hB2.cell]; rfl)) (fun hg10_36 => by simp only [ev_tmp, ev_const, ev_func, set_get, Nat.reduceEqDiff, reduceIte, qv_len, ln22, List.getElem?_toArray, List.getElem?_cons_zero, List.getElem?_cons_succ, List.map_toArray, List.map_cons, List.map_nil, Option.map_some, Option.bind_some, k2_f10, k4_f10, k5_f10, k8_f10, k9_f10, k11_f10, k13_f10, k15_f10, k17_f10, k19_f10, k21_f10, hB1.cell, hB2.cell, hg10_36, Bool.false_eq_true, Bool.true_eq_false, eq_self, if_true, if_false, true_and, and_true, false_and, and_false]; rfl) ?_
    refine WL.cq (gd_at (t := 114) rfl (by simp only [ev_tmp, ev_const, ev_func, set_get, Nat.reduceEqDiff, reduceIte, k2_f10, k4_f10, k5_f10, k8_f10, k9_f10, k11_f10, k13_f10, k15_f10, k17_f10, k19_f10, k21_f10, hB1.cell, hB2.cell]; rfl)) (fun hg10_37 => by simp only [ev_tmp, ev_const, ev_func, set_get, Nat.reduceEqDiff, reduceIte, qv_binOp, binv_neq, eq3, Option.map_some, k2_f10, k4_f10, k5_f10, k8_f10, k9_f10, k11_f10, k13_f10, k15_f10, k17_f10, k19_f10, k21_f10, hB1.cell, hB2.cell, hg10_37, Bool.false_eq_true, Bool.true_eq_false, eq_self, if_true, if_false, true_and, and_true, false_and, and_false]; rfl) ?_
    refine WL.qq (by simp only [ev_tmp, ev_const, ev_func, set_get, Nat.reduceEqDiff, reduceIte, qv_pick, pk_and, pk_or, Bool.false_eq_true, Bool.true_eq_false, eq_self, if_true, if_false, true_and, and_true, false_and, and_false, k2_f10, k4_f10, k5_f10, k8_f10, k9_f10, k11_f10, k13_f10, k15_f10, k17_f10, k19_f10, k21_f10, hB1.cell, hB2.cell]; rfl) ?_
    refine WL.qq (by simp only [ev_tmp, ev_const, ev_func, set_get, Nat.reduceEqDiff, reduceIte, qv_move, k2_f10, k4_f10, k5_f10, k8_f10, k9_f10, k11_f10, k13_f10, k15_f10, k17_f10, k19_f10, k21_f10, hB1.cell, hB2.cell]; rfl) ?_
    refine WL.cq (gd_at (t := 120) rfl (by simp only [ev_tmp, ev_const, ev_func, set_get, Nat.reduceEqDiff, reduceIte, k2_f10, k4_f10, k5_f10, k8_f10, k9_f10, k11_f10, k13_f10, k15_f10, k17_f10, k19_f10, k21_f10, hB1.cell, hB2.cell]; rfl)) (fun hg10_40 => by simp only [ev_tmp, ev_const, ev_func, set_get, Nat.reduceEqDiff, reduceIte, qv_move, k2_f10, k4_f10, k5_f10, k8_f10, k9_f10, k11_f10, k13_f10, k15_f10, k17_f10, k19_f10, k21_f10, hB1.cell, hB2.cell, hg10_40, Bool.false_eq_true, Bool.true_eq_false, eq_self, if_true, if_false, true_and, and_true, false_and, and_false]; rfl) ?_
    refine WL.cck (gd_at (t := 120) rfl (by simp only [ev_tmp, ev_const, ev_func, set_get, Nat.reduceEqDiff, reduceIte, k2_f10, k4_f10, k5_f10, k8_f10, k9_f10, k11_f10, k13_f10, k15_f10, k17_f10, k19_f10, k21_f10, hB1.cell, hB2.cell]; rfl)) Try.call35 (fun hg10_41 => by simp only [ev_tmp, ev_const, ev_func, set_get, Nat.reduceEqDiff, reduceIte, List.getElem?_toArray, List.getElem?_cons_zero, List.getElem?_cons_succ, List.map_toArray, List.map_cons, List.map_nil, Option.map_some, Option.bind_some, k2_f10, k4_f10, k5_f10, k8_f10, k9_f10, k11_f10, k13_f10, k15_f10, k17_f10, k19_f10, k21_f10, hB1.cell, hB2.cell, hg10_41, Bool.false_eq_true, Bool.true_eq_false, eq_self, if_true, if_false, true_and, and_true, false_and, and_false]; exact n_equal _) ?_
    refine WL.cq (gd_at (t := 120) rfl (by simp only [ev_tmp, ev_const, ev_func, set_get, Nat.reduceEqDiff, reduceIte, k2_f10, k4_f10, k5_f10, k8_f10, k9_f10, k11_f10, k13_f10, k15_f10, k17_f10, k19_f10, k21_f10, hB1.cell, hB2.cell]; rfl)) (fun hg10_42 => by simp only [ev_tmp, ev_const, ev_func, set_get, Nat.reduceEqDiff, reduceIte, qv_unOp, unv_not, k2_f10, k4_f10, k5_f10, k8_f10, k9_f10, k11_f10, k13_f10, k15_f10, k17_f10, k19_f10, k21_f10, hB1.cell, hB2.cell, hg10_42, Bool.false_eq_true, Bool.true_eq_false, eq_self, if_true, if_false, true_and, and_true, false_and, and_false]; rfl) ?_
    refine WL.qq (by simp only [ev_tmp, ev_const, ev_func, set_get, Nat.reduceEqDiff, reduceIte, qv_pick, pk_and, pk_or, Bool.false_eq_true, Bool.true_eq_false, eq_self, if_true, if_false, true_and, and_true, false_and, and_false, k2_f10, k4_f10, k5_f10, k8_f10, k9_f10, k11_f10, k13_f10, k15_f10, k17_f10, k19_f10, k21_f10, hB1.cell, hB2.cell]; rfl) ?_
    refine WL.nil ?_
    refine th_norm ?_
    refine hx_cond (by simp only [ev_tmp, ev_const, ev_func, set_get, Nat.reduceEqDiff, reduceIte, k2_f10, k4_f10, k5_f10, k8_f10, k9_f10, k11_f10, k13_f10, k15_f10, k17_f10, k19_f10, k21_f10, hB1.cell, hB2.cell]; rfl) (fun hct124 => ?_) (fun hct124 => ?_)
    ·
      (simp at hct124)
    ·
      try simp only [decide_eq_true_eq, decide_eq_false_iff_not, Bool.and_eq_true, Bool.and_eq_false_iff, Bool.or_eq_true, Bool.or_eq_false_iff, Bool.not_eq_true', Bool.not_eq_false', Bool.not_eq_true, Bool.not_eq_false] at hct124
      refine hx_skip ?_
      refine th_norm ?_
      refine hx_seq ?_
      refine hx_fresh (fun eF12 hfcf12 => ?_)
      have k4_f12 := hfcf12 4 rfl; simp only [ev_tmp, ev_const, ev_func, set_get, Nat.reduceEqDiff, reduceIte, k2_f10, k4_f10, k5_f10, k8_f10, k9_f10, k11_f10, k13_f10, k15_f10, k17_f10, k19_f10, k21_f10, hB1.cell, hB2.cell] at k4_f12
      have k5_f12 := hfcf12 5 rfl; simp only [ev_tmp, ev_const, ev_func, set_get, Nat.reduceEqDiff, reduceIte, k2_f10, k4_f10, k5_f10, k8_f10, k9_f10, k11_f10, k13_f10, k15_f10, k17_f10, k19_f10, k21_f10, hB1.cell, hB2.cell] at k5_f12
      have k8_f12 := hfcf12 8 rfl; simp only [ev_tmp, ev_const, ev_func, set_get, Nat.reduceEqDiff, reduceIte, k2_f10, k4_f10, k5_f10, k8_f10, k9_f10, k11_f10, k13_f10, k15_f10, k17_f10, k19_f10, k21_f10, hB1.cell, hB2.cell] at k8_f12
      have k9_f12 := hfcf12 9 rfl; simp only [ev_tmp, ev_const, ev_func, set_get, Nat.reduceEqDiff, reduceIte, k2_f10, k4_f10, k5_f10, k8_f10, k9_f10, k11_f10, k13_f10, k15_f10, k17_f10, k19_f10, k21_f10, hB1.cell, hB2.cell] at k9_f12
      refine hx_region ?_
      refine WL.qq (by simp only [ev_tmp, ev_const, ev_func, set_get, Nat.reduceEqDiff, reduceIte, qv_load, ld24, readN, List.getElem?_toArray, List.getElem?_cons_zero, List.getElem?_cons_succ, List.map_toArray, List.map_cons, List.map_nil, Option.map_some, Option.bind_some, Nat.zero_add, Nat.reduceAdd, k4_f12, k5_f12, k8_f12, k9_f12, hB1.cell, hB2.cell]; rfl) ?_
      refine WL.ce Try.call14 (by simp only [ev_tmp, ev_const, ev_func, set_get, Nat.reduceEqDiff, reduceIte, List.getElem?_toArray, List.getElem?_cons_zero, List.getElem?_cons_succ, List.map_toArray, List.map_cons, List.map_nil, Option.map_some, Option.bind_some, k4_f12, k5_f12, k8_f12, k9_f12, hB1.cell, hB2.cell]; exact c_of_any wk hol c d hw ho lw) ?_
      rintro _ h11 ⟨hx11, q, nn, rfl, hz, hq⟩
      replace hw := hw.ext hx11
      replace ho := ho.ext hx11
      replace hw' := hw'.ext hx11
      replace ho' := ho'.ext hx11
      replace hB1 := hB1.ext hx11
      replace hB2 := hB2.ext hx11
      simp only [put_some]
      refine WL.qq (by simp only [ev_tmp, ev_const, ev_func, set_get, Nat.reduceEqDiff, reduceIte, qv_move, k4_f12, k5_f12, k8_f12, k9_f12, hB1.cell, hB2.cell]; rfl) ?_
      refine WL.qq (by simp only [ev_tmp, ev_const, ev_func, set_get, Nat.reduceEqDiff, reduceIte, qv_extract, List.getElem?_toArray, List.getElem?_cons_zero, List.getElem?_cons_succ, List.map_toArray, List.map_cons, List.map_nil, Option.map_some, Option.bind_some, k4_f12, k5_f12, k8_f12, k9_f12, hB1.cell, hB2.cell]; rfl) ?_
      refine WL.qq (by simp only [ev_tmp, ev_const, ev_func, set_get, Nat.reduceEqDiff, reduceIte, qv_extract, List.getElem?_toArray, List.getElem?_cons_zero, List.getElem?_cons_succ, List.map_toArray, List.map_cons, List.map_nil, Option.map_some, Option.bind_some, k4_f12, k5_f12, k8_f12, k9_f12, hB1.cell, hB2.cell]; rfl) ?_
      refine WL.qq (by simp only [ev_tmp, ev_const, ev_func, set_get, Nat.reduceEqDiff, reduceIte, qv_assign, k4_f12, k5_f12, k8_f12, k9_f12, hB1.cell, hB2.cell]; rfl) ?_
      refine WL.qq (by simp only [ev_tmp, ev_const, ev_func, set_get, Nat.reduceEqDiff, reduceIte, qv_assign, k4_f12, k5_f12, k8_f12, k9_f12, hB1.cell, hB2.cell]; rfl) ?_
      refine WL.nil ?_
      refine th_norm ?_
      refine hx_seq ?_
      refine hx_region ?_
      refine WL.qq (by simp only [ev_tmp, ev_const, ev_func, set_get, Nat.reduceEqDiff, reduceIte, qv_load, ld24, readN, List.getElem?_toArray, List.getElem?_cons_zero, List.getElem?_cons_succ, List.map_toArray, List.map_cons, List.map_nil, Option.map_some, Option.bind_some, Nat.zero_add, Nat.reduceAdd, k4_f12, k5_f12, k8_f12, k9_f12, hB1.cell, hB2.cell]; rfl) ?_
      refine WL.ce Try.call14 (by simp only [ev_tmp, ev_const, ev_func, set_get, Nat.reduceEqDiff, reduceIte, List.getElem?_toArray, List.getElem?_cons_zero, List.getElem?_cons_succ, List.map_toArray, List.map_cons, List.map_nil, Option.map_some, Option.bind_some, k4_f12, k5_f12, k8_f12, k9_f12, hB1.cell, hB2.cell]; exact c_of_any wk' hol' c' d' hw' ho' lw') ?_
      rintro _ h12 ⟨hx12, q', nn', rfl, hz', hq'⟩
      replace hw := hw.ext hx12
      replace ho := ho.ext hx12
      replace hw' := hw'.ext hx12
      replace ho' := ho'.ext hx12
      replace hB1 := hB1.ext hx12
      replace hB2 := hB2.ext hx12
      replace hq := hq.ext hx12
      simp only [put_some]
      refine WL.qq (by simp only [ev_tmp, ev_const, ev_func, set_get, Nat.reduceEqDiff, reduceIte, qv_move, k4_f12, k5_f12, k8_f12, k9_f12, hB1.cell, hB2.cell]; rfl) ?_
      refine WL.qq (by simp only [ev_tmp, ev_const, ev_func, set_get, Nat.reduceEqDiff, reduceIte, qv_extract, List.getElem?_toArray, List.getElem?_cons_zero, List.getElem?_cons_succ, List.map_toArray, List.map_cons, List.map_nil, Option.map_some, Option.bind_some, k4_f12, k5_f12, k8_f12, k9_f12, hB1.cell, hB2.cell]; rfl) ?_
      refine WL.qq (by simp only [ev_tmp, ev_const, ev_func, set_get, Nat.reduceEqDiff, reduceIte, qv_extract, List.getElem?_toArray, List.getElem?_cons_zero, List.getElem?_cons_succ, List.map_toArray, List.map_cons, List.map_nil, Option.map_some, Option.bind_some, k4_f12, k5_f12, k8_f12, k9_f12, hB1.cell, hB2.cell]; rfl) ?_
      refine WL.qq (by simp only [ev_tmp, ev_const, ev_func, set_get, Nat.reduceEqDiff, reduceIte, qv_assign, k4_f12, k5_f12, k8_f12, k9_f12, hB1.cell, hB2.cell]; rfl) ?_
      refine WL.qq (by simp only [ev_tmp, ev_const, ev_func, set_get, Nat.reduceEqDiff, reduceIte, qv_assign, k4_f12, k5_f12, k8_f12, k9_f12, hB1.cell, hB2.cell]; rfl) ?_
      refine WL.nil ?_
      refine th_norm ?_
      refine hx_seq ?_
      refine hx_seq ?_
      refine hx_region ?_
      refine WL.qq (by simp only [ev_tmp, ev_const, ev_func, set_get, Nat.reduceEqDiff, reduceIte, qv_move, k4_f12, k5_f12, k8_f12, k9_f12, hB1.cell, hB2.cell]; rfl) ?_
      refine WL.qq (by simp only [ev_tmp, ev_const, ev_func, set_get, Nat.reduceEqDiff, reduceIte, qv_binOp, binv_neq, eq28, Option.map_some, k4_f12, k5_f12, k8_f12, k9_f12, hB1.cell, hB2.cell]; rfl) ?_
      refine WL.qq (by simp only [ev_tmp, ev_const, ev_func, set_get, Nat.reduceEqDiff, reduceIte, qv_move, k4_f12, k5_f12, k8_f12, k9_f12, hB1.cell, hB2.cell]; rfl) ?_
      refine WL.cq (gd_at (t := 137) rfl (by simp only [ev_tmp, ev_const, ev_func, set_get, Nat.reduceEqDiff, reduceIte, k4_f12, k5_f12, k8_f12, k9_f12, hB1.cell, hB2.cell]; rfl)) (fun hg14_3 => by simp only [ev_tmp, ev_const, ev_func, set_get, Nat.reduceEqDiff, reduceIte, qv_move, k4_f12, k5_f12, k8_f12, k9_f12, hB1.cell, hB2.cell, hg14_3, Bool.false_eq_true, Bool.true_eq_false, eq_self, if_true, if_false, true_and, and_true, false_and, and_false]; rfl) ?_
      refine WL.cq (gd_at (t := 137) rfl (by simp only [ev_tmp, ev_const, ev_func, set_get, Nat.reduceEqDiff, reduceIte, k4_f12, k5_f12, k8_f12, k9_f12, hB1.cell, hB2.cell]; rfl)) (fun hg14_4 => by simp only [ev_tmp, ev_const, ev_func, set_get, Nat.reduceEqDiff, reduceIte, qv_binOp, binv_neq, eq28, Option.map_some, k4_f12, k5_f12, k8_f12, k9_f12, hB1.cell, hB2.cell, hg14_4, Bool.false_eq_true, Bool.true_eq_false, eq_self, if_true, if_false, true_and, and_true, false_and, and_false]; rfl) ?_
      refine WL.qq (by simp only [ev_tmp, ev_const, ev_func, set_get, Nat.reduceEqDiff, reduceIte, qv_pick, pk_and, pk_or, Bool.false_eq_true, Bool.true_eq_false, eq_self, if_true, if_false, true_and, and_true, false_and, and_false, k4_f12, k5_f12, k8_f12, k9_f12, hB1.cell, hB2.cell]; rfl) ?_
      refine WL.nil ?_
      refine th_norm ?_
      refine hx_cond (by simp only [ev_tmp, ev_const, ev_func, set_get, Nat.reduceEqDiff, reduceIte, k4_f12, k5_f12, k8_f12, k9_f12, hB1.cell, hB2.cell]; rfl) (fun hct140 => ?_) (fun hct140 => ?_)
      ·
        try simp only [decide_eq_true_eq, decide_eq_false_iff_not, Bool.and_eq_true, Bool.and_eq_false_iff, Bool.or_eq_true, Bool.or_eq_false_iff, Bool.not_eq_true', Bool.not_eq_false', Bool.not_eq_true, Bool.not_eq_false] at hct140
        refine hx_seq ?_
        refine hx_region ?_
        refine WL.qq (by simp only [ev_tmp, ev_const, ev_func, set_get, Nat.reduceEqDiff, reduceIte, qv_assign, k4_f12, k5_f12, k8_f12, k9_f12, hB1.cell, hB2.cell]; rfl) ?_
        refine WL.nil ?_
        refine th_norm ?_
        refine hx_ret ?_
        refine th_ret ?_
        refine fin_ret [.tmp 8] rfl rfl (by simp only [ev_tmp, ev_const, ev_func, set_get, Nat.reduceEqDiff, reduceIte, resv, k4_f12, k5_f12, k8_f12, k9_f12, hB1.cell, hB2.cell]; rfl) ?_  -- ret 1 r15
        exact ⟨rfl, ((hx1).trans ((hx2).trans ((hx3).trans ((hx5).trans ((hx6).trans ((hx7).trans ((hx8).trans ((hx9).trans ((hx10).trans ((hx11).trans (hx12)))))))))))⟩
      ·
        try simp only [decide_eq_true_eq, decide_eq_false_iff_not, Bool.and_eq_true, Bool.and_eq_false_iff, Bool.or_eq_true, Bool.or_eq_false_iff, Bool.not_eq_true', Bool.not_eq_false', Bool.not_eq_true, Bool.not_eq_false] at hct140
        have hnn : nn = 0 ∧ nn' = 0 := (by omega)
        obtain ⟨rfl, rfl⟩ := hnn
        obtain ⟨p, rfl, hc⟩ := hq rfl
        obtain ⟨p', rfl, hc'⟩ := hq' rfl
        have hl := wk_len hz
        have hl' := wk_len hz'
        refine hx_skip ?_
        refine th_norm ?_
        refine hx_seq ?_
        refine hx_fresh (fun eF16 hfcf16 => ?_)
        have k4_f16 := hfcf16 4 rfl; simp only [ev_tmp, ev_const, ev_func, set_get, Nat.reduceEqDiff, reduceIte, k4_f12, k5_f12, k8_f12, k9_f12, hB1.cell, hB2.cell] at k4_f16
        have k5_f16 := hfcf16 5 rfl; simp only [ev_tmp, ev_const, ev_func, set_get, Nat.reduceEqDiff, reduceIte, k4_f12, k5_f12, k8_f12, k9_f12, hB1.cell, hB2.cell] at k5_f16
        have k8_f16 := hfcf16 8 rfl; simp only [ev_tmp, ev_const, ev_func, set_get, Nat.reduceEqDiff, reduceIte, k4_f12, k5_f12, k8_f12, k9_f12, hB1.cell, hB2.cell] at k8_f16
        have k9_f16 := hfcf16 9 rfl; simp only [ev_tmp, ev_const, ev_func, set_get, Nat.reduceEqDiff, reduceIte, k4_f12, k5_f12, k8_f12, k9_f12, hB1.cell, hB2.cell] at k9_f16
        have k22_f16 := hfcf16 22 rfl; simp only [ev_tmp, ev_const, ev_func, set_get, Nat.reduceEqDiff, reduceIte, k4_f12, k5_f12, k8_f12, k9_f12, hB1.cell, hB2.cell] at k22_f16
        have k24_f16 := hfcf16 24 rfl; simp only [ev_tmp, ev_const, ev_func, set_get, Nat.reduceEqDiff, reduceIte, k4_f12, k5_f12, k8_f12, k9_f12, hB1.cell, hB2.cell] at k24_f16
        apply hx_draw2 Rel.grows [] [2, 5, 6, 10, 13, 14] [(2, Spec.sl (srt wk)), (5, Spec.sl (srt wk')), (6, Spec.is _), (10, Spec.sl (srt hol)), (13, Spec.sl (srt hol')), (14, Spec.is _)] rfl (by decide +kernel) rfl
        refine LD.qq rfl rfl (by simp only [ev_tmp, ev_const, ev_func, set_get, Nat.reduceEqDiff, reduceIte, qv_fieldAddr, fa24_0, Nat.zero_add, Nat.reduceAdd, k4_f16, k5_f16, k8_f16, k9_f16, k22_f16, k24_f16, hB1.cell, hB2.cell]; rfl) ?_
        refine LD.qq rfl rfl (by simp only [ev_tmp, ev_const, ev_func, set_get, Nat.reduceEqDiff, reduceIte, qv_load, ld22, readN, List.getElem?_toArray, List.getElem?_cons_zero, List.getElem?_cons_succ, List.map_toArray, List.map_cons, List.map_nil, Option.map_some, Option.bind_some, Nat.zero_add, Nat.reduceAdd, k4_f16, k5_f16, k8_f16, k9_f16, k22_f16, k24_f16, hB1.cell, hB2.cell]; rfl) ?_
        refine LD.cs rfl rfl Try.call25 (by intro hh hr _; have hx : Ext _ _ := hr; have hw := hw.ext hx; have ho := ho.ext hx; have hw' := hw'.ext hx; have ho' := ho'.ext hx; have hB1 := hB1.ext hx; have hB2 := hB2.ext hx; have hq := hq.ext hx; have hq' := hq'.ext hx; have hc := hc.ext hx; have hc' := hc'.ext hx; simp only [ev_tmp, ev_const, ev_func, set_get, Nat.reduceEqDiff, reduceIte, List.getElem?_toArray, List.getElem?_cons_zero, List.getElem?_cons_succ, List.map_toArray, List.map_cons, List.map_nil, Option.map_some, Option.bind_some, k4_f16, k5_f16, k8_f16, k9_f16, k22_f16, k24_f16, hB1.cell, hB2.cell]; exact made_sl (c_rising _ _ wk (by omega) hw)) ?_
        intro u16_2 w16_2
        refine LD.qq rfl rfl (by simp only [ev_tmp, ev_const, ev_func, set_get, Nat.reduceEqDiff, reduceIte, qv_fieldAddr, fa24_0, Nat.zero_add, Nat.reduceAdd, k4_f16, k5_f16, k8_f16, k9_f16, k22_f16, k24_f16, hB1.cell, hB2.cell]; rfl) ?_
        refine LD.qq rfl rfl (by simp only [ev_tmp, ev_const, ev_func, set_get, Nat.reduceEqDiff, reduceIte, qv_load, ld22, readN, List.getElem?_toArray, List.getElem?_cons_zero, List.getElem?_cons_succ, List.map_toArray, List.map_cons, List.map_nil, Option.map_some, Option.bind_some, Nat.zero_add, Nat.reduceAdd, k4_f16, k5_f16, k8_f16, k9_f16, k22_f16, k24_f16, hB1.cell, hB2.cell]; rfl) ?_
        refine LD.cs rfl rfl Try.call25 (by intro hh hr _; have hx : Ext _ _ := hr; have hw := hw.ext hx; have ho := ho.ext hx; have hw' := hw'.ext hx; have ho' := ho'.ext hx; have hB1 := hB1.ext hx; have hB2 := hB2.ext hx; have hq := hq.ext hx; have hq' := hq'.ext hx; have hc := hc.ext hx; have hc' := hc'.ext hx; simp only [ev_tmp, ev_const, ev_func, set_get, Nat.reduceEqDiff, reduceIte, List.getElem?_toArray, List.getElem?_cons_zero, List.getElem?_cons_succ, List.map_toArray, List.map_cons, List.map_nil, Option.map_some, Option.bind_some, k4_f16, k5_f16, k8_f16, k9_f16, k22_f16, k24_f16, hB1.cell, hB2.cell]; exact made_sl (c_rising _ _ wk' (by omega) hw')) ?_
        intro u16_5 w16_5
        refine LD.ckf rfl rfl Try.call23 (by intro hh hr hf; have hx : Ext _ _ := hr; have hw := hw.ext hx; have ho := ho.ext hx; have hw' := hw'.ext hx; have ho' := ho'.ext hx; have hB1 := hB1.ext hx; have hB2 := hB2.ext hx; have hq := hq.ext hx; have hq' := hq'.ext hx; have hc := hc.ext hx; have hc' := hc'.ext hx; have m2 := hf (2, u16_2) (by simp) (by show tb _ _ 2 = true; decide +kernel) _ rfl; obtain ⟨a2, c2, rfl, b2, n2⟩ := w16_2; replace m2 := m2 _ _ _ rfl; have m5 := hf (5, u16_5) (by simp) (by show tb _ _ 5 = true; decide +kernel) _ rfl; obtain ⟨a5, c5, rfl, b5, n5⟩ := w16_5; replace m5 := m5 _ _ _ rfl; simp only [ev_tmp, ev_const, ev_func, set_get, Nat.reduceEqDiff, reduceIte, List.getElem?_toArray, List.getElem?_cons_zero, List.getElem?_cons_succ, List.map_toArray, List.map_cons, List.map_nil, Option.map_some, Option.bind_some, k4_f16, k5_f16, k8_f16, k9_f16, k22_f16, k24_f16, hB1.cell, hB2.cell]; exact (c_ints a2 a5 c2 c5 (srt wk) (srt wk') (by rw [srt_len]; omega) m2 m5).grow) ?_
        refine LD.qq rfl rfl (by simp only [ev_tmp, ev_const, ev_func, set_get, Nat.reduceEqDiff, reduceIte, qv_move, k4_f16, k5_f16, k8_f16, k9_f16, k22_f16, k24_f16, hB1.cell, hB2.cell]; rfl) ?_
        refine LD.cq rfl rfl (gd_at (t := 148) rfl (by simp only [ev_tmp, ev_const, ev_func, set_get, Nat.reduceEqDiff, reduceIte, k4_f16, k5_f16, k8_f16, k9_f16, k22_f16, k24_f16, hB1.cell, hB2.cell]; rfl)) (fun hg16_8 => by simp only [ev_tmp, ev_const, ev_func, set_get, Nat.reduceEqDiff, reduceIte, qv_fieldAddr, fa24_1, Nat.zero_add, Nat.reduceAdd, k4_f16, k5_f16, k8_f16, k9_f16, k22_f16, k24_f16, hB1.cell, hB2.cell, hg16_8, Bool.false_eq_true, Bool.true_eq_false, eq_self, if_true, if_false, true_and, and_true, false_and, and_false]; rfl) ?_
        refine LD.cq rfl rfl (gd_at (t := 148) rfl (by simp only [ev_tmp, ev_const, ev_func, set_get, Nat.reduceEqDiff, reduceIte, k4_f16, k5_f16, k8_f16, k9_f16, k22_f16, k24_f16, hB1.cell, hB2.cell]; rfl)) (fun hg16_9 => by simp only [ev_tmp, ev_const, ev_func, set_get, Nat.reduceEqDiff, reduceIte, qv_load, ld22, readN, List.getElem?_toArray, List.getElem?_cons_zero, List.getElem?_cons_succ, List.map_toArray, List.map_cons, List.map_nil, Option.map_some, Option.bind_some, Nat.zero_add, Nat.reduceAdd, k4_f16, k5_f16, k8_f16, k9_f16, k22_f16, k24_f16, hB1.cell, hB2.cell, hg16_9, Bool.false_eq_true, Bool.true_eq_false, eq_self, if_true, if_false, true_and, and_true, false_and, and_false]; rfl) ?_
        refine LD.ccs rfl rfl (gd_at (t := 148) rfl (by simp only [ev_tmp, ev_const, ev_func, set_get, Nat.reduceEqDiff, reduceIte, k4_f16, k5_f16, k8_f16, k9_f16, k22_f16, k24_f16, hB1.cell, hB2.cell]; rfl)) (fun h => sl_undef _ h) Try.call25 (fun hg16_10 => by intro hh hr _; have hx : Ext _ _ := hr; have hw := hw.ext hx; have ho := ho.ext hx; have hw' := hw'.ext hx; have ho' := ho'.ext hx; have hB1 := hB1.ext hx; have hB2 := hB2.ext hx; have hq := hq.ext hx; have hq' := hq'.ext hx; have hc := hc.ext hx; have hc' := hc'.ext hx; simp only [ev_tmp, ev_const, ev_func, set_get, Nat.reduceEqDiff, reduceIte, List.getElem?_toArray, List.getElem?_cons_zero, List.getElem?_cons_succ, List.map_toArray, List.map_cons, List.map_nil, Option.map_some, Option.bind_some, k4_f16, k5_f16, k8_f16, k9_f16, k22_f16, k24_f16, hB1.cell, hB2.cell, hg16_10, Bool.false_eq_true, Bool.true_eq_false, eq_self, if_true, if_false, true_and, and_true, false_and, and_false]; exact made_sl (c_rising _ _ hol (by omega) ho)) ?_
        intro u16_10 w16_10
        refine LD.cq rfl rfl (gd_at (t := 148) rfl (by simp only [ev_tmp, ev_const, ev_func, set_get, Nat.reduceEqDiff, reduceIte, k4_f16, k5_f16, k8_f16, k9_f16, k22_f16, k24_f16, hB1.cell, hB2.cell]; rfl)) (fun hg16_11 => by simp only [ev_tmp, ev_const, ev_func, set_get, Nat.reduceEqDiff, reduceIte, qv_fieldAddr, fa24_1, Nat.zero_add, Nat.reduceAdd, k4_f16, k5_f16, k8_f16, k9_f16, k22_f16, k24_f16, hB1.cell, hB2.cell, hg16_11, Bool.false_eq_true, Bool.true_eq_false, eq_self, if_true, if_false, true_and, and_true, false_and, and_false]; rfl) ?_
        refine LD.cq rfl rfl (gd_at (t := 148) rfl (by simp only [ev_tmp, ev_const, ev_func, set_get, Nat.reduceEqDiff, reduceIte, k4_f16, k5_f16, k8_f16, k9_f16, k22_f16, k24_f16, hB1.cell, hB2.cell]; rfl)) (fun hg16_12 => by simp only [ev_tmp, ev_const, ev_func, set_get, Nat.reduceEqDiff, reduceIte, qv_load, ld22, readN, List.getElem?_toArray, List.getElem?_cons_zero, List.getElem?_cons_succ, List.map_toArray, List.map_cons, List.map_nil, Option.map_some, Option.bind_some, Nat.zero_add, Nat.reduceAdd, k4_f16, k5_f16, k8_f16, k9_f16, k22_f16, k24_f16, hB1.cell, hB2.cell, hg16_12, Bool.false_eq_true, Bool.true_eq_false, eq_self, if_true, if_false, true_and, and_true, false_and, and_false]; rfl) ?_
        refine LD.ccs rfl rfl (gd_at (t := 148) rfl (by simp only [ev_tmp, ev_const, ev_func, set_get, Nat.reduceEqDiff, reduceIte, k4_f16, k5_f16, k8_f16, k9_f16, k22_f16, k24_f16, hB1.cell, hB2.cell]; rfl)) (fun h => sl_undef _ h) Try.call25 (fun hg16_13 => by intro hh hr _; have hx : Ext _ _ := hr; have hw := hw.ext hx; have ho := ho.ext hx; have hw' := hw'.ext hx; have ho' := ho'.ext hx; have hB1 := hB1.ext hx; have hB2 := hB2.ext hx; have hq := hq.ext hx; have hq' := hq'.ext hx; have hc := hc.ext hx; have hc' := hc'.ext hx; simp only [ev_tmp, ev_const, ev_func, set_get, Nat.reduceEqDiff, reduceIte, List.getElem?_toArray, List.getElem?_cons_zero, List.getElem?_cons_succ, List.map_toArray, List.map_cons, List.map_nil, Option.map_some, Option.bind_some, k4_f16, k5_f16, k8_f16, k9_f16, k22_f16, k24_f16, hB1.cell, hB2.cell, hg16_13, Bool.false_eq_true, Bool.true_eq_false, eq_self, if_true, if_false, true_and, and_true, false_and, and_false]; exact made_sl (c_rising _ _ hol' (by omega) ho')) ?_
        intro u16_13 w16_13
        refine LD.cckf rfl rfl (gd_at (t := 148) rfl (by simp only [ev_tmp, ev_const, ev_func, set_get, Nat.reduceEqDiff, reduceIte, k4_f16, k5_f16, k8_f16, k9_f16, k22_f16, k24_f16, hB1.cell, hB2.cell]; rfl)) Try.call23 (fun hg16_14 => by intro hh hr hf; have hx : Ext _ _ := hr; have hw := hw.ext hx; have ho := ho.ext hx; have hw' := hw'.ext hx; have ho' := ho'.ext hx; have hB1 := hB1.ext hx; have hB2 := hB2.ext hx; have hq := hq.ext hx; have hq' := hq'.ext hx; have hc := hc.ext hx; have hc' := hc'.ext hx; have m10 := hf (10, u16_10) (by simp) (by show tb _ _ 10 = true; decide +kernel) _ rfl; obtain ⟨a10, c10, rfl, b10, n10⟩ := (w16_10 hg16_14); replace m10 := m10 _ _ _ rfl; have m13 := hf (13, u16_13) (by simp) (by show tb _ _ 13 = true; decide +kernel) _ rfl; obtain ⟨a13, c13, rfl, b13, n13⟩ := (w16_13 hg16_14); replace m13 := m13 _ _ _ rfl; simp only [ev_tmp, ev_const, ev_func, set_get, Nat.reduceEqDiff, reduceIte, List.getElem?_toArray, List.getElem?_cons_zero, List.getElem?_cons_succ, List.map_toArray, List.map_cons, List.map_nil, Option.map_some, Option.bind_some, k4_f16, k5_f16, k8_f16, k9_f16, k22_f16, k24_f16, hB1.cell, hB2.cell, hg16_14, Bool.false_eq_true, Bool.true_eq_false, eq_self, if_true, if_false, true_and, and_true, false_and, and_false]; exact (c_ints a10 a13 c10 c13 (srt hol) (srt hol') (by rw [srt_len]; omega) m10 m13).grow) ?_
        refine LD.qq rfl rfl (by simp only [ev_tmp, ev_const, ev_func, set_get, Nat.reduceEqDiff, reduceIte, qv_pick, pk_and, pk_or, Bool.false_eq_true, Bool.true_eq_false, eq_self, if_true, if_false, true_and, and_true, false_and, and_false, k4_f16, k5_f16, k8_f16, k9_f16, k22_f16, k24_f16, hB1.cell, hB2.cell]; rfl) ?_
        refine LD.qq rfl rfl (by simp only [ev_tmp, ev_const, ev_func, set_get, Nat.reduceEqDiff, reduceIte, qv_assign, k4_f16, k5_f16, k8_f16, k9_f16, k22_f16, k24_f16, hB1.cell, hB2.cell]; rfl) ?_
        refine LD.nil ?_
        rintro h13 hx13 -
        replace hx13 : Ext _ _ := hx13
        replace hw := hw.ext hx13
        replace ho := ho.ext hx13
        replace hw' := hw'.ext hx13
        replace ho' := ho'.ext hx13
        replace hB1 := hB1.ext hx13
        replace hB2 := hB2.ext hx13
        replace hq := hq.ext hx13
        replace hq' := hq'.ext hx13
        replace hc := hc.ext hx13
        replace hc' := hc'.ext hx13
        refine WL.nil ?_
        refine th_norm ?_
        refine hx_seq ?_
        refine hx_fresh (fun eF17 hfcf17 => ?_)
        have k8_f17 := hfcf17 8 rfl; simp only [ev_tmp, ev_const, ev_func, set_get, Nat.reduceEqDiff, reduceIte, k4_f16, k5_f16, k8_f16, k9_f16, k22_f16, k24_f16, hB1.cell, hB2.cell] at k8_f17
        have k9_f17 := hfcf17 9 rfl; simp only [ev_tmp, ev_const, ev_func, set_get, Nat.reduceEqDiff, reduceIte, k4_f16, k5_f16, k8_f16, k9_f16, k22_f16, k24_f16, hB1.cell, hB2.cell] at k9_f17
        have k22_f17 := hfcf17 22 rfl; simp only [ev_tmp, ev_const, ev_func, set_get, Nat.reduceEqDiff, reduceIte, k4_f16, k5_f16, k8_f16, k9_f16, k22_f16, k24_f16, hB1.cell, hB2.cell] at k22_f17
        have k24_f17 := hfcf17 24 rfl; simp only [ev_tmp, ev_const, ev_func, set_get, Nat.reduceEqDiff, reduceIte, k4_f16, k5_f16, k8_f16, k9_f16, k22_f16, k24_f16, hB1.cell, hB2.cell] at k24_f17
        have k26_f17 := hfcf17 26 rfl; simp only [ev_tmp, ev_const, ev_func, set_get, Nat.reduceEqDiff, reduceIte, k4_f16, k5_f16, k8_f16, k9_f16, k22_f16, k24_f16, hB1.cell, hB2.cell] at k26_f17
        refine hx_region ?_
        refine WL.qq (by simp only [ev_tmp, ev_const, ev_func, set_get, Nat.reduceEqDiff, reduceIte, qv_move, k8_f17, k9_f17, k22_f17, k24_f17, k26_f17, hB1.cell, hB2.cell]; rfl) ?_
        refine WL.qq (by simp only [ev_tmp, ev_const, ev_func, set_get, Nat.reduceEqDiff, reduceIte, qv_move, k8_f17, k9_f17, k22_f17, k24_f17, k26_f17, hB1.cell, hB2.cell]; rfl) ?_
        refine WL.ck Try.call35 (by simp only [ev_tmp, ev_const, ev_func, set_get, Nat.reduceEqDiff, reduceIte, List.getElem?_toArray, List.getElem?_cons_zero, List.getElem?_cons_succ, List.map_toArray, List.map_cons, List.map_nil, Option.map_some, Option.bind_some, k8_f17, k9_f17, k22_f17, k24_f17, k26_f17, hB1.cell, hB2.cell]; exact c_eqc p p' hz hz' hc hc') ?_
        refine WL.qq (by simp only [ev_tmp, ev_const, ev_func, set_get, Nat.reduceEqDiff, reduceIte, qv_move, k8_f17, k9_f17, k22_f17, k24_f17, k26_f17, hB1.cell, hB2.cell]; rfl) ?_
        refine WL.qq (by simp only [ev_tmp, ev_const, ev_func, set_get, Nat.reduceEqDiff, reduceIte, qv_binOp, binv_eql, eq4, Option.map_some, k8_f17, k9_f17, k22_f17, k24_f17, k26_f17, hB1.cell, hB2.cell]; rfl) ?_
        refine WL.qq (by simp only [ev_tmp, ev_const, ev_func, set_get, Nat.reduceEqDiff, reduceIte, qv_move, k8_f17, k9_f17, k22_f17, k24_f17, k26_f17, hB1.cell, hB2.cell]; rfl) ?_
        refine WL.cq (gd_at (t := 162) rfl (by simp only [ev_tmp, ev_const, ev_func, set_get, Nat.reduceEqDiff, reduceIte, k8_f17, k9_f17, k22_f17, k24_f17, k26_f17, hB1.cell, hB2.cell]; rfl)) (fun hg17_6 => by simp only [ev_tmp, ev_const, ev_func, set_get, Nat.reduceEqDiff, reduceIte, qv_move, k8_f17, k9_f17, k22_f17, k24_f17, k26_f17, hB1.cell, hB2.cell, hg17_6, Bool.false_eq_true, Bool.true_eq_false, eq_self, if_true, if_false, true_and, and_true, false_and, and_false]; rfl) ?_
        refine WL.cq (gd_at (t := 162) rfl (by simp only [ev_tmp, ev_const, ev_func, set_get, Nat.reduceEqDiff, reduceIte, k8_f17, k9_f17, k22_f17, k24_f17, k26_f17, hB1.cell, hB2.cell]; rfl)) (fun hg17_7 => by simp only [ev_tmp, ev_const, ev_func, set_get, Nat.reduceEqDiff, reduceIte, qv_move, k8_f17, k9_f17, k22_f17, k24_f17, k26_f17, hB1.cell, hB2.cell, hg17_7, Bool.false_eq_true, Bool.true_eq_false, eq_self, if_true, if_false, true_and, and_true, false_and, and_false]; rfl) ?_
        refine WL.cck (gd_at (t := 162) rfl (by simp only [ev_tmp, ev_const, ev_func, set_get, Nat.reduceEqDiff, reduceIte, k8_f17, k9_f17, k22_f17, k24_f17, k26_f17, hB1.cell, hB2.cell]; rfl)) Try.call35 (fun hg17_8 => by simp only [ev_tmp, ev_const, ev_func, set_get, Nat.reduceEqDiff, reduceIte, List.getElem?_toArray, List.getElem?_cons_zero, List.getElem?_cons_succ, List.map_toArray, List.map_cons, List.map_nil, Option.map_some, Option.bind_some, k8_f17, k9_f17, k22_f17, k24_f17, k26_f17, hB1.cell, hB2.cell, hg17_8, Bool.false_eq_true, Bool.true_eq_false, eq_self, if_true, if_false, true_and, and_true, false_and, and_false]; exact c_eqc p' p hz' hz hc' hc) ?_
        refine WL.cq (gd_at (t := 162) rfl (by simp only [ev_tmp, ev_const, ev_func, set_get, Nat.reduceEqDiff, reduceIte, k8_f17, k9_f17, k22_f17, k24_f17, k26_f17, hB1.cell, hB2.cell]; rfl)) (fun hg17_9 => by simp only [ev_tmp, ev_const, ev_func, set_get, Nat.reduceEqDiff, reduceIte, qv_move, k8_f17, k9_f17, k22_f17, k24_f17, k26_f17, hB1.cell, hB2.cell, hg17_9, Bool.false_eq_true, Bool.true_eq_false, eq_self, if_true, if_false, true_and, and_true, false_and, and_false]; rfl) ?_
        refine WL.cq (gd_at (t := 162) rfl (by simp only [ev_tmp, ev_const, ev_func, set_get, Nat.reduceEqDiff, reduceIte, k8_f17, k9_f17, k22_f17, k24_f17, k26_f17, hB1.cell, hB2.cell]; rfl)) (fun hg17_10 => by simp only [ev_tmp, ev_const, ev_func, set_get, Nat.reduceEqDiff, reduceIte, qv_binOp, binv_eql, eq4, Option.map_some, k8_f17, k9_f17, k22_f17, k24_f17, k26_f17, hB1.cell, hB2.cell, hg17_10, Bool.false_eq_true, Bool.true_eq_false, eq_self, if_true, if_false, true_and, and_true, false_and, and_false]; rfl) ?_
        refine WL.qq (by simp only [ev_tmp, ev_const, ev_func, set_get, Nat.reduceEqDiff, reduceIte, qv_pick, pk_and, pk_or, Bool.false_eq_true, Bool.true_eq_false, eq_self, if_true, if_false, true_and, and_true, false_and, and_false, k8_f17, k9_f17, k22_f17, k24_f17, k26_f17, hB1.cell, hB2.cell]; rfl) ?_
        refine WL.qq (by simp only [ev_tmp, ev_const, ev_func, set_get, Nat.reduceEqDiff, reduceIte, qv_move, k8_f17, k9_f17, k22_f17, k24_f17, k26_f17, hB1.cell, hB2.cell]; rfl) ?_
        refine WL.cq (gd_at (t := 169) rfl (by simp only [ev_tmp, ev_const, ev_func, set_get, Nat.reduceEqDiff, reduceIte, k8_f17, k9_f17, k22_f17, k24_f17, k26_f17, hB1.cell, hB2.cell]; rfl)) (fun hg17_13 => by simp only [ev_tmp, ev_const, ev_func, set_get, Nat.reduceEqDiff, reduceIte, qv_move, k8_f17, k9_f17, k22_f17, k24_f17, k26_f17, hB1.cell, hB2.cell, hg17_13, Bool.false_eq_true, Bool.true_eq_false, eq_self, if_true, if_false, true_and, and_true, false_and, and_false]; rfl) ?_
        refine WL.cck (gd_at (t := 169) rfl (by simp only [ev_tmp, ev_const, ev_func, set_get, Nat.reduceEqDiff, reduceIte, k8_f17, k9_f17, k22_f17, k24_f17, k26_f17, hB1.cell, hB2.cell]; rfl)) Try.call35 (fun hg17_14 => by simp only [ev_tmp, ev_const, ev_func, set_get, Nat.reduceEqDiff, reduceIte, List.getElem?_toArray, List.getElem?_cons_zero, List.getElem?_cons_succ, List.map_toArray, List.map_cons, List.map_nil, Option.map_some, Option.bind_some, k8_f17, k9_f17, k22_f17, k24_f17, k26_f17, hB1.cell, hB2.cell, hg17_14, Bool.false_eq_true, Bool.true_eq_false, eq_self, if_true, if_false, true_and, and_true, false_and, and_false]; exact n_equal1 _ _) ?_
        refine WL.cq (gd_at (t := 169) rfl (by simp only [ev_tmp, ev_const, ev_func, set_get, Nat.reduceEqDiff, reduceIte, k8_f17, k9_f17, k22_f17, k24_f17, k26_f17, hB1.cell, hB2.cell]; rfl)) (fun hg17_15 => by simp only [ev_tmp, ev_const, ev_func, set_get, Nat.reduceEqDiff, reduceIte, qv_unOp, unv_not, k8_f17, k9_f17, k22_f17, k24_f17, k26_f17, hB1.cell, hB2.cell, hg17_15, Bool.false_eq_true, Bool.true_eq_false, eq_self, if_true, if_false, true_and, and_true, false_and, and_false]; rfl) ?_
        refine WL.qq (by simp only [ev_tmp, ev_const, ev_func, set_get, Nat.reduceEqDiff, reduceIte, qv_pick, pk_and, pk_or, Bool.false_eq_true, Bool.true_eq_false, eq_self, if_true, if_false, true_and, and_true, false_and, and_false, k8_f17, k9_f17, k22_f17, k24_f17, k26_f17, hB1.cell, hB2.cell]; rfl) ?_
        refine WL.qq (by simp only [ev_tmp, ev_const, ev_func, set_get, Nat.reduceEqDiff, reduceIte, qv_move, k8_f17, k9_f17, k22_f17, k24_f17, k26_f17, hB1.cell, hB2.cell]; rfl) ?_
        refine WL.cq (gd_at (t := 174) rfl (by simp only [ev_tmp, ev_const, ev_func, set_get, Nat.reduceEqDiff, reduceIte, k8_f17, k9_f17, k22_f17, k24_f17, k26_f17, hB1.cell, hB2.cell]; rfl)) (fun hg17_18 => by simp only [ev_tmp, ev_const, ev_func, set_get, Nat.reduceEqDiff, reduceIte, qv_move, k8_f17, k9_f17, k22_f17, k24_f17, k26_f17, hB1.cell, hB2.cell, hg17_18, Bool.false_eq_true, Bool.true_eq_false, eq_self, if_true, if_false, true_and, and_true, false_and, and_false]; rfl) ?_
        refine WL.cq (gd_at (t := 174) rfl (by simp only [ev_tmp, ev_const, ev_func, set_get, Nat.reduceEqDiff, reduceIte, k8_f17, k9_f17, k22_f17, k24_f17, k26_f17, hB1.cell, hB2.cell]; rfl)) (fun hg17_19 => by simp only [ev_tmp, ev_const, ev_func, set_get, Nat.reduceEqDiff, reduceIte, qv_move, k8_f17, k9_f17, k22_f17, k24_f17, k26_f17, hB1.cell, hB2.cell, hg17_19, Bool.false_eq_true, Bool.true_eq_false, eq_self, if_true, if_false, true_and, and_true, false_and, and_false]; rfl) ?_
        refine WL.cck (gd_at (t := 174) rfl (by simp only [ev_tmp, ev_const, ev_func, set_get, Nat.reduceEqDiff, reduceIte, k8_f17, k9_f17, k22_f17, k24_f17, k26_f17, hB1.cell, hB2.cell]; rfl)) Try.call35 (fun hg17_20 => by simp only [ev_tmp, ev_const, ev_func, set_get, Nat.reduceEqDiff, reduceIte, List.getElem?_toArray, List.getElem?_cons_zero, List.getElem?_cons_succ, List.map_toArray, List.map_cons, List.map_nil, Option.map_some, Option.bind_some, k8_f17, k9_f17, k22_f17, k24_f17, k26_f17, hB1.cell, hB2.cell, hg17_20, Bool.false_eq_true, Bool.true_eq_false, eq_self, if_true, if_false, true_and, and_true, false_and, and_false]; exact n_equal2 _ _) ?_
        refine WL.cq (gd_at (t := 174) rfl (by simp only [ev_tmp, ev_const, ev_func, set_get, Nat.reduceEqDiff, reduceIte, k8_f17, k9_f17, k22_f17, k24_f17, k26_f17, hB1.cell, hB2.cell]; rfl)) (fun hg17_21 => by simp only [ev_tmp, ev_const, ev_func, set_get, Nat.reduceEqDiff, reduceIte, qv_unOp, unv_not, k8_f17, k9_f17, k22_f17, k24_f17, k26_f17, hB1.cell, hB2.cell, hg17_21, Bool.false_eq_true, Bool.true_eq_false, eq_self, if_true, if_false, true_and, and_true, false_and, and_false]; rfl) ?_
        refine WL.qq (by simp only [ev_tmp, ev_const, ev_func, set_get, Nat.reduceEqDiff, reduceIte, qv_pick, pk_and, pk_or, Bool.false_eq_true, Bool.true_eq_false, eq_self, if_true, if_false, true_and, and_true, false_and, and_false, k8_f17, k9_f17, k22_f17, k24_f17, k26_f17, hB1.cell, hB2.cell]; rfl) ?_
        refine WL.qq (by simp only [ev_tmp, ev_const, ev_func, set_get, Nat.reduceEqDiff, reduceIte, qv_move, k8_f17, k9_f17, k22_f17, k24_f17, k26_f17, hB1.cell, hB2.cell]; rfl) ?_
        refine WL.cq (gd_at (t := 180) rfl (by simp only [ev_tmp, ev_const, ev_func, set_get, Nat.reduceEqDiff, reduceIte, k8_f17, k9_f17, k22_f17, k24_f17, k26_f17, hB1.cell, hB2.cell]; rfl)) (fun hg17_24 => by simp only [ev_tmp, ev_const, ev_func, set_get, Nat.reduceEqDiff, reduceIte, qv_move, k8_f17, k9_f17, k22_f17, k24_f17, k26_f17, hB1.cell, hB2.cell, hg17_24, Bool.false_eq_true, Bool.true_eq_false, eq_self, if_true, if_false, true_and, and_true, false_and, and_false]; rfl) ?_
        refine WL.cq (gd_at (t := 180) rfl (by simp only [ev_tmp, ev_const, ev_func, set_get, Nat.reduceEqDiff, reduceIte, k8_f17, k9_f17, k22_f17, k24_f17, k26_f17, hB1.cell, hB2.cell]; rfl)) (fun hg17_25 => by simp only [ev_tmp, ev_const, ev_func, set_get, Nat.reduceEqDiff, reduceIte, qv_move, k8_f17, k9_f17, k22_f17, k24_f17, k26_f17, hB1.cell, hB2.cell, hg17_25, Bool.false_eq_true, Bool.true_eq_false, eq_self, if_true, if_false, true_and, and_true, false_and, and_false]; rfl) ?_
        refine WL.cck (gd_at (t := 180) rfl (by simp only [ev_tmp, ev_const, ev_func, set_get, Nat.reduceEqDiff, reduceIte, k8_f17, k9_f17, k22_f17, k24_f17, k26_f17, hB1.cell, hB2.cell]; rfl)) Try.call35 (fun hg17_26 => by simp only [ev_tmp, ev_const, ev_func, set_get, Nat.reduceEqDiff, reduceIte, List.getElem?_toArray, List.getElem?_cons_zero, List.getElem?_cons_succ, List.map_toArray, List.map_cons, List.map_nil, Option.map_some, Option.bind_some, k8_f17, k9_f17, k22_f17, k24_f17, k26_f17, hB1.cell, hB2.cell, hg17_26, Bool.false_eq_true, Bool.true_eq_false, eq_self, if_true, if_false, true_and, and_true, false_and, and_false]; exact c_eqc p p hz hz hc hc) ?_
        refine WL.qq (by simp only [ev_tmp, ev_const, ev_func, set_get, Nat.reduceEqDiff, reduceIte, qv_pick, pk_and, pk_or, Bool.false_eq_true, Bool.true_eq_false, eq_self, if_true, if_false, true_and, and_true, false_and, and_false, k8_f17, k9_f17, k22_f17, k24_f17, k26_f17, hB1.cell, hB2.cell]; rfl) ?_
        refine WL.qq (by simp only [ev_tmp, ev_const, ev_func, set_get, Nat.reduceEqDiff, reduceIte, qv_assign, k8_f17, k9_f17, k22_f17, k24_f17, k26_f17, hB1.cell, hB2.cell]; rfl) ?_
        refine WL.nil ?_
        refine th_norm ?_
        refine hx_ret ?_
        refine fin_ret [.tmp 8] rfl rfl (by simp only [ev_tmp, ev_const, ev_func, set_get, Nat.reduceEqDiff, reduceIte, resv, k8_f17, k9_f17, k22_f17, k24_f17, k26_f17, hB1.cell, hB2.cell]; rfl) ?_  -- ret 2 r17
        exact ⟨by by_cases q1 : srt wk = srt wk' <;> by_cases q2 : srt hol = srt hol' <;> first | (simp [retOf, q1, q2]; done) | (simp [retOf, q1, q2, Ne.symm q1]; done) | (simp [retOf, q1, q2, Ne.symm q2]; done) | (simp [retOf, q1, q2, Ne.symm q1, Ne.symm q2]; done), ((hx1).trans ((hx2).trans ((hx3).trans ((hx5).trans ((hx6).trans ((hx7).trans ((hx8).trans ((hx9).trans ((hx10).trans ((hx11).trans ((hx12).trans (hx13))))))))))))⟩
end GL


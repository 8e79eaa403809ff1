/- Calendar: the reference's step and its check of a calendar. -/
import Derived.Test.YtafdegdodmelpaaCalA
set_option linter.unusedSimpArgs false
set_option linter.unusedVariables false
set_option linter.unnecessarySimpa false
namespace GL
open Go Go.Proofs
set_option maxRecDepth 8000
/-- The first business day on a road of single steps. -/
def scanM (bus : Int → Bool) (s : Int) : Nat → Int → Option Int
  | 0, _ => none
  | f + 1, d => if validM d = true then (if bus d = true then some d else scanM bus s f (d + s)) else none
theorem scanM_out (bus : Int → Bool) (s : Int) (f : Nat) (d : Int) (hd : validM d = false) : scanM bus s f d = none := by
  cases f <;> simp [scanM, hd]
def stepM (bus : Int → Bool) (d s : Int) : Int × Int :=
  if validM d = true then (match scanM bus s 73050 (d + s) with | some n => (n, 0) | none => (0, 28)) else (0, 2)
theorem c_step (wk hol : List Int) (a a' : Option Addr) (c c' : Nat) (m s : Int) (hs : s = 1 ∨ s = -1) {h : Heap} (hw : SlI h a wk) (hh : SlI h a' hol) (lw : wk.length ≤ 9223372036854775807) (lh : hol.length ≤ 9223372036854775807) :
    HCalls Try.prog 18 #[.agg #[.slice a wk.length c, .slice a' hol.length c'], .int .i64 m, .int .i64 s] h
      (Grow (.tuple #[.int .i64 (stepM (busM wk hol) m s).1, .int .i64 (stepM (busM wk hol) m s).2]) h) := by
  refine hcalls2 Try.func18 rfl (by decide +kernel) (by simp only [Try.ntmps18]; exact of_decide_eq_true rfl) ?_
  intro e hin
  have e0 := hin 0 _ rfl
  have e1 := hin 1 _ rfl
  have e2 := hin 2 _ rfl
  refine hx_seq ?_
  refine hx_region ?_
  refine WL.box2 (by simp only [ev_tmp, ev_const, ev_func, set_get, Nat.reduceEqDiff, reduceIte, Value.cells, e0, e1, e2]; rfl) ?_
  intro h1 B1 hx1 hlt1 hB1
  replace hw := hw.ext hx1
  replace hh := hh.ext hx1
  refine WL.qq (by simp only [ev_tmp, ev_const, ev_func, set_get, Nat.reduceEqDiff, reduceIte, qv_assign, e0, e1, e2, hB1.cell]; rfl) ?_
  refine WL.qq (by simp only [ev_tmp, ev_const, ev_func, set_get, Nat.reduceEqDiff, reduceIte, qv_assign, e0, e1, e2, hB1.cell]; rfl) ?_
  refine WL.nil ?_
  refine th_norm ?_
  refine hx_seq ?_
  refine hx_seq ?_
  refine hx_region ?_
  refine WL.qq (by simp only [ev_tmp, ev_const, ev_func, set_get, Nat.reduceEqDiff, reduceIte, qv_move, e0, e1, e2, hB1.cell]; rfl) ?_
  refine WL.ck Try.call37 (by simp only [ev_tmp, ev_const, ev_func, set_get, Nat.reduceEqDiff, reduceIte, List.getElem?_toArray, List.getElem?_cons_zero, List.getElem?_cons_succ, List.map_toArray, List.map_cons, List.map_nil, Option.map_some, Option.bind_some, e0, e1, e2, hB1.cell]; exact c_rvalid _ _) ?_
  refine WL.qq (by simp only [ev_tmp, ev_const, ev_func, set_get, Nat.reduceEqDiff, reduceIte, qv_unOp, unv_not, e0, e1, e2, hB1.cell]; rfl) ?_
  refine WL.nil ?_
  refine th_norm ?_
  refine hx_cond (by simp only [ev_tmp, ev_const, ev_func, set_get, Nat.reduceEqDiff, reduceIte, e0, e1, e2, hB1.cell]; rfl) (fun hct11 => ?_) (fun hct11 => ?_)
  ·
    try simp only [decide_eq_true_eq, decide_eq_false_iff_not, Bool.and_eq_true, Bool.and_eq_false_iff, Bool.or_eq_true, Bool.or_eq_false_iff, Bool.not_eq_true', Bool.not_eq_false', Bool.not_eq_true, Bool.not_eq_false] at hct11
    refine hx_seq ?_
    refine hx_region ?_
    refine WL.qq (by simp only [ev_tmp, ev_const, ev_func, set_get, Nat.reduceEqDiff, reduceIte, qv_assign, e0, e1, e2, hB1.cell]; rfl) ?_
    refine WL.qq (by simp only [ev_tmp, ev_const, ev_func, set_get, Nat.reduceEqDiff, reduceIte, qv_assign, e0, e1, e2, hB1.cell]; rfl) ?_
    refine WL.nil ?_
    refine th_norm ?_
    refine hx_ret ?_
    refine th_ret ?_
    refine fin_ret [.tmp 6, .tmp 7] rfl rfl (by simp only [ev_tmp, ev_const, ev_func, set_get, Nat.reduceEqDiff, reduceIte, resv, e0, e1, e2, hB1.cell]; rfl) ?_  -- ret 0 r2
    exact ⟨by simp [stepM, hct11, retOf], hx1⟩
  ·
    try simp only [decide_eq_true_eq, decide_eq_false_iff_not, Bool.and_eq_true, Bool.and_eq_false_iff, Bool.or_eq_true, Bool.or_eq_false_iff, Bool.not_eq_true', Bool.not_eq_false', Bool.not_eq_true, Bool.not_eq_false] at hct11
    have hm := hct11; simp only [validM, Bool.and_eq_true, decide_eq_true_eq] at hm
    refine hx_skip ?_
    refine th_norm ?_
    refine hx_seq ?_
    refine hx_seq ?_
    refine hx_region ?_
    refine WL.qq (by simp only [ev_tmp, ev_const, ev_func, set_get, Nat.reduceEqDiff, reduceIte, qv_move, e0, e1, e2, hB1.cell]; rfl) ?_
    refine WL.qq (by simp only [ev_tmp, ev_const, ev_func, set_get, Nat.reduceEqDiff, reduceIte, qv_move, e0, e1, e2, hB1.cell]; rfl) ?_
    refine WL.qq (by simp only [ev_tmp, ev_const, ev_func, set_get, Nat.reduceEqDiff, reduceIte, qv_binOp, binv_add, e0, e1, e2, hB1.cell]; (try simp (disch := omega) only [w64, w8, wu64]); rfl) ?_
    refine WL.qq (by simp only [ev_tmp, ev_const, ev_func, set_get, Nat.reduceEqDiff, reduceIte, qv_assign, e0, e1, e2, hB1.cell]; rfl) ?_
    refine WL.nil ?_
    refine th_norm ?_
    refine hx_block ?_
    refine hx_loop (fun k e ds hx => ∃ d, scanM (busM wk hol) s k d = scanM (busM wk hol) s 73050 (m + s) ∧ (-1 ≤ d ∧ d ≤ 73049) ∧ (s = 1 ∧ 73049 ≤ k + d ∨ s = -1 ∧ d + 1 ≤ k) ∧ ds = [] ∧ Ext h1 hx ∧ e 8 = .int .i64 d ∧ e 3 = .pointer (some ⟨B1, 0, none⟩) ∧ e 2 = .int .i64 s) (73050) ?_ ?_
    ·
      refine ⟨m + s, rfl, by omega, by omega, rfl, Ext.refl _, ?_, ?_, ?_⟩ <;> simp only [set_get, Nat.reduceEqDiff, reduceIte, e2] <;> rfl
    ·
      rintro k e ds hA ⟨d, hsc, hd, hf, rfl, hxA, i8, i3, i2⟩; replace hw := hw.ext hxA; replace hh := hh.ext hxA; replace hB1 := hB1.ext hxA
      refine hx_seq ?_
      refine hx_seq ?_
      refine hx_region ?_
      refine WL.qq (by simp only [ev_tmp, ev_const, ev_func, set_get, Nat.reduceEqDiff, reduceIte, qv_move, e0, e1, e2, hB1.cell, i8, i3, i2]; rfl) ?_
      refine WL.ck Try.call37 (by simp only [ev_tmp, ev_const, ev_func, set_get, Nat.reduceEqDiff, reduceIte, List.getElem?_toArray, List.getElem?_cons_zero, List.getElem?_cons_succ, List.map_toArray, List.map_cons, List.map_nil, Option.map_some, Option.bind_some, e0, e1, e2, hB1.cell, i8, i3, i2]; exact c_rvalid _ _) ?_
      refine WL.nil ?_
      refine th_norm ?_
      refine hx_cond (by simp only [ev_tmp, ev_const, ev_func, set_get, Nat.reduceEqDiff, reduceIte, e0, e1, e2, hB1.cell, i8, i3, i2]; rfl) (fun hct16 => ?_) (fun hct16 => ?_)
      ·
        try simp only [decide_eq_true_eq, decide_eq_false_iff_not, Bool.and_eq_true, Bool.and_eq_false_iff, Bool.or_eq_true, Bool.or_eq_false_iff, Bool.not_eq_true', Bool.not_eq_false', Bool.not_eq_true, Bool.not_eq_false] at hct16
        have hv := hct16; simp only [validM, Bool.and_eq_true, decide_eq_true_eq] at hv
        obtain ⟨f, rfl⟩ : ∃ f', k = f' + 1 := ⟨k - 1, by omega⟩
        refine hx_skip ?_
        refine th_norm ?_
        refine hx_seq ?_
        refine hx_block ?_
        refine hx_seq ?_
        refine hx_region ?_
        refine WL.qq (by simp only [ev_tmp, ev_const, ev_func, set_get, Nat.reduceEqDiff, reduceIte, qv_load, ld24, readN, List.getElem?_toArray, List.getElem?_cons_zero, List.getElem?_cons_succ, List.map_toArray, List.map_cons, List.map_nil, Option.map_some, Option.bind_some, Nat.zero_add, Nat.reduceAdd, e0, e1, e2, hB1.cell, i8, i3, i2]; rfl) ?_
        refine WL.qq (by simp only [ev_tmp, ev_const, ev_func, set_get, Nat.reduceEqDiff, reduceIte, qv_move, e0, e1, e2, hB1.cell, i8, i3, i2]; rfl) ?_
        refine WL.cg Try.call22 (by simp only [ev_tmp, ev_const, ev_func, set_get, Nat.reduceEqDiff, reduceIte, List.getElem?_toArray, List.getElem?_cons_zero, List.getElem?_cons_succ, List.map_toArray, List.map_cons, List.map_nil, Option.map_some, Option.bind_some, e0, e1, e2, hB1.cell, i8, i3, i2]; exact c_ris wk hol _ _ _ _ _ hw hh lw lh) ?_
        intro h2 hx2
        replace hw := hw.ext hx2
        replace hh := hh.ext hx2
        replace hB1 := hB1.ext hx2
        refine WL.nil ?_
        refine th_norm ?_
        refine hx_cond (by simp only [ev_tmp, ev_const, ev_func, set_get, Nat.reduceEqDiff, reduceIte, e0, e1, e2, hB1.cell, i8, i3, i2]; rfl) (fun hct22 => ?_) (fun hct22 => ?_)
        ·
          try simp only [decide_eq_true_eq, decide_eq_false_iff_not, Bool.and_eq_true, Bool.and_eq_false_iff, Bool.or_eq_true, Bool.or_eq_false_iff, Bool.not_eq_true', Bool.not_eq_false', Bool.not_eq_true, Bool.not_eq_false] at hct22
          refine hx_seq ?_
          refine hx_region ?_
          refine WL.qq (by simp only [ev_tmp, ev_const, ev_func, set_get, Nat.reduceEqDiff, reduceIte, qv_move, e0, e1, e2, hB1.cell, i8, i3, i2]; rfl) ?_
          refine WL.qq (by simp only [ev_tmp, ev_const, ev_func, set_get, Nat.reduceEqDiff, reduceIte, qv_assign, e0, e1, e2, hB1.cell, i8, i3, i2]; rfl) ?_
          refine WL.qq (by simp only [ev_tmp, ev_const, ev_func, set_get, Nat.reduceEqDiff, reduceIte, qv_assign, e0, e1, e2, hB1.cell, i8, i3, i2]; rfl) ?_
          refine WL.nil ?_
          refine th_norm ?_
          refine hx_ret ?_
          refine bl_ret ?_
          refine th_ret ?_
          refine th_ret ?_
          refine bl_ret ?_
          refine th_ret ?_
          refine fin_ret [.tmp 6, .tmp 7] rfl rfl (by simp only [ev_tmp, ev_const, ev_func, set_get, Nat.reduceEqDiff, reduceIte, resv, e0, e1, e2, hB1.cell, i8, i3, i2]; rfl) ?_  -- ret 1 r7
          have hr : scanM (busM wk hol) s 73050 (m + s) = some d := by { rw [← hsc]; simp only [scanM, hct16, hct22, if_true] }
          exact ⟨by simp [stepM, hct11, retOf, hr], hx1.trans (hxA.trans hx2)⟩
        ·
          try simp only [decide_eq_true_eq, decide_eq_false_iff_not, Bool.and_eq_true, Bool.and_eq_false_iff, Bool.or_eq_true, Bool.or_eq_false_iff, Bool.not_eq_true', Bool.not_eq_false', Bool.not_eq_true, Bool.not_eq_false] at hct22
          refine hx_skip ?_
          refine bl_norm ?_
          refine th_norm ?_
          refine hx_region ?_
          refine WL.qq (by simp only [ev_tmp, ev_const, ev_func, set_get, Nat.reduceEqDiff, reduceIte, qv_move, e0, e1, e2, hB1.cell, i8, i3, i2]; rfl) ?_
          refine WL.qq (by simp only [ev_tmp, ev_const, ev_func, set_get, Nat.reduceEqDiff, reduceIte, qv_move, e0, e1, e2, hB1.cell, i8, i3, i2]; rfl) ?_
          refine WL.qq (by simp only [ev_tmp, ev_const, ev_func, set_get, Nat.reduceEqDiff, reduceIte, qv_binOp, binv_add, e0, e1, e2, hB1.cell, i8, i3, i2]; (try simp (disch := omega) only [w64, w8, wu64]); rfl) ?_
          refine WL.qq (by simp only [ev_tmp, ev_const, ev_func, set_get, Nat.reduceEqDiff, reduceIte, qv_assign, e0, e1, e2, hB1.cell, i8, i3, i2]; rfl) ?_
          refine WL.nil ?_
          refine th_norm ?_
          refine ⟨f, by omega, d + s, ?_, by omega, by omega, rfl, hxA.trans hx2, ?_, ?_, ?_⟩ <;> first | (rw [← hsc]; simp only [scanM, hct16, hct22, if_true, Bool.false_eq_true, if_false]) | (simp only [set_get, Nat.reduceEqDiff, reduceIte, i8, i3, i2] <;> rfl)
      ·
        try simp only [decide_eq_true_eq, decide_eq_false_iff_not, Bool.and_eq_true, Bool.and_eq_false_iff, Bool.or_eq_true, Bool.or_eq_false_iff, Bool.not_eq_true', Bool.not_eq_false', Bool.not_eq_true, Bool.not_eq_false] at hct16
        refine hx_exit ?_
        refine th_exit ?_
        refine th_exit ?_
        refine bl_hit ?_
        refine th_norm ?_
        refine hx_seq ?_
        refine hx_region ?_
        refine WL.qq (by simp only [ev_tmp, ev_const, ev_func, set_get, Nat.reduceEqDiff, reduceIte, qv_assign, e0, e1, e2, hB1.cell, i8, i3, i2]; rfl) ?_
        refine WL.qq (by simp only [ev_tmp, ev_const, ev_func, set_get, Nat.reduceEqDiff, reduceIte, qv_assign, e0, e1, e2, hB1.cell, i8, i3, i2]; rfl) ?_
        refine WL.nil ?_
        refine th_norm ?_
        refine hx_ret ?_
        refine fin_ret [.tmp 6, .tmp 7] rfl rfl (by simp only [ev_tmp, ev_const, ev_func, set_get, Nat.reduceEqDiff, reduceIte, resv, e0, e1, e2, hB1.cell, i8, i3, i2]; rfl) ?_  -- ret 2 r8
        have hr : scanM (busM wk hol) s 73050 (m + s) = none := by { rw [← hsc]; exact scanM_out _ _ _ _ hct16 }
        exact ⟨by simp [stepM, hct11, retOf, hr], hx1.trans hxA⟩
end GL


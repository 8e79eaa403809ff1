/- Calendar: the search for business days; Next and Previous. -/
import Derived.Test.YtnmgdjajmmgaaaaCalE
set_option linter.unusedSimpArgs false
set_option linter.unusedVariables false
set_option linter.unnecessarySimpa false
namespace GL
open Go Go.Proofs
set_option maxRecDepth 8000
/-- The n-th business day on a road of single steps. -/
def searchM (bus : Int → Bool) (s : Int) : Nat → Int → Int → Option Int
  | 0, _, _ => none
  | f + 1, d, n => if validM d = true then (if bus d = true then (if n - 1 = 0 then some d else searchM bus s f (d + s) (n - 1)) else searchM bus s f (d + s) n) else none
theorem searchM_out (bus : Int → Bool) (s : Int) (f : Nat) (d n : Int) (hd : validM d = false) : searchM bus s f d n = none := by
  cases f <;> simp [searchM, hd]
def ans (o : Option Int) : Int × Int := match o with | some d => (d, 0) | none => (0, 28)
theorem c_search (p : Nat) (wk hs : List Int) (m s n : Int) (hst : s = 1 ∨ s = -1) (hm : 0 ≤ m ∧ m ≤ 73048) (hn : 1 ≤ n ∧ n ≤ 9223372036854775807) {h : Heap} (hc : IsCal h p wk hs) :
    HCalls Try.prog 64 #[.pointer (some ⟨p, 0, none⟩), .int .i64 m, .int .i64 s, .int .i64 n] h
      (Pure (.tuple #[.int .i64 (ans (searchM (busM wk hs) s 73050 (m + s) n)).1, .int .i64 (ans (searchM (busM wk hs) s 73050 (m + s) n)).2]) h) := by
  refine hcalls2 Try.func64 rfl (by decide +kernel) (by simp only [Try.ntmps64]; exact of_decide_eq_true rfl) ?_
  intro e hin
  have e0 := hin 0 _ rfl
  have e1 := hin 1 _ rfl
  have e2 := hin 2 _ rfl
  have e3 := hin 3 _ rfl
  refine hx_seq ?_
  refine hx_region ?_
  refine WL.qq (by simp only [ev_tmp, ev_const, ev_func, set_get, Nat.reduceEqDiff, reduceIte, qv_assign, e0, e1, e2, e3]; rfl) ?_
  refine WL.qq (by simp only [ev_tmp, ev_const, ev_func, set_get, Nat.reduceEqDiff, reduceIte, qv_assign, e0, e1, e2, e3]; rfl) ?_
  refine WL.nil ?_
  refine th_norm ?_
  refine hx_seq ?_
  refine hx_seq ?_
  refine hx_region ?_
  refine WL.qq (by simp only [ev_tmp, ev_const, ev_func, set_get, Nat.reduceEqDiff, reduceIte, qv_move, e0, e1, e2, e3]; rfl) ?_
  refine WL.qq (by simp only [ev_tmp, ev_const, ev_func, set_get, Nat.reduceEqDiff, reduceIte, qv_move, e0, e1, e2, e3]; rfl) ?_
  refine WL.qq (by simp only [ev_tmp, ev_const, ev_func, set_get, Nat.reduceEqDiff, reduceIte, qv_binOp, binv_add, e0, e1, e2, e3]; (try simp (disch := omega) only [w64, w8, wu64]); rfl) ?_
  refine WL.qq (by simp only [ev_tmp, ev_const, ev_func, set_get, Nat.reduceEqDiff, reduceIte, qv_assign, e0, e1, e2, e3]; rfl) ?_
  refine WL.nil ?_
  refine th_norm ?_
  refine hx_block ?_
  refine hx_loop (fun k e ds hx => ∃ d j, searchM (busM wk hs) s k d j = searchM (busM wk hs) s 73050 (m + s) n ∧ (-1 ≤ d ∧ d ≤ 73049) ∧ (s = 1 ∧ 73049 ≤ k + d ∨ s = -1 ∧ d + 1 ≤ k) ∧ (1 ≤ j ∧ j ≤ 9223372036854775807) ∧ ds = [] ∧ h = hx ∧ e 0 = .pointer (some ⟨p, 0, none⟩) ∧ e 2 = .int .i64 s ∧ e 3 = .int .i64 j ∧ e 10 = .int .i64 d) (73050) ?_ ?_
  ·
    refine ⟨m + s, n, rfl, by omega, by omega, hn, rfl, rfl, ?_, ?_, ?_, ?_⟩ <;> simp only [set_get, Nat.reduceEqDiff, reduceIte, e0, e2, e3] <;> rfl
  ·
    rintro k e ds hx ⟨d, j, hsc, hd, hf, hj, rfl, rfl, i0, i2, i3, i10⟩
    refine hx_seq ?_
    refine hx_seq ?_
    refine hx_region ?_
    refine WL.qq (by simp only [ev_tmp, ev_const, ev_func, set_get, Nat.reduceEqDiff, reduceIte, qv_move, e0, e1, e2, e3, i0, i2, i3, i10]; rfl) ?_
    refine WL.ck Try.call48 (by simp only [ev_tmp, ev_const, ev_func, set_get, Nat.reduceEqDiff, reduceIte, List.getElem?_toArray, List.getElem?_cons_zero, List.getElem?_cons_succ, List.map_toArray, List.map_cons, List.map_nil, Option.map_some, Option.bind_some, e0, e1, e2, e3, i0, i2, i3, i10]; exact c_valid _ _) ?_
    refine WL.nil ?_
    refine th_norm ?_
    refine hx_cond (by simp only [ev_tmp, ev_const, ev_func, set_get, Nat.reduceEqDiff, reduceIte, e0, e1, e2, e3, i0, i2, i3, i10]; rfl) (fun hct15 => ?_) (fun hct15 => ?_)
    ·
      try simp only [decide_eq_true_eq, decide_eq_false_iff_not, Bool.and_eq_true, Bool.and_eq_false_iff, Bool.or_eq_true, Bool.or_eq_false_iff, Bool.not_eq_true', Bool.not_eq_false', Bool.not_eq_true, Bool.not_eq_false] at hct15
      have hv := hct15; simp only [validM, Bool.and_eq_true, decide_eq_true_eq] at hv
      obtain ⟨f, rfl⟩ : ∃ f', k = f' + 1 := ⟨k - 1, by omega⟩
      refine hx_skip ?_
      refine th_norm ?_
      refine hx_seq ?_
      refine hx_block ?_
      refine hx_seq ?_
      refine hx_seq ?_
      refine hx_region ?_
      refine WL.qq (by simp only [ev_tmp, ev_const, ev_func, set_get, Nat.reduceEqDiff, reduceIte, qv_move, e0, e1, e2, e3, i0, i2, i3, i10]; rfl) ?_
      refine WL.qq (by simp only [ev_tmp, ev_const, ev_func, set_get, Nat.reduceEqDiff, reduceIte, qv_move, e0, e1, e2, e3, i0, i2, i3, i10]; rfl) ?_
      refine WL.ck Try.call38 (by simp only [ev_tmp, ev_const, ev_func, set_get, Nat.reduceEqDiff, reduceIte, List.getElem?_toArray, List.getElem?_cons_zero, List.getElem?_cons_succ, List.map_toArray, List.map_cons, List.map_nil, Option.map_some, Option.bind_some, e0, e1, e2, e3, i0, i2, i3, i10]; exact c_isBusiness _ _ _ _ ‹_›) ?_
      refine WL.qq (by simp only [ev_tmp, ev_const, ev_func, set_get, Nat.reduceEqDiff, reduceIte, qv_unOp, unv_not, e0, e1, e2, e3, i0, i2, i3, i10]; rfl) ?_
      refine WL.nil ?_
      refine th_norm ?_
      refine hx_cond (by simp only [ev_tmp, ev_const, ev_func, set_get, Nat.reduceEqDiff, reduceIte, e0, e1, e2, e3, i0, i2, i3, i10]; rfl) (fun hct22 => ?_) (fun hct22 => ?_)
      ·
        try simp only [decide_eq_true_eq, decide_eq_false_iff_not, Bool.and_eq_true, Bool.and_eq_false_iff, Bool.or_eq_true, Bool.or_eq_false_iff, Bool.not_eq_true', Bool.not_eq_false', Bool.not_eq_true, Bool.not_eq_false] at hct22
        refine hx_exit ?_
        refine th_exit ?_
        refine bl_hit ?_
        refine th_norm ?_
        refine hx_region ?_
        refine WL.qq (by simp only [ev_tmp, ev_const, ev_func, set_get, Nat.reduceEqDiff, reduceIte, qv_move, e0, e1, e2, e3, i0, i2, i3, i10]; rfl) ?_
        refine WL.qq (by simp only [ev_tmp, ev_const, ev_func, set_get, Nat.reduceEqDiff, reduceIte, qv_move, e0, e1, e2, e3, i0, i2, i3, i10]; rfl) ?_
        refine WL.qq (by simp only [ev_tmp, ev_const, ev_func, set_get, Nat.reduceEqDiff, reduceIte, qv_binOp, binv_add, e0, e1, e2, e3, i0, i2, i3, i10]; (try simp (disch := omega) only [w64, w8, wu64]); rfl) ?_
        refine WL.qq (by simp only [ev_tmp, ev_const, ev_func, set_get, Nat.reduceEqDiff, reduceIte, qv_assign, e0, e1, e2, e3, i0, i2, i3, i10]; rfl) ?_
        refine WL.nil ?_
        refine th_norm ?_
        first | (refine ⟨f, by omega, d + s, j - 1, ?_, by omega, by omega, by omega, rfl, rfl, ?_, ?_, ?_, ?_⟩ <;> first | (rw [← hsc]; simp only [searchM, hct15, hct22, if_true, if_neg (show ¬ j - 1 = 0 from hct26)]) | (simp only [set_get, Nat.reduceEqDiff, reduceIte, i0, i2, i3, i10] <;> rfl)) | (refine ⟨f, by omega, d + s, j, ?_, by omega, by omega, by omega, rfl, rfl, ?_, ?_, ?_, ?_⟩ <;> first | (rw [← hsc]; simp only [searchM, hct15, hct22, if_true, Bool.false_eq_true, if_false]) | (simp only [set_get, Nat.reduceEqDiff, reduceIte, i0, i2, i3, i10] <;> rfl))
      ·
        try simp only [decide_eq_true_eq, decide_eq_false_iff_not, Bool.and_eq_true, Bool.and_eq_false_iff, Bool.or_eq_true, Bool.or_eq_false_iff, Bool.not_eq_true', Bool.not_eq_false', Bool.not_eq_true, Bool.not_eq_false] at hct22
        refine hx_skip ?_
        refine th_norm ?_
        refine hx_seq ?_
        refine hx_region ?_
        refine WL.qq (by simp only [ev_tmp, ev_const, ev_func, set_get, Nat.reduceEqDiff, reduceIte, qv_move, e0, e1, e2, e3, i0, i2, i3, i10]; rfl) ?_
        refine WL.qq (by simp only [ev_tmp, ev_const, ev_func, set_get, Nat.reduceEqDiff, reduceIte, qv_binOp, binv_sub, e0, e1, e2, e3, i0, i2, i3, i10]; (try simp (disch := omega) only [w64, w8, wu64]); rfl) ?_
        refine WL.qq (by simp only [ev_tmp, ev_const, ev_func, set_get, Nat.reduceEqDiff, reduceIte, qv_assign, e0, e1, e2, e3, i0, i2, i3, i10]; rfl) ?_
        refine WL.nil ?_
        refine th_norm ?_
        refine hx_seq ?_
        refine hx_region ?_
        refine WL.qq (by simp only [ev_tmp, ev_const, ev_func, set_get, Nat.reduceEqDiff, reduceIte, qv_move, e0, e1, e2, e3, i0, i2, i3, i10]; rfl) ?_
        refine WL.qq (by simp only [ev_tmp, ev_const, ev_func, set_get, Nat.reduceEqDiff, reduceIte, qv_binOp, binv_eql, eq3, Option.map_some, e0, e1, e2, e3, i0, i2, i3, i10]; rfl) ?_
        refine WL.nil ?_
        refine th_norm ?_
        refine hx_cond (by simp only [ev_tmp, ev_const, ev_func, set_get, Nat.reduceEqDiff, reduceIte, e0, e1, e2, e3, i0, i2, i3, i10]; rfl) (fun hct26 => ?_) (fun hct26 => ?_)
        ·
          try simp only [decide_eq_true_eq, decide_eq_false_iff_not, Bool.and_eq_true, Bool.and_eq_false_iff, Bool.or_eq_true, Bool.or_eq_false_iff, Bool.not_eq_true', Bool.not_eq_false', Bool.not_eq_true, Bool.not_eq_false] at hct26
          refine hx_seq ?_
          refine hx_region ?_
          refine WL.qq (by simp only [ev_tmp, ev_const, ev_func, set_get, Nat.reduceEqDiff, reduceIte, qv_move, e0, e1, e2, e3, i0, i2, i3, i10]; rfl) ?_
          refine WL.qq (by simp only [ev_tmp, ev_const, ev_func, set_get, Nat.reduceEqDiff, reduceIte, qv_assign, e0, e1, e2, e3, i0, i2, i3, i10]; rfl) ?_
          refine WL.qq (by simp only [ev_tmp, ev_const, ev_func, set_get, Nat.reduceEqDiff, reduceIte, qv_assign, e0, e1, e2, e3, i0, i2, i3, i10]; rfl) ?_
          refine WL.nil ?_
          refine th_norm ?_
          refine hx_ret ?_
          refine bl_ret ?_
          refine th_ret ?_
          refine th_ret ?_
          refine bl_ret ?_
          refine th_ret ?_
          refine fin_ret [.tmp 8, .tmp 9] rfl rfl (by simp only [ev_tmp, ev_const, ev_func, set_get, Nat.reduceEqDiff, reduceIte, resv, e0, e1, e2, e3, i0, i2, i3, i10]; rfl) ?_  -- ret 0 r7
          have hr : searchM (busM wk hs) s 73050 (m + s) n = some d := by { rw [← hsc]; simp only [searchM, hct15, hct22, if_true, if_pos (show j - 1 = 0 from hct26)] }
          exact ⟨by rw [hr]; rfl, rfl⟩
        ·
          try simp only [decide_eq_true_eq, decide_eq_false_iff_not, Bool.and_eq_true, Bool.and_eq_false_iff, Bool.or_eq_true, Bool.or_eq_false_iff, Bool.not_eq_true', Bool.not_eq_false', Bool.not_eq_true, Bool.not_eq_false] at hct26
          refine hx_skip ?_
          refine bl_norm ?_
          refine th_norm ?_
          refine hx_region ?_
          refine WL.qq (by simp only [ev_tmp, ev_const, ev_func, set_get, Nat.reduceEqDiff, reduceIte, qv_move, e0, e1, e2, e3, i0, i2, i3, i10]; rfl) ?_
          refine WL.qq (by simp only [ev_tmp, ev_const, ev_func, set_get, Nat.reduceEqDiff, reduceIte, qv_move, e0, e1, e2, e3, i0, i2, i3, i10]; rfl) ?_
          refine WL.qq (by simp only [ev_tmp, ev_const, ev_func, set_get, Nat.reduceEqDiff, reduceIte, qv_binOp, binv_add, e0, e1, e2, e3, i0, i2, i3, i10]; (try simp (disch := omega) only [w64, w8, wu64]); rfl) ?_
          refine WL.qq (by simp only [ev_tmp, ev_const, ev_func, set_get, Nat.reduceEqDiff, reduceIte, qv_assign, e0, e1, e2, e3, i0, i2, i3, i10]; rfl) ?_
          refine WL.nil ?_
          refine th_norm ?_
          first | (refine ⟨f, by omega, d + s, j - 1, ?_, by omega, by omega, by omega, rfl, rfl, ?_, ?_, ?_, ?_⟩ <;> first | (rw [← hsc]; simp only [searchM, hct15, hct22, if_true, if_neg (show ¬ j - 1 = 0 from hct26)]) | (simp only [set_get, Nat.reduceEqDiff, reduceIte, i0, i2, i3, i10] <;> rfl)) | (refine ⟨f, by omega, d + s, j, ?_, by omega, by omega, by omega, rfl, rfl, ?_, ?_, ?_, ?_⟩ <;> first | (rw [← hsc]; simp only [searchM, hct15, hct22, if_true, Bool.false_eq_true, if_false]) | (simp only [set_get, Nat.reduceEqDiff, reduceIte, i0, i2, i3, i10] <;> rfl))
    ·
      try simp only [decide_eq_true_eq, decide_eq_false_iff_not, Bool.and_eq_true, Bool.and_eq_false_iff, Bool.or_eq_true, Bool.or_eq_false_iff, Bool.not_eq_true', Bool.not_eq_false', Bool.not_eq_true, Bool.not_eq_false] at hct15
      refine hx_exit ?_
      refine th_exit ?_
      refine th_exit ?_
      refine bl_hit ?_
      refine th_norm ?_
      refine hx_seq ?_
      refine hx_region ?_
      refine WL.qq (by simp only [ev_tmp, ev_const, ev_func, set_get, Nat.reduceEqDiff, reduceIte, qv_assign, e0, e1, e2, e3, i0, i2, i3, i10]; rfl) ?_
      refine WL.qq (by simp only [ev_tmp, ev_const, ev_func, set_get, Nat.reduceEqDiff, reduceIte, qv_assign, e0, e1, e2, e3, i0, i2, i3, i10]; rfl) ?_
      refine WL.nil ?_
      refine th_norm ?_
      refine hx_ret ?_
      refine fin_ret [.tmp 8, .tmp 9] rfl rfl (by simp only [ev_tmp, ev_const, ev_func, set_get, Nat.reduceEqDiff, reduceIte, resv, e0, e1, e2, e3, i0, i2, i3, i10]; rfl) ?_  -- ret 1 r8
      have hr : searchM (busM wk hs) s 73050 (m + s) n = none := by { rw [← hsc]; exact searchM_out _ _ _ _ _ hct15 }
      exact ⟨by rw [hr]; rfl, rfl⟩
theorem searchM_one (bus : Int → Bool) (s : Int) : ∀ (f : Nat) (d : Int), searchM bus s f d 1 = scanM bus s f d
  | 0, _ => rfl
  | f + 1, d => by simp [searchM, scanM, searchM_one bus s f]
theorem usableM_one (m : Int) : usableM [m] = if validM m = true then 0 else 2 := by
  cases hv : validM m <;> simp [usableM, hv]
theorem SlI.one {h : Heap} {B : Nat} {m : Int} {t : TypeId} {f : Nat × Nat} (hB : Has h B (.cells #[.int .i64 m] t f)) : SlI h (some ⟨B, 0, none⟩) [m] := fun i x hi => by
  have : i = 0 := by
    have := (List.getElem?_eq_some_iff.1 hi).1
    simp at this
    exact this
  subst this
  simp at hi
  subst hi
  exact ⟨B, 0, rfl, by rw [hB.cell]; rfl⟩
theorem step_search (bus : Int → Bool) (m s : Int) (hv : validM m = true) : stepM bus m s = ans (searchM bus s 73050 (m + s) 1) := by
  simp only [stepM, hv, if_true, searchM_one, ans]
  rfl
theorem c_next (p : Nat) (wk hs : List Int) (m : Int) {h : Heap} (hc : IsCal h p wk hs) :
    HCalls Try.prog 56 #[.pointer (some ⟨p, 0, none⟩), .int .i64 m] h (Grow (.tuple #[.int .i64 (stepM (busM wk hs) m 1).1, .int .i64 (stepM (busM wk hs) m 1).2]) h) := by
  refine hcalls2 Try.func56 rfl (by decide +kernel) (by simp only [Try.ntmps56]; exact of_decide_eq_true rfl) ?_
  intro e hin
  have e0 := hin 0 _ rfl
  have e1 := hin 1 _ rfl
  refine hx_seq ?_
  refine hx_region ?_
  refine WL.qq (by simp only [ev_tmp, ev_const, ev_func, set_get, Nat.reduceEqDiff, reduceIte, qv_assign, e0, e1]; rfl) ?_
  refine WL.qq (by simp only [ev_tmp, ev_const, ev_func, set_get, Nat.reduceEqDiff, reduceIte, qv_assign, e0, e1]; rfl) ?_
  refine WL.nil ?_
  refine th_norm ?_
  refine hx_seq ?_
  refine hx_seq ?_
  refine hx_region ?_
  refine WL.qq (by simp only [ev_tmp, ev_const, ev_func, set_get, Nat.reduceEqDiff, reduceIte, qv_move, e0, e1]; rfl) ?_
  refine WL.qq (by simp only [ev_tmp, ev_const, ev_func, set_get, Nat.reduceEqDiff, reduceIte, qv_move, e0, e1]; rfl) ?_
  refine WL.lit2 #[(.int .i64 0)] Try.underlying25 sz3 zr3 (by decide) (by kernel_rfl) ⟨_, (by simp only [ev_tmp, ev_const, ev_func, set_get, Nat.reduceEqDiff, reduceIte, List.getElem?_toArray, List.getElem?_cons_zero, List.getElem?_cons_succ, List.map_toArray, List.map_cons, List.map_nil, Option.map_some, Option.bind_some, e0, e1]; simp [Instr.fill, Value.cells]; rfl), rfl⟩ ?_
  intro h1 B1 hx1 hlt1 hB1
  replace hc := hc.ext hx1
  refine WL.ck Try.call63 (by simp only [ev_tmp, ev_const, ev_func, set_get, Nat.reduceEqDiff, reduceIte, List.getElem?_toArray, List.getElem?_cons_zero, List.getElem?_cons_succ, List.map_toArray, List.map_cons, List.map_nil, Option.map_some, Option.bind_some, e0, e1, hB1.cell]; exact c_usable _ _ 1 [m] (SlI.one hB1) (by simp)) ?_
  refine WL.qq (by simp only [ev_tmp, ev_const, ev_func, set_get, Nat.reduceEqDiff, reduceIte, qv_assign, e0, e1, hB1.cell]; rfl) ?_
  refine WL.nil ?_
  refine th_norm ?_
  refine hx_seq ?_
  refine hx_region ?_
  refine WL.qq (by simp only [ev_tmp, ev_const, ev_func, set_get, Nat.reduceEqDiff, reduceIte, qv_move, e0, e1, hB1.cell]; rfl) ?_
  refine WL.qq (by simp only [ev_tmp, ev_const, ev_func, set_get, Nat.reduceEqDiff, reduceIte, qv_binOp, binv_neq, eq34, Option.map_some, e0, e1, hB1.cell]; rfl) ?_
  refine WL.nil ?_
  refine th_norm ?_
  refine hx_cond (by simp only [ev_tmp, ev_const, ev_func, set_get, Nat.reduceEqDiff, reduceIte, e0, e1, hB1.cell]; rfl) (fun hct12 => ?_) (fun hct12 => ?_)
  ·
    try simp only [decide_eq_true_eq, decide_eq_false_iff_not, Bool.and_eq_true, Bool.and_eq_false_iff, Bool.or_eq_true, Bool.or_eq_false_iff, Bool.not_eq_true', Bool.not_eq_false', Bool.not_eq_true, Bool.not_eq_false] at hct12
    have hv : validM m = false := by { rw [usableM_one] at hct12; cases hv : validM m <;> simp [hv] at hct12 ⊢ }
    refine hx_seq ?_
    refine hx_region ?_
    refine WL.qq (by simp only [ev_tmp, ev_const, ev_func, set_get, Nat.reduceEqDiff, reduceIte, qv_move, e0, e1, hB1.cell]; rfl) ?_
    refine WL.qq (by simp only [ev_tmp, ev_const, ev_func, set_get, Nat.reduceEqDiff, reduceIte, qv_assign, e0, e1, hB1.cell]; rfl) ?_
    refine WL.qq (by simp only [ev_tmp, ev_const, ev_func, set_get, Nat.reduceEqDiff, reduceIte, qv_assign, e0, e1, hB1.cell]; rfl) ?_
    refine WL.nil ?_
    refine th_norm ?_
    refine hx_ret ?_
    refine th_ret ?_
    refine fin_ret [.tmp 4, .tmp 5] rfl rfl (by simp only [ev_tmp, ev_const, ev_func, set_get, Nat.reduceEqDiff, reduceIte, resv, e0, e1, hB1.cell]; rfl) ?_  -- ret 0 r3
    exact ⟨by rw [usableM_one]; simp [stepM, hv, retOf], hx1⟩
  ·
    try simp only [decide_eq_true_eq, decide_eq_false_iff_not, Bool.and_eq_true, Bool.and_eq_false_iff, Bool.or_eq_true, Bool.or_eq_false_iff, Bool.not_eq_true', Bool.not_eq_false', Bool.not_eq_true, Bool.not_eq_false] at hct12
    have hv : validM m = true := by { rw [usableM_one] at hct12; cases hv : validM m <;> simp [hv] at hct12 ⊢ }
    have hm : 0 ≤ m ∧ m ≤ 73048 := by { simpa [validM] using hv }
    refine hx_skip ?_
    refine th_norm ?_
    refine hx_seq ?_
    refine hx_region ?_
    refine WL.qq (by simp only [ev_tmp, ev_const, ev_func, set_get, Nat.reduceEqDiff, reduceIte, qv_move, e0, e1, hB1.cell]; rfl) ?_
    refine WL.qq (by simp only [ev_tmp, ev_const, ev_func, set_get, Nat.reduceEqDiff, reduceIte, qv_move, e0, e1, hB1.cell]; rfl) ?_
    refine WL.ck Try.call64 (by simp only [ev_tmp, ev_const, ev_func, set_get, Nat.reduceEqDiff, reduceIte, List.getElem?_toArray, List.getElem?_cons_zero, List.getElem?_cons_succ, List.map_toArray, List.map_cons, List.map_nil, Option.map_some, Option.bind_some, e0, e1, hB1.cell]; exact c_search p wk hs m 1 1 (.inl rfl) hm (by decide) hc) ?_
    refine WL.qq (by simp only [ev_tmp, ev_const, ev_func, set_get, Nat.reduceEqDiff, reduceIte, qv_extract, List.getElem?_toArray, List.getElem?_cons_zero, List.getElem?_cons_succ, List.map_toArray, List.map_cons, List.map_nil, Option.map_some, Option.bind_some, e0, e1, hB1.cell]; rfl) ?_
    refine WL.qq (by simp only [ev_tmp, ev_const, ev_func, set_get, Nat.reduceEqDiff, reduceIte, qv_extract, List.getElem?_toArray, List.getElem?_cons_zero, List.getElem?_cons_succ, List.map_toArray, List.map_cons, List.map_nil, Option.map_some, Option.bind_some, e0, e1, hB1.cell]; rfl) ?_
    refine WL.qq (by simp only [ev_tmp, ev_const, ev_func, set_get, Nat.reduceEqDiff, reduceIte, qv_assign, e0, e1, hB1.cell]; rfl) ?_
    refine WL.qq (by simp only [ev_tmp, ev_const, ev_func, set_get, Nat.reduceEqDiff, reduceIte, qv_assign, e0, e1, hB1.cell]; rfl) ?_
    refine WL.nil ?_
    refine th_norm ?_
    refine hx_ret ?_
    refine fin_ret [.tmp 4, .tmp 5] rfl rfl (by simp only [ev_tmp, ev_const, ev_func, set_get, Nat.reduceEqDiff, reduceIte, resv, e0, e1, hB1.cell]; rfl) ?_  -- ret 1 r4
    exact ⟨by rw [step_search _ _ _ hv]; rfl, hx1⟩
end GL


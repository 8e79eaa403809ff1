/- Calendar: the law on the days between two days, and the last business day of a month. -/
import Derived.Test.YtafdegdodmelpaaCalT
set_option linter.unusedSimpArgs false
set_option linter.unusedVariables false
set_option linter.unnecessarySimpa false
namespace GL
open Go Go.Proofs
set_option maxRecDepth 8000
/-- The business days from d on, k days. -/
def cntM (bus : Int → Bool) : Nat → Int → Int
  | 0, _ => 0
  | k + 1, d => (if bus d = true then 1 else 0) + cntM bus k (d + 1)
theorem cnt_bd (bus : Int → Bool) : ∀ (k : Nat) (d : Int), 0 ≤ cntM bus k d ∧ cntM bus k d ≤ k
  | 0, _ => by simp [cntM]
  | k + 1, d => by
    have := cnt_bd bus k (d + 1)
    simp only [cntM]
    split <;> omega
def betM (bus : Int → Bool) (a b : Int) : Int × Int :=
  if validM a = true ∧ validM b = true then ((if b < a then - cntM bus (a - b).toNat (b + 1) else cntM bus (b - a).toNat (a + 1)), 0) else (0, 2)
theorem c_rbet1 (wk hol : List Int) (a a' : Option Addr) (c c' : Nat) (x y : Int) (hx : 0 ≤ x) (hxy : x ≤ y) (hy : y ≤ 73048) {h : Heap} (hw : SlI h a wk) (hh : SlI h a' hol) (lw : wk.length ≤ 9223372036854775807) (lh : hol.length ≤ 9223372036854775807) {u : Int} (hu : cntM (busM wk hol) (y - x).toNat (x + 1) = u) :
    HCalls Try.prog 32 #[.agg #[.slice a wk.length c, .slice a' hol.length c'], .int .i64 x, .int .i64 y] h (Grow (.tuple #[.int .i64 u, .int .i64 0]) h) := by
  have vx : validM x = true := by simp [validM]; omega
  have vy : validM y = true := by simp [validM]; omega
  refine hcalls2 Try.func32 rfl (by decide +kernel) (by simp only [Try.ntmps32]; exact of_decide_eq_true rfl) ?_
  intro e hin
  have e0 := hin 0 _ rfl
  have e1 := hin 1 _ rfl
  have e2 := hin 2 _ rfl
  refine hx_seq ?_
  refine hx_region ?_
  refine WL.box2 (by simp only [ev_tmp, ev_const, ev_func, set_get, Nat.reduceEqDiff, reduceIte, Value.cells, e0, e1, e2]; rfl) ?_
  intro h1 B1 hx1 hlt1 hB1
  replace hw := hw.ext hx1
  replace hh := hh.ext hx1
  refine WL.qq (by simp only [ev_tmp, ev_const, ev_func, set_get, Nat.reduceEqDiff, reduceIte, qv_assign, e0, e1, e2, hB1.cell]; rfl) ?_
  refine WL.qq (by simp only [ev_tmp, ev_const, ev_func, set_get, Nat.reduceEqDiff, reduceIte, qv_assign, e0, e1, e2, hB1.cell]; rfl) ?_
  refine WL.nil ?_
  refine th_norm ?_
  refine hx_seq ?_
  refine hx_seq ?_
  refine hx_region ?_
  refine WL.qq (by simp only [ev_tmp, ev_const, ev_func, set_get, Nat.reduceEqDiff, reduceIte, qv_move, e0, e1, e2, hB1.cell]; rfl) ?_
  refine WL.ck Try.call37 (by simp only [ev_tmp, ev_const, ev_func, set_get, Nat.reduceEqDiff, reduceIte, List.getElem?_toArray, List.getElem?_cons_zero, List.getElem?_cons_succ, List.map_toArray, List.map_cons, List.map_nil, Option.map_some, Option.bind_some, e0, e1, e2, hB1.cell]; exact c_rvalid _ _) ?_
  refine WL.qq (by simp only [ev_tmp, ev_const, ev_func, set_get, Nat.reduceEqDiff, reduceIte, qv_unOp, unv_not, e0, e1, e2, hB1.cell]; rfl) ?_
  refine WL.qq (by simp only [ev_tmp, ev_const, ev_func, set_get, Nat.reduceEqDiff, reduceIte, qv_move, e0, e1, e2, hB1.cell]; rfl) ?_
  refine WL.cq (gd_at (t := 15) rfl (by simp only [ev_tmp, ev_const, ev_func, set_get, Nat.reduceEqDiff, reduceIte, e0, e1, e2, hB1.cell]; rfl)) (fun hg1_4 => by simp only [ev_tmp, ev_const, ev_func, set_get, Nat.reduceEqDiff, reduceIte, qv_move, e0, e1, e2, hB1.cell, hg1_4, Bool.false_eq_true, Bool.true_eq_false, eq_self, if_true, if_false, true_and, and_true, false_and, and_false]; rfl) ?_
  refine WL.cck (gd_at (t := 15) rfl (by simp only [ev_tmp, ev_const, ev_func, set_get, Nat.reduceEqDiff, reduceIte, e0, e1, e2, hB1.cell]; rfl)) Try.call37 (fun hg1_5 => by simp only [ev_tmp, ev_const, ev_func, set_get, Nat.reduceEqDiff, reduceIte, List.getElem?_toArray, List.getElem?_cons_zero, List.getElem?_cons_succ, List.map_toArray, List.map_cons, List.map_nil, Option.map_some, Option.bind_some, e0, e1, e2, hB1.cell, hg1_5, Bool.false_eq_true, Bool.true_eq_false, eq_self, if_true, if_false, true_and, and_true, false_and, and_false]; exact c_rvalid _ _) ?_
  refine WL.cq (gd_at (t := 15) rfl (by simp only [ev_tmp, ev_const, ev_func, set_get, Nat.reduceEqDiff, reduceIte, e0, e1, e2, hB1.cell]; rfl)) (fun hg1_6 => by simp only [ev_tmp, ev_const, ev_func, set_get, Nat.reduceEqDiff, reduceIte, qv_unOp, unv_not, e0, e1, e2, hB1.cell, hg1_6, Bool.false_eq_true, Bool.true_eq_false, eq_self, if_true, if_false, true_and, and_true, false_and, and_false]; rfl) ?_
  refine WL.qq (by simp only [ev_tmp, ev_const, ev_func, set_get, Nat.reduceEqDiff, reduceIte, qv_pick, pk_and, pk_or, Bool.false_eq_true, Bool.true_eq_false, eq_self, if_true, if_false, true_and, and_true, false_and, and_false, e0, e1, e2, hB1.cell]; rfl) ?_
  refine WL.nil ?_
  refine th_norm ?_
  refine hx_cond (by simp only [ev_tmp, ev_const, ev_func, set_get, Nat.reduceEqDiff, reduceIte, e0, e1, e2, hB1.cell]; rfl) (fun hct19 => ?_) (fun hct19 => ?_)
  ·
    simp [vx, vy] at hct19
  ·
    try simp only [decide_eq_true_eq, decide_eq_false_iff_not, Bool.and_eq_true, Bool.and_eq_false_iff, Bool.or_eq_true, Bool.or_eq_false_iff, Bool.not_eq_true', Bool.not_eq_false', Bool.not_eq_true, Bool.not_eq_false] at hct19
    refine hx_skip ?_
    refine th_norm ?_
    refine hx_seq ?_
    refine hx_seq ?_
    refine hx_region ?_
    refine WL.qq (by simp only [ev_tmp, ev_const, ev_func, set_get, Nat.reduceEqDiff, reduceIte, qv_move, e0, e1, e2, hB1.cell]; rfl) ?_
    refine WL.qq (by simp only [ev_tmp, ev_const, ev_func, set_get, Nat.reduceEqDiff, reduceIte, qv_move, e0, e1, e2, hB1.cell]; rfl) ?_
    refine WL.qq (by simp only [ev_tmp, ev_const, ev_func, set_get, Nat.reduceEqDiff, reduceIte, qv_binOp, binv_gtr, e0, e1, e2, hB1.cell]; rfl) ?_
    refine WL.nil ?_
    refine th_norm ?_
    refine hx_cond (by simp only [ev_tmp, ev_const, ev_func, set_get, Nat.reduceEqDiff, reduceIte, e0, e1, e2, hB1.cell]; rfl) (fun hct22 => ?_) (fun hct22 => ?_)
    ·
      (simp at hct22; omega)
    ·
      try simp only [decide_eq_true_eq, decide_eq_false_iff_not, Bool.and_eq_true, Bool.and_eq_false_iff, Bool.or_eq_true, Bool.or_eq_false_iff, Bool.not_eq_true', Bool.not_eq_false', Bool.not_eq_true, Bool.not_eq_false] at hct22
      refine hx_skip ?_
      refine th_norm ?_
      refine hx_seq ?_
      refine hx_region ?_
      refine WL.qq (by simp only [ev_tmp, ev_const, ev_func, set_get, Nat.reduceEqDiff, reduceIte, qv_assign, e0, e1, e2, hB1.cell]; rfl) ?_
      refine WL.nil ?_
      refine th_norm ?_
      refine hx_seq ?_
      refine hx_seq ?_
      refine hx_region ?_
      refine WL.qq (by simp only [ev_tmp, ev_const, ev_func, set_get, Nat.reduceEqDiff, reduceIte, qv_move, e0, e1, e2, hB1.cell]; rfl) ?_
      refine WL.qq (by simp only [ev_tmp, ev_const, ev_func, set_get, Nat.reduceEqDiff, reduceIte, qv_binOp, binv_add, e0, e1, e2, hB1.cell]; (try simp (disch := omega) only [w64, w8, wu64]); rfl) ?_
      refine WL.qq (by simp only [ev_tmp, ev_const, ev_func, set_get, Nat.reduceEqDiff, reduceIte, qv_assign, e0, e1, e2, hB1.cell]; rfl) ?_
      refine WL.nil ?_
      refine th_norm ?_
      refine hx_block ?_
      refine hx_loopX [10, 11, 34, 35, 36, 37, 38, 39, 40, 41, 42, 43] (fun k e => ∃ (d : Int) (n : Int), (y + 1 - d).toNat = k ∧ (x + 1 ≤ d ∧ d ≤ y + 1) ∧ (0 ≤ n ∧ n ≤ d) ∧ (n + cntM (busM wk hol) (y + 1 - d).toNat d = u) ∧ e 10 = .int .i64 n ∧ e 11 = .int .i64 d) _ ⟨x + 1, 0, rfl, ?_, ?_, ?_, ?_, ?_⟩ ?_
      · omega
      · omega
      · rw [Int.zero_add, show y + 1 - (x + 1) = y - x from by omega]; exact hu
      · simp only [ev_tmp, ev_const, ev_func, set_get, Nat.reduceEqDiff, reduceIte, e0, e1, e2, hB1.cell] <;> rfl
      · simp only [ev_tmp, ev_const, ev_func, set_get, Nat.reduceEqDiff, reduceIte, e0, e1, e2, hB1.cell] <;> rfl
      ·
        rintro k e0L hL0 hX0 hfr0 ⟨d, n, rfl, hd, hn, hc, i10_0, i11_0⟩
        replace hw := hw.ext hX0
        replace hh := hh.ext hX0
        replace hB1 := hB1.ext hX0
        have k2_0 := hfr0 2 rfl; simp only [ev_tmp, ev_const, ev_func, set_get, Nat.reduceEqDiff, reduceIte, e0, e1, e2, hB1.cell] at k2_0
        have k3_0 := hfr0 3 rfl; simp only [ev_tmp, ev_const, ev_func, set_get, Nat.reduceEqDiff, reduceIte, e0, e1, e2, hB1.cell] at k3_0
        have k6_0 := hfr0 6 rfl; simp only [ev_tmp, ev_const, ev_func, set_get, Nat.reduceEqDiff, reduceIte, e0, e1, e2, hB1.cell] at k6_0
        have k7_0 := hfr0 7 rfl; simp only [ev_tmp, ev_const, ev_func, set_get, Nat.reduceEqDiff, reduceIte, e0, e1, e2, hB1.cell] at k7_0
        refine hx_seq ?_
        refine hx_seq ?_
        refine hx_region ?_
        refine WL.qq (by simp only [ev_tmp, ev_const, ev_func, set_get, Nat.reduceEqDiff, reduceIte, qv_move, k2_0, k3_0, k6_0, k7_0, i10_0, i11_0, hB1.cell]; rfl) ?_
        refine WL.qq (by simp only [ev_tmp, ev_const, ev_func, set_get, Nat.reduceEqDiff, reduceIte, qv_move, k2_0, k3_0, k6_0, k7_0, i10_0, i11_0, hB1.cell]; rfl) ?_
        refine WL.qq (by simp only [ev_tmp, ev_const, ev_func, set_get, Nat.reduceEqDiff, reduceIte, qv_binOp, binv_leq, k2_0, k3_0, k6_0, k7_0, i10_0, i11_0, hB1.cell]; rfl) ?_
        refine WL.nil ?_
        refine th_norm ?_
        refine hx_cond (by simp only [ev_tmp, ev_const, ev_func, set_get, Nat.reduceEqDiff, reduceIte, k2_0, k3_0, k6_0, k7_0, i10_0, i11_0, hB1.cell]; rfl) (fun hct36 => ?_) (fun hct36 => ?_)
        ·
          try simp only [decide_eq_true_eq, decide_eq_false_iff_not, Bool.and_eq_true, Bool.and_eq_false_iff, Bool.or_eq_true, Bool.or_eq_false_iff, Bool.not_eq_true', Bool.not_eq_false', Bool.not_eq_true, Bool.not_eq_false] at hct36
          have e1 : (y + 1 - d).toNat = (y + 1 - (d + 1)).toNat + 1 := by omega
          rw [e1] at hc; simp only [cntM] at hc
          refine hx_skip ?_
          refine th_norm ?_
          refine hx_seq ?_
          refine hx_block ?_
          refine hx_seq ?_
          refine hx_region ?_
          refine WL.qq (by simp only [ev_tmp, ev_const, ev_func, set_get, Nat.reduceEqDiff, reduceIte, qv_load, ld24, readN, List.getElem?_toArray, List.getElem?_cons_zero, List.getElem?_cons_succ, List.map_toArray, List.map_cons, List.map_nil, Option.map_some, Option.bind_some, Nat.zero_add, Nat.reduceAdd, k2_0, k3_0, k6_0, k7_0, i10_0, i11_0, hB1.cell]; rfl) ?_
          refine WL.qq (by simp only [ev_tmp, ev_const, ev_func, set_get, Nat.reduceEqDiff, reduceIte, qv_move, k2_0, k3_0, k6_0, k7_0, i10_0, i11_0, hB1.cell]; rfl) ?_
          refine WL.cg Try.call22 (by simp only [ev_tmp, ev_const, ev_func, set_get, Nat.reduceEqDiff, reduceIte, List.getElem?_toArray, List.getElem?_cons_zero, List.getElem?_cons_succ, List.map_toArray, List.map_cons, List.map_nil, Option.map_some, Option.bind_some, k2_0, k3_0, k6_0, k7_0, i10_0, i11_0, hB1.cell]; exact c_ris wk hol _ _ _ _ d hw hh lw lh) ?_
          intro h2 hx2
          replace hw := hw.ext hx2
          replace hh := hh.ext hx2
          replace hB1 := hB1.ext hx2
          refine WL.nil ?_
          refine th_norm ?_
          refine hx_cond (by simp only [ev_tmp, ev_const, ev_func, set_get, Nat.reduceEqDiff, reduceIte, k2_0, k3_0, k6_0, k7_0, i10_0, i11_0, hB1.cell]; rfl) (fun hct41 => ?_) (fun hct41 => ?_)
          ·
            try simp only [decide_eq_true_eq, decide_eq_false_iff_not, Bool.and_eq_true, Bool.and_eq_false_iff, Bool.or_eq_true, Bool.or_eq_false_iff, Bool.not_eq_true', Bool.not_eq_false', Bool.not_eq_true, Bool.not_eq_false] at hct41
            refine hx_region ?_
            refine WL.qq (by simp only [ev_tmp, ev_const, ev_func, set_get, Nat.reduceEqDiff, reduceIte, qv_move, k2_0, k3_0, k6_0, k7_0, i10_0, i11_0, hB1.cell]; rfl) ?_
            refine WL.qq (by simp only [ev_tmp, ev_const, ev_func, set_get, Nat.reduceEqDiff, reduceIte, qv_binOp, binv_add, k2_0, k3_0, k6_0, k7_0, i10_0, i11_0, hB1.cell]; (try simp (disch := omega) only [w64, w8, wu64]); rfl) ?_
            refine WL.qq (by simp only [ev_tmp, ev_const, ev_func, set_get, Nat.reduceEqDiff, reduceIte, qv_assign, k2_0, k3_0, k6_0, k7_0, i10_0, i11_0, hB1.cell]; rfl) ?_
            refine WL.nil ?_
            refine bl_norm ?_
            refine th_norm ?_
            refine hx_region ?_
            refine WL.qq (by simp only [ev_tmp, ev_const, ev_func, set_get, Nat.reduceEqDiff, reduceIte, qv_move, k2_0, k3_0, k6_0, k7_0, i10_0, i11_0, hB1.cell]; rfl) ?_
            refine WL.qq (by simp only [ev_tmp, ev_const, ev_func, set_get, Nat.reduceEqDiff, reduceIte, qv_binOp, binv_add, k2_0, k3_0, k6_0, k7_0, i10_0, i11_0, hB1.cell]; (try simp (disch := omega) only [w64, w8, wu64]); rfl) ?_
            refine WL.qq (by simp only [ev_tmp, ev_const, ev_func, set_get, Nat.reduceEqDiff, reduceIte, qv_assign, k2_0, k3_0, k6_0, k7_0, i10_0, i11_0, hB1.cell]; rfl) ?_
            refine WL.nil ?_
            refine th_norm ?_
            refine ⟨rfl, ?_, ?_, _, ?_, d + 1, n + 1, rfl, ?_, ?_, ?_, ?_, ?_⟩  -- again 0 of loop 0
            · exact hx2
            · (repeat (first | exact Fr.refl _ _ | refine Fr.set rfl ?_ | refine Fr.put rfl ?_ | refine Fr.put0 ?_))
            · omega
            · first | omega | (rw [if_pos hct41] at hc; omega)
            · first | omega | (rw [if_pos hct41] at hc; omega)
            · first | omega | (rw [if_pos hct41] at hc; omega)
            · simp only [ev_tmp, ev_const, ev_func, set_get, Nat.reduceEqDiff, reduceIte, k2_0, k3_0, k6_0, k7_0, i10_0, i11_0, hB1.cell] <;> first | rfl | (congr 1; omega)
            · simp only [ev_tmp, ev_const, ev_func, set_get, Nat.reduceEqDiff, reduceIte, k2_0, k3_0, k6_0, k7_0, i10_0, i11_0, hB1.cell] <;> first | rfl | (congr 1; omega)
          ·
            try simp only [decide_eq_true_eq, decide_eq_false_iff_not, Bool.and_eq_true, Bool.and_eq_false_iff, Bool.or_eq_true, Bool.or_eq_false_iff, Bool.not_eq_true', Bool.not_eq_false', Bool.not_eq_true, Bool.not_eq_false] at hct41
            refine hx_skip ?_
            refine bl_norm ?_
            refine th_norm ?_
            refine hx_region ?_
            refine WL.qq (by simp only [ev_tmp, ev_const, ev_func, set_get, Nat.reduceEqDiff, reduceIte, qv_move, k2_0, k3_0, k6_0, k7_0, i10_0, i11_0, hB1.cell]; rfl) ?_
            refine WL.qq (by simp only [ev_tmp, ev_const, ev_func, set_get, Nat.reduceEqDiff, reduceIte, qv_binOp, binv_add, k2_0, k3_0, k6_0, k7_0, i10_0, i11_0, hB1.cell]; (try simp (disch := omega) only [w64, w8, wu64]); rfl) ?_
            refine WL.qq (by simp only [ev_tmp, ev_const, ev_func, set_get, Nat.reduceEqDiff, reduceIte, qv_assign, k2_0, k3_0, k6_0, k7_0, i10_0, i11_0, hB1.cell]; rfl) ?_
            refine WL.nil ?_
            refine th_norm ?_
            refine ⟨rfl, ?_, ?_, _, ?_, d + 1, n, rfl, ?_, ?_, ?_, ?_, ?_⟩  -- again 1 of loop 0
            · exact hx2
            · (repeat (first | exact Fr.refl _ _ | refine Fr.set rfl ?_ | refine Fr.put rfl ?_ | refine Fr.put0 ?_))
            · omega
            · first | omega | (rw [if_neg (by simp [hct41])] at hc; omega)
            · first | omega | (rw [if_neg (by simp [hct41])] at hc; omega)
            · first | omega | (rw [if_neg (by simp [hct41])] at hc; omega)
            · simp only [ev_tmp, ev_const, ev_func, set_get, Nat.reduceEqDiff, reduceIte, k2_0, k3_0, k6_0, k7_0, i10_0, i11_0, hB1.cell] <;> first | rfl | (congr 1; omega)
            · simp only [ev_tmp, ev_const, ev_func, set_get, Nat.reduceEqDiff, reduceIte, k2_0, k3_0, k6_0, k7_0, i10_0, i11_0, hB1.cell] <;> first | rfl | (congr 1; omega)
        ·
          try simp only [decide_eq_true_eq, decide_eq_false_iff_not, Bool.and_eq_true, Bool.and_eq_false_iff, Bool.or_eq_true, Bool.or_eq_false_iff, Bool.not_eq_true', Bool.not_eq_false', Bool.not_eq_true, Bool.not_eq_false] at hct36
          have e1 : (y + 1 - d).toNat = 0 := by omega
          rw [e1] at hc; simp only [cntM] at hc
          refine hx_exit ?_
          refine th_exit ?_
          refine th_exit ?_
          refine bl_hit ?_
          refine th_norm ?_
          refine hx_seq ?_
          refine hx_region ?_
          refine WL.qq (by simp only [ev_tmp, ev_const, ev_func, set_get, Nat.reduceEqDiff, reduceIte, qv_move, k2_0, k3_0, k6_0, k7_0, i10_0, i11_0, hB1.cell]; rfl) ?_
          refine WL.qq (by simp only [ev_tmp, ev_const, ev_func, set_get, Nat.reduceEqDiff, reduceIte, qv_assign, k2_0, k3_0, k6_0, k7_0, i10_0, i11_0, hB1.cell]; rfl) ?_
          refine WL.qq (by simp only [ev_tmp, ev_const, ev_func, set_get, Nat.reduceEqDiff, reduceIte, qv_assign, k2_0, k3_0, k6_0, k7_0, i10_0, i11_0, hB1.cell]; rfl) ?_
          refine WL.nil ?_
          refine th_norm ?_
          refine hx_ret ?_
          refine fin_ret [.tmp 6, .tmp 7] rfl rfl (by simp only [ev_tmp, ev_const, ev_func, set_get, Nat.reduceEqDiff, reduceIte, resv, k2_0, k3_0, k6_0, k7_0, i10_0, i11_0, hB1.cell]; rfl) ?_  -- ret 0 r12
          exact ⟨by rw [← hc, Int.add_zero]; rfl, ((hx1).trans (hX0))⟩
theorem c_rbet (wk hol : List Int) (a a' : Option Addr) (c c' : Nat) (x y : Int) {h : Heap} (hw : SlI h a wk) (hh : SlI h a' hol) (lw : wk.length ≤ 9223372036854775807) (lh : hol.length ≤ 9223372036854775807) {u v : Int} (hu : betM (busM wk hol) x y = (u, v)) :
    HCalls Try.prog 32 #[.agg #[.slice a wk.length c, .slice a' hol.length c'], .int .i64 x, .int .i64 y] h (Grow (.tuple #[.int .i64 u, .int .i64 v]) h) := by
  by_cases hv : validM x = true ∧ validM y = true
  · have bx := valid_bd hv.1
    have bY := valid_bd hv.2
    unfold betM at hu
    rw [if_pos hv] at hu
    by_cases hlt : y < x
    · rw [if_pos hlt] at hu
      cases hu
      obtain ⟨w, hq⟩ : ∃ w, cntM (busM wk hol) (x - y).toNat (y + 1) = w := ⟨_, rfl⟩
      have hb := cnt_bd (busM wk hol) (x - y).toNat (y + 1)
      rw [hq] at hb ⊢
      refine hcalls2 Try.func32 rfl (by decide +kernel) (by simp only [Try.ntmps32]; exact of_decide_eq_true rfl) ?_
      intro e hin
      have e0 := hin 0 _ rfl
      have e1 := hin 1 _ rfl
      have e2 := hin 2 _ rfl
      refine hx_seq ?_
      refine hx_region ?_
      refine WL.box2 (by simp only [ev_tmp, ev_const, ev_func, set_get, Nat.reduceEqDiff, reduceIte, Value.cells, e0, e1, e2]; rfl) ?_
      intro h1 B1 hx1 hlt1 hB1
      replace hw := hw.ext hx1
      replace hh := hh.ext hx1
      refine WL.qq (by simp only [ev_tmp, ev_const, ev_func, set_get, Nat.reduceEqDiff, reduceIte, qv_assign, e0, e1, e2, hB1.cell]; rfl) ?_
      refine WL.qq (by simp only [ev_tmp, ev_const, ev_func, set_get, Nat.reduceEqDiff, reduceIte, qv_assign, e0, e1, e2, hB1.cell]; rfl) ?_
      refine WL.nil ?_
      refine th_norm ?_
      refine hx_seq ?_
      refine hx_seq ?_
      refine hx_region ?_
      refine WL.qq (by simp only [ev_tmp, ev_const, ev_func, set_get, Nat.reduceEqDiff, reduceIte, qv_move, e0, e1, e2, hB1.cell]; rfl) ?_
      refine WL.ck Try.call37 (by simp only [ev_tmp, ev_const, ev_func, set_get, Nat.reduceEqDiff, reduceIte, List.getElem?_toArray, List.getElem?_cons_zero, List.getElem?_cons_succ, List.map_toArray, List.map_cons, List.map_nil, Option.map_some, Option.bind_some, e0, e1, e2, hB1.cell]; exact c_rvalid _ _) ?_
      refine WL.qq (by simp only [ev_tmp, ev_const, ev_func, set_get, Nat.reduceEqDiff, reduceIte, qv_unOp, unv_not, e0, e1, e2, hB1.cell]; rfl) ?_
      refine WL.qq (by simp only [ev_tmp, ev_const, ev_func, set_get, Nat.reduceEqDiff, reduceIte, qv_move, e0, e1, e2, hB1.cell]; rfl) ?_
      refine WL.cq (gd_at (t := 15) rfl (by simp only [ev_tmp, ev_const, ev_func, set_get, Nat.reduceEqDiff, reduceIte, e0, e1, e2, hB1.cell]; rfl)) (fun hg1_4 => by simp only [ev_tmp, ev_const, ev_func, set_get, Nat.reduceEqDiff, reduceIte, qv_move, e0, e1, e2, hB1.cell, hg1_4, Bool.false_eq_true, Bool.true_eq_false, eq_self, if_true, if_false, true_and, and_true, false_and, and_false]; rfl) ?_
      refine WL.cck (gd_at (t := 15) rfl (by simp only [ev_tmp, ev_const, ev_func, set_get, Nat.reduceEqDiff, reduceIte, e0, e1, e2, hB1.cell]; rfl)) Try.call37 (fun hg1_5 => by simp only [ev_tmp, ev_const, ev_func, set_get, Nat.reduceEqDiff, reduceIte, List.getElem?_toArray, List.getElem?_cons_zero, List.getElem?_cons_succ, List.map_toArray, List.map_cons, List.map_nil, Option.map_some, Option.bind_some, e0, e1, e2, hB1.cell, hg1_5, Bool.false_eq_true, Bool.true_eq_false, eq_self, if_true, if_false, true_and, and_true, false_and, and_false]; exact c_rvalid _ _) ?_
      refine WL.cq (gd_at (t := 15) rfl (by simp only [ev_tmp, ev_const, ev_func, set_get, Nat.reduceEqDiff, reduceIte, e0, e1, e2, hB1.cell]; rfl)) (fun hg1_6 => by simp only [ev_tmp, ev_const, ev_func, set_get, Nat.reduceEqDiff, reduceIte, qv_unOp, unv_not, e0, e1, e2, hB1.cell, hg1_6, Bool.false_eq_true, Bool.true_eq_false, eq_self, if_true, if_false, true_and, and_true, false_and, and_false]; rfl) ?_
      refine WL.qq (by simp only [ev_tmp, ev_const, ev_func, set_get, Nat.reduceEqDiff, reduceIte, qv_pick, pk_and, pk_or, Bool.false_eq_true, Bool.true_eq_false, eq_self, if_true, if_false, true_and, and_true, false_and, and_false, e0, e1, e2, hB1.cell]; rfl) ?_
      refine WL.nil ?_
      refine th_norm ?_
      refine hx_cond (by simp only [ev_tmp, ev_const, ev_func, set_get, Nat.reduceEqDiff, reduceIte, e0, e1, e2, hB1.cell]; rfl) (fun hct19 => ?_) (fun hct19 => ?_)
      ·
        simp [hv] at hct19
      ·
        try simp only [decide_eq_true_eq, decide_eq_false_iff_not, Bool.and_eq_true, Bool.and_eq_false_iff, Bool.or_eq_true, Bool.or_eq_false_iff, Bool.not_eq_true', Bool.not_eq_false', Bool.not_eq_true, Bool.not_eq_false] at hct19
        refine hx_skip ?_
        refine th_norm ?_
        refine hx_seq ?_
        refine hx_seq ?_
        refine hx_region ?_
        refine WL.qq (by simp only [ev_tmp, ev_const, ev_func, set_get, Nat.reduceEqDiff, reduceIte, qv_move, e0, e1, e2, hB1.cell]; rfl) ?_
        refine WL.qq (by simp only [ev_tmp, ev_const, ev_func, set_get, Nat.reduceEqDiff, reduceIte, qv_move, e0, e1, e2, hB1.cell]; rfl) ?_
        refine WL.qq (by simp only [ev_tmp, ev_const, ev_func, set_get, Nat.reduceEqDiff, reduceIte, qv_binOp, binv_gtr, e0, e1, e2, hB1.cell]; rfl) ?_
        refine WL.nil ?_
        refine th_norm ?_
        refine hx_cond (by simp only [ev_tmp, ev_const, ev_func, set_get, Nat.reduceEqDiff, reduceIte, e0, e1, e2, hB1.cell]; rfl) (fun hct22 => ?_) (fun hct22 => ?_)
        ·
          try simp only [decide_eq_true_eq, decide_eq_false_iff_not, Bool.and_eq_true, Bool.and_eq_false_iff, Bool.or_eq_true, Bool.or_eq_false_iff, Bool.not_eq_true', Bool.not_eq_false', Bool.not_eq_true, Bool.not_eq_false] at hct22
          refine hx_seq ?_
          refine hx_region ?_
          refine WL.qq (by simp only [ev_tmp, ev_const, ev_func, set_get, Nat.reduceEqDiff, reduceIte, qv_load, ld24, readN, List.getElem?_toArray, List.getElem?_cons_zero, List.getElem?_cons_succ, List.map_toArray, List.map_cons, List.map_nil, Option.map_some, Option.bind_some, Nat.zero_add, Nat.reduceAdd, e0, e1, e2, hB1.cell]; rfl) ?_
          refine WL.qq (by simp only [ev_tmp, ev_const, ev_func, set_get, Nat.reduceEqDiff, reduceIte, qv_move, e0, e1, e2, hB1.cell]; rfl) ?_
          refine WL.qq (by simp only [ev_tmp, ev_const, ev_func, set_get, Nat.reduceEqDiff, reduceIte, qv_move, e0, e1, e2, hB1.cell]; rfl) ?_
          refine WL.cg Try.call32 (by simp only [ev_tmp, ev_const, ev_func, set_get, Nat.reduceEqDiff, reduceIte, List.getElem?_toArray, List.getElem?_cons_zero, List.getElem?_cons_succ, List.map_toArray, List.map_cons, List.map_nil, Option.map_some, Option.bind_some, e0, e1, e2, hB1.cell]; exact c_rbet1 wk hol _ _ _ _ y x bY.1 (by omega) bx.2 hw hh lw lh hq) ?_
          intro h2 hx2
          replace hw := hw.ext hx2
          replace hh := hh.ext hx2
          replace hB1 := hB1.ext hx2
          refine WL.qq (by simp only [ev_tmp, ev_const, ev_func, set_get, Nat.reduceEqDiff, reduceIte, qv_move, e0, e1, e2, hB1.cell]; rfl) ?_
          refine WL.qq (by simp only [ev_tmp, ev_const, ev_func, set_get, Nat.reduceEqDiff, reduceIte, qv_extract, List.getElem?_toArray, List.getElem?_cons_zero, List.getElem?_cons_succ, List.map_toArray, List.map_cons, List.map_nil, Option.map_some, Option.bind_some, e0, e1, e2, hB1.cell]; rfl) ?_
          refine WL.qq (by simp only [ev_tmp, ev_const, ev_func, set_get, Nat.reduceEqDiff, reduceIte, qv_extract, List.getElem?_toArray, List.getElem?_cons_zero, List.getElem?_cons_succ, List.map_toArray, List.map_cons, List.map_nil, Option.map_some, Option.bind_some, e0, e1, e2, hB1.cell]; rfl) ?_
          refine WL.qq (by simp only [ev_tmp, ev_const, ev_func, set_get, Nat.reduceEqDiff, reduceIte, qv_assign, e0, e1, e2, hB1.cell]; rfl) ?_
          refine WL.qq (by simp only [ev_tmp, ev_const, ev_func, set_get, Nat.reduceEqDiff, reduceIte, qv_assign, e0, e1, e2, hB1.cell]; rfl) ?_
          refine WL.nil ?_
          refine th_norm ?_
          refine hx_seq ?_
          refine hx_region ?_
          refine WL.qq (by simp only [ev_tmp, ev_const, ev_func, set_get, Nat.reduceEqDiff, reduceIte, qv_move, e0, e1, e2, hB1.cell]; rfl) ?_
          refine WL.qq (by simp only [ev_tmp, ev_const, ev_func, set_get, Nat.reduceEqDiff, reduceIte, qv_unOp, unv_neg, e0, e1, e2, hB1.cell]; (try simp (disch := omega) only [w64]); rfl) ?_
          refine WL.qq (by simp only [ev_tmp, ev_const, ev_func, set_get, Nat.reduceEqDiff, reduceIte, qv_assign, e0, e1, e2, hB1.cell]; rfl) ?_
          refine WL.qq (by simp only [ev_tmp, ev_const, ev_func, set_get, Nat.reduceEqDiff, reduceIte, qv_assign, e0, e1, e2, hB1.cell]; rfl) ?_
          refine WL.nil ?_
          refine th_norm ?_
          refine hx_ret ?_
          refine th_ret ?_
          refine fin_ret [.tmp 6, .tmp 7] rfl rfl (by simp only [ev_tmp, ev_const, ev_func, set_get, Nat.reduceEqDiff, reduceIte, resv, e0, e1, e2, hB1.cell]; rfl) ?_  -- ret 0 r5
          exact ⟨by simp only [retOf, Int.zero_sub], ((hx1).trans (hx2))⟩
        ·
          (simp at hct22; omega)
    · rw [if_neg hlt] at hu
      cases hu
      exact c_rbet1 wk hol a a' c c' x y bx.1 (by omega) bY.2 hw hh lw lh rfl
  · unfold betM at hu
    rw [if_neg hv] at hu
    cases hu
    refine hcalls2 Try.func32 rfl (by decide +kernel) (by simp only [Try.ntmps32]; exact of_decide_eq_true rfl) ?_
    intro e hin
    have e0 := hin 0 _ rfl
    have e1 := hin 1 _ rfl
    have e2 := hin 2 _ rfl
    refine hx_seq ?_
    refine hx_region ?_
    refine WL.box2 (by simp only [ev_tmp, ev_const, ev_func, set_get, Nat.reduceEqDiff, reduceIte, Value.cells, e0, e1, e2]; rfl) ?_
    intro h1 B1 hx1 hlt1 hB1
    refine WL.qq (by simp only [ev_tmp, ev_const, ev_func, set_get, Nat.reduceEqDiff, reduceIte, qv_assign, e0, e1, e2, hB1.cell]; rfl) ?_
    refine WL.qq (by simp only [ev_tmp, ev_const, ev_func, set_get, Nat.reduceEqDiff, reduceIte, qv_assign, e0, e1, e2, hB1.cell]; rfl) ?_
    refine WL.nil ?_
    refine th_norm ?_
    refine hx_seq ?_
    refine hx_seq ?_
    refine hx_region ?_
    refine WL.qq (by simp only [ev_tmp, ev_const, ev_func, set_get, Nat.reduceEqDiff, reduceIte, qv_move, e0, e1, e2, hB1.cell]; rfl) ?_
    refine WL.ck Try.call37 (by simp only [ev_tmp, ev_const, ev_func, set_get, Nat.reduceEqDiff, reduceIte, List.getElem?_toArray, List.getElem?_cons_zero, List.getElem?_cons_succ, List.map_toArray, List.map_cons, List.map_nil, Option.map_some, Option.bind_some, e0, e1, e2, hB1.cell]; exact c_rvalid _ _) ?_
    refine WL.qq (by simp only [ev_tmp, ev_const, ev_func, set_get, Nat.reduceEqDiff, reduceIte, qv_unOp, unv_not, e0, e1, e2, hB1.cell]; rfl) ?_
    refine WL.qq (by simp only [ev_tmp, ev_const, ev_func, set_get, Nat.reduceEqDiff, reduceIte, qv_move, e0, e1, e2, hB1.cell]; rfl) ?_
    refine WL.cq (gd_at (t := 15) rfl (by simp only [ev_tmp, ev_const, ev_func, set_get, Nat.reduceEqDiff, reduceIte, e0, e1, e2, hB1.cell]; rfl)) (fun hg1_4 => by simp only [ev_tmp, ev_const, ev_func, set_get, Nat.reduceEqDiff, reduceIte, qv_move, e0, e1, e2, hB1.cell, hg1_4, Bool.false_eq_true, Bool.true_eq_false, eq_self, if_true, if_false, true_and, and_true, false_and, and_false]; rfl) ?_
    refine WL.cck (gd_at (t := 15) rfl (by simp only [ev_tmp, ev_const, ev_func, set_get, Nat.reduceEqDiff, reduceIte, e0, e1, e2, hB1.cell]; rfl)) Try.call37 (fun hg1_5 => by simp only [ev_tmp, ev_const, ev_func, set_get, Nat.reduceEqDiff, reduceIte, List.getElem?_toArray, List.getElem?_cons_zero, List.getElem?_cons_succ, List.map_toArray, List.map_cons, List.map_nil, Option.map_some, Option.bind_some, e0, e1, e2, hB1.cell, hg1_5, Bool.false_eq_true, Bool.true_eq_false, eq_self, if_true, if_false, true_and, and_true, false_and, and_false]; exact c_rvalid _ _) ?_
    refine WL.cq (gd_at (t := 15) rfl (by simp only [ev_tmp, ev_const, ev_func, set_get, Nat.reduceEqDiff, reduceIte, e0, e1, e2, hB1.cell]; rfl)) (fun hg1_6 => by simp only [ev_tmp, ev_const, ev_func, set_get, Nat.reduceEqDiff, reduceIte, qv_unOp, unv_not, e0, e1, e2, hB1.cell, hg1_6, Bool.false_eq_true, Bool.true_eq_false, eq_self, if_true, if_false, true_and, and_true, false_and, and_false]; rfl) ?_
    refine WL.qq (by simp only [ev_tmp, ev_const, ev_func, set_get, Nat.reduceEqDiff, reduceIte, qv_pick, pk_and, pk_or, Bool.false_eq_true, Bool.true_eq_false, eq_self, if_true, if_false, true_and, and_true, false_and, and_false, e0, e1, e2, hB1.cell]; rfl) ?_
    refine WL.nil ?_
    refine th_norm ?_
    refine hx_cond (by simp only [ev_tmp, ev_const, ev_func, set_get, Nat.reduceEqDiff, reduceIte, e0, e1, e2, hB1.cell]; rfl) (fun hct19 => ?_) (fun hct19 => ?_)
    ·
      try simp only [decide_eq_true_eq, decide_eq_false_iff_not, Bool.and_eq_true, Bool.and_eq_false_iff, Bool.or_eq_true, Bool.or_eq_false_iff, Bool.not_eq_true', Bool.not_eq_false', Bool.not_eq_true, Bool.not_eq_false] at hct19
      refine hx_seq ?_
      refine hx_region ?_
      refine WL.qq (by simp only [ev_tmp, ev_const, ev_func, set_get, Nat.reduceEqDiff, reduceIte, qv_assign, e0, e1, e2, hB1.cell]; rfl) ?_
      refine WL.qq (by simp only [ev_tmp, ev_const, ev_func, set_get, Nat.reduceEqDiff, reduceIte, qv_assign, e0, e1, e2, hB1.cell]; rfl) ?_
      refine WL.nil ?_
      refine th_norm ?_
      refine hx_ret ?_
      refine th_ret ?_
      refine fin_ret [.tmp 6, .tmp 7] rfl rfl (by simp only [ev_tmp, ev_const, ev_func, set_get, Nat.reduceEqDiff, reduceIte, resv, e0, e1, e2, hB1.cell]; rfl) ?_  -- ret 0 r2
      exact ⟨rfl, (hx1)⟩
    ·
      (exfalso; apply hv; simp at hct19; exact hct19)
theorem usableM_two (x y : Int) : usableM [x, y] = if validM x = true ∧ validM y = true then 0 else 2 := by
  cases hx : validM x <;> cases hy : validM y <;> simp [usableM, hx, hy]
theorem c_between (p : Nat) (wk hs : List Int) (x y : Int) {h : Heap} (hc : IsCal h p wk hs) {u v : Int} (hu : betM (busM wk hs) x y = (u, v)) :
    HCalls Try.prog 21 #[.pointer (some ⟨p, 0, none⟩), .int .i64 x, .int .i64 y] h (Grow (.tuple #[.int .i64 u, .int .i64 v]) h) := by
  obtain ⟨lo, hlo⟩ : ∃ lo, (if y < x then y else x) = lo := ⟨_, rfl⟩
  obtain ⟨hi, hhi⟩ : ∃ hi, (if x < y then y else x) = hi := ⟨_, rfl⟩
  obtain ⟨w, hw⟩ : ∃ w, cntM (busM wk hs) (hi - lo).toNat (lo + 1) = w := ⟨_, rfl⟩
  refine hcalls2 Try.func21 rfl (by decide +kernel) (by simp only [Try.ntmps21]; exact of_decide_eq_true rfl) ?_
  intro e hin
  have e0 := hin 0 _ rfl
  have e1 := hin 1 _ rfl
  have e2 := hin 2 _ rfl
  refine hx_seq ?_
  refine hx_region ?_
  refine WL.qq (by simp only [ev_tmp, ev_const, ev_func, set_get, Nat.reduceEqDiff, reduceIte, qv_assign, e0, e1, e2]; rfl) ?_
  refine WL.qq (by simp only [ev_tmp, ev_const, ev_func, set_get, Nat.reduceEqDiff, reduceIte, qv_assign, e0, e1, e2]; rfl) ?_
  refine WL.nil ?_
  refine th_norm ?_
  refine hx_seq ?_
  refine hx_seq ?_
  refine hx_region ?_
  refine WL.qq (by simp only [ev_tmp, ev_const, ev_func, set_get, Nat.reduceEqDiff, reduceIte, qv_move, e0, e1, e2]; rfl) ?_
  refine WL.qq (by simp only [ev_tmp, ev_const, ev_func, set_get, Nat.reduceEqDiff, reduceIte, qv_move, e0, e1, e2]; rfl) ?_
  refine WL.qq (by simp only [ev_tmp, ev_const, ev_func, set_get, Nat.reduceEqDiff, reduceIte, qv_move, e0, e1, e2]; rfl) ?_
  refine WL.lit2 #[(.int .i64 0), (.int .i64 0)] Try.underlying22 sz3 zr3 (by decide) (by kernel_rfl) ⟨_, (by simp only [ev_tmp, ev_const, ev_func, set_get, Nat.reduceEqDiff, reduceIte, List.getElem?_toArray, List.getElem?_cons_zero, List.getElem?_cons_succ, List.map_toArray, List.map_cons, List.map_nil, Option.map_some, Option.bind_some, e0, e1, e2]; simp [Instr.fill, Value.cells]; rfl), rfl⟩ ?_
  intro h1 B1 hx1 hlt1 hB1
  replace hc := hc.ext hx1
  refine WL.ck Try.call39 (by simp only [ev_tmp, ev_const, ev_func, set_get, Nat.reduceEqDiff, reduceIte, List.getElem?_toArray, List.getElem?_cons_zero, List.getElem?_cons_succ, List.map_toArray, List.map_cons, List.map_nil, Option.map_some, Option.bind_some, e0, e1, e2, hB1.cell]; exact c_usable _ _ 2 [x, y] (SlI.of hB1) (by simp)) ?_
  refine WL.qq (by simp only [ev_tmp, ev_const, ev_func, set_get, Nat.reduceEqDiff, reduceIte, qv_assign, e0, e1, e2, hB1.cell]; rfl) ?_
  refine WL.nil ?_
  refine th_norm ?_
  refine hx_seq ?_
  refine hx_region ?_
  refine WL.qq (by simp only [ev_tmp, ev_const, ev_func, set_get, Nat.reduceEqDiff, reduceIte, qv_move, e0, e1, e2, hB1.cell]; rfl) ?_
  refine WL.qq (by simp only [ev_tmp, ev_const, ev_func, set_get, Nat.reduceEqDiff, reduceIte, qv_binOp, binv_neq, eq28, Option.map_some, e0, e1, e2, hB1.cell]; rfl) ?_
  refine WL.nil ?_
  refine th_norm ?_
  refine hx_cond (by simp only [ev_tmp, ev_const, ev_func, set_get, Nat.reduceEqDiff, reduceIte, e0, e1, e2, hB1.cell]; rfl) (fun hct17 => ?_) (fun hct17 => ?_)
  ·
    try simp only [decide_eq_true_eq, decide_eq_false_iff_not, Bool.and_eq_true, Bool.and_eq_false_iff, Bool.or_eq_true, Bool.or_eq_false_iff, Bool.not_eq_true', Bool.not_eq_false', Bool.not_eq_true, Bool.not_eq_false] at hct17
    have hv : ¬ (validM x = true ∧ validM y = true) := by { intro hv; rw [usableM_two, if_pos hv] at hct17; exact hct17 rfl }
    refine hx_seq ?_
    refine hx_region ?_
    refine WL.qq (by simp only [ev_tmp, ev_const, ev_func, set_get, Nat.reduceEqDiff, reduceIte, qv_move, e0, e1, e2, hB1.cell]; rfl) ?_
    refine WL.qq (by simp only [ev_tmp, ev_const, ev_func, set_get, Nat.reduceEqDiff, reduceIte, qv_assign, e0, e1, e2, hB1.cell]; rfl) ?_
    refine WL.qq (by simp only [ev_tmp, ev_const, ev_func, set_get, Nat.reduceEqDiff, reduceIte, qv_assign, e0, e1, e2, hB1.cell]; rfl) ?_
    refine WL.nil ?_
    refine th_norm ?_
    refine hx_ret ?_
    refine th_ret ?_
    refine fin_ret [.tmp 6, .tmp 7] rfl rfl (by simp only [ev_tmp, ev_const, ev_func, set_get, Nat.reduceEqDiff, reduceIte, resv, e0, e1, e2, hB1.cell]; rfl) ?_  -- ret 0 r3
    unfold betM at hu; rw [if_neg hv] at hu; cases hu; exact ⟨by rw [usableM_two, if_neg hv]; rfl, (hx1)⟩
  ·
    try simp only [decide_eq_true_eq, decide_eq_false_iff_not, Bool.and_eq_true, Bool.and_eq_false_iff, Bool.or_eq_true, Bool.or_eq_false_iff, Bool.not_eq_true', Bool.not_eq_false', Bool.not_eq_true, Bool.not_eq_false] at hct17
    have hv : validM x = true ∧ validM y = true := by { rw [usableM_two] at hct17; exact Classical.byContradiction fun hn => by (rw [if_neg hn] at hct17; exact absurd hct17 (by decide)) }
    have bx := valid_bd hv.1
    have bY := valid_bd hv.2
    unfold betM at hu; rw [if_pos hv] at hu
    have hb : 0 ≤ lo ∧ lo ≤ hi ∧ hi ≤ 73048 := by { rw [← hlo, ← hhi]; split <;> split <;> omega }
    refine hx_skip ?_
    refine th_norm ?_
    refine hx_seq ?_
    refine hx_region ?_
    refine WL.qq (by simp only [ev_tmp, ev_const, ev_func, set_get, Nat.reduceEqDiff, reduceIte, qv_assign, e0, e1, e2, hB1.cell]; rfl) ?_
    refine WL.nil ?_
    refine th_norm ?_
    refine hx_seq ?_
    refine hx_seq ?_
    refine hx_region ?_
    refine WL.qq (by simp only [ev_tmp, ev_const, ev_func, set_get, Nat.reduceEqDiff, reduceIte, qv_move, e0, e1, e2, hB1.cell]; rfl) ?_
    refine WL.qq (by simp only [ev_tmp, ev_const, ev_func, set_get, Nat.reduceEqDiff, reduceIte, qv_move, e0, e1, e2, hB1.cell]; rfl) ?_
    refine WL.qq (by exact (qv_min2 (x := x) (y := y) (k := .i64) (k' := .i64) (by simp only [ev_tmp, ev_const, ev_func, set_get, Nat.reduceEqDiff, reduceIte, e0, e1, e2, hB1.cell]) (by simp only [ev_tmp, ev_const, ev_func, set_get, Nat.reduceEqDiff, reduceIte, e0, e1, e2, hB1.cell])).trans (by rw [hlo])) ?_
    refine WL.qq (by simp only [ev_tmp, ev_const, ev_func, set_get, Nat.reduceEqDiff, reduceIte, qv_binOp, binv_add, e0, e1, e2, hB1.cell]; (try simp (disch := omega) only [w64, w8, wu64]); rfl) ?_
    refine WL.qq (by simp only [ev_tmp, ev_const, ev_func, set_get, Nat.reduceEqDiff, reduceIte, qv_assign, e0, e1, e2, hB1.cell]; rfl) ?_
    refine WL.nil ?_
    refine th_norm ?_
    refine hx_block ?_
    refine hx_loopS [9, 10, 23, 24, 25, 26, 27, 28, 29, 30, 31, 32, 33, 34] (fun k e => ∃ (d : Int) (n : Int), (hi + 1 - d).toNat = k ∧ (lo + 1 ≤ d ∧ d ≤ hi + 1) ∧ (0 ≤ n ∧ n ≤ d) ∧ (n + cntM (busM wk hs) (hi + 1 - d).toNat d = w) ∧ e 9 = .int .i64 n ∧ e 10 = .int .i64 d) _ ⟨lo + 1, 0, rfl, ?_, ?_, ?_, ?_, ?_⟩ ?_
    · omega
    · omega
    · rw [Int.zero_add, show hi + 1 - (lo + 1) = hi - lo from by omega]; exact hw
    · simp only [ev_tmp, ev_const, ev_func, set_get, Nat.reduceEqDiff, reduceIte, e0, e1, e2, hB1.cell] <;> rfl
    · simp only [ev_tmp, ev_const, ev_func, set_get, Nat.reduceEqDiff, reduceIte, e0, e1, e2, hB1.cell] <;> rfl
    ·
      rintro k e0L hfr0 ⟨d, n, rfl, hd, hn, hcn, i9_0, i10_0⟩
      have k0_0 := hfr0 0 rfl; simp only [ev_tmp, ev_const, ev_func, set_get, Nat.reduceEqDiff, reduceIte, e0, e1, e2, hB1.cell] at k0_0
      have k1_0 := hfr0 1 rfl; simp only [ev_tmp, ev_const, ev_func, set_get, Nat.reduceEqDiff, reduceIte, e0, e1, e2, hB1.cell] at k1_0
      have k2_0 := hfr0 2 rfl; simp only [ev_tmp, ev_const, ev_func, set_get, Nat.reduceEqDiff, reduceIte, e0, e1, e2, hB1.cell] at k2_0
      have k6_0 := hfr0 6 rfl; simp only [ev_tmp, ev_const, ev_func, set_get, Nat.reduceEqDiff, reduceIte, e0, e1, e2, hB1.cell] at k6_0
      have k7_0 := hfr0 7 rfl; simp only [ev_tmp, ev_const, ev_func, set_get, Nat.reduceEqDiff, reduceIte, e0, e1, e2, hB1.cell] at k7_0
      refine hx_seq ?_
      refine hx_seq ?_
      refine hx_region ?_
      refine WL.qq (by simp only [ev_tmp, ev_const, ev_func, set_get, Nat.reduceEqDiff, reduceIte, qv_move, k0_0, k1_0, k2_0, k6_0, k7_0, i9_0, i10_0, hB1.cell]; rfl) ?_
      refine WL.qq (by simp only [ev_tmp, ev_const, ev_func, set_get, Nat.reduceEqDiff, reduceIte, qv_move, k0_0, k1_0, k2_0, k6_0, k7_0, i9_0, i10_0, hB1.cell]; rfl) ?_
      refine WL.qq (by simp only [ev_tmp, ev_const, ev_func, set_get, Nat.reduceEqDiff, reduceIte, qv_move, k0_0, k1_0, k2_0, k6_0, k7_0, i9_0, i10_0, hB1.cell]; rfl) ?_
      refine WL.qq (by exact (qv_max2 (x := x) (y := y) (k := .i64) (k' := .i64) (by simp only [ev_tmp, ev_const, ev_func, set_get, Nat.reduceEqDiff, reduceIte, k0_0, k1_0, k2_0, k6_0, k7_0, i9_0, i10_0, hB1.cell]) (by simp only [ev_tmp, ev_const, ev_func, set_get, Nat.reduceEqDiff, reduceIte, k0_0, k1_0, k2_0, k6_0, k7_0, i9_0, i10_0, hB1.cell])).trans (by rw [hhi])) ?_
      refine WL.qq (by simp only [ev_tmp, ev_const, ev_func, set_get, Nat.reduceEqDiff, reduceIte, qv_binOp, binv_leq, k0_0, k1_0, k2_0, k6_0, k7_0, i9_0, i10_0, hB1.cell]; rfl) ?_
      refine WL.nil ?_
      refine th_norm ?_
      refine hx_cond (by simp only [ev_tmp, ev_const, ev_func, set_get, Nat.reduceEqDiff, reduceIte, k0_0, k1_0, k2_0, k6_0, k7_0, i9_0, i10_0, hB1.cell]; rfl) (fun hct27 => ?_) (fun hct27 => ?_)
      ·
        try simp only [decide_eq_true_eq, decide_eq_false_iff_not, Bool.and_eq_true, Bool.and_eq_false_iff, Bool.or_eq_true, Bool.or_eq_false_iff, Bool.not_eq_true', Bool.not_eq_false', Bool.not_eq_true, Bool.not_eq_false] at hct27
        have e1 : (hi + 1 - d).toNat = (hi + 1 - (d + 1)).toNat + 1 := by omega
        rw [e1] at hcn; simp only [cntM] at hcn
        refine hx_skip ?_
        refine th_norm ?_
        refine hx_seq ?_
        refine hx_block ?_
        refine hx_seq ?_
        refine hx_region ?_
        refine WL.qq (by simp only [ev_tmp, ev_const, ev_func, set_get, Nat.reduceEqDiff, reduceIte, qv_move, k0_0, k1_0, k2_0, k6_0, k7_0, i9_0, i10_0, hB1.cell]; rfl) ?_
        refine WL.qq (by simp only [ev_tmp, ev_const, ev_func, set_get, Nat.reduceEqDiff, reduceIte, qv_move, k0_0, k1_0, k2_0, k6_0, k7_0, i9_0, i10_0, hB1.cell]; rfl) ?_
        refine WL.ck Try.call20 (by simp only [ev_tmp, ev_const, ev_func, set_get, Nat.reduceEqDiff, reduceIte, List.getElem?_toArray, List.getElem?_cons_zero, List.getElem?_cons_succ, List.map_toArray, List.map_cons, List.map_nil, Option.map_some, Option.bind_some, k0_0, k1_0, k2_0, k6_0, k7_0, i9_0, i10_0, hB1.cell]; exact c_isBusiness p wk hs d hc) ?_
        refine WL.nil ?_
        refine th_norm ?_
        refine hx_cond (by simp only [ev_tmp, ev_const, ev_func, set_get, Nat.reduceEqDiff, reduceIte, k0_0, k1_0, k2_0, k6_0, k7_0, i9_0, i10_0, hB1.cell]; rfl) (fun hct32 => ?_) (fun hct32 => ?_)
        ·
          try simp only [decide_eq_true_eq, decide_eq_false_iff_not, Bool.and_eq_true, Bool.and_eq_false_iff, Bool.or_eq_true, Bool.or_eq_false_iff, Bool.not_eq_true', Bool.not_eq_false', Bool.not_eq_true, Bool.not_eq_false] at hct32
          refine hx_region ?_
          refine WL.qq (by simp only [ev_tmp, ev_const, ev_func, set_get, Nat.reduceEqDiff, reduceIte, qv_move, k0_0, k1_0, k2_0, k6_0, k7_0, i9_0, i10_0, hB1.cell]; rfl) ?_
          refine WL.qq (by simp only [ev_tmp, ev_const, ev_func, set_get, Nat.reduceEqDiff, reduceIte, qv_binOp, binv_add, k0_0, k1_0, k2_0, k6_0, k7_0, i9_0, i10_0, hB1.cell]; (try simp (disch := omega) only [w64, w8, wu64]); rfl) ?_
          refine WL.qq (by simp only [ev_tmp, ev_const, ev_func, set_get, Nat.reduceEqDiff, reduceIte, qv_assign, k0_0, k1_0, k2_0, k6_0, k7_0, i9_0, i10_0, hB1.cell]; rfl) ?_
          refine WL.nil ?_
          refine bl_norm ?_
          refine th_norm ?_
          refine hx_region ?_
          refine WL.qq (by simp only [ev_tmp, ev_const, ev_func, set_get, Nat.reduceEqDiff, reduceIte, qv_move, k0_0, k1_0, k2_0, k6_0, k7_0, i9_0, i10_0, hB1.cell]; rfl) ?_
          refine WL.qq (by simp only [ev_tmp, ev_const, ev_func, set_get, Nat.reduceEqDiff, reduceIte, qv_binOp, binv_add, k0_0, k1_0, k2_0, k6_0, k7_0, i9_0, i10_0, hB1.cell]; (try simp (disch := omega) only [w64, w8, wu64]); rfl) ?_
          refine WL.qq (by simp only [ev_tmp, ev_const, ev_func, set_get, Nat.reduceEqDiff, reduceIte, qv_assign, k0_0, k1_0, k2_0, k6_0, k7_0, i9_0, i10_0, hB1.cell]; rfl) ?_
          refine WL.nil ?_
          refine th_norm ?_
          refine ⟨rfl, rfl, ?_, _, ?_, d + 1, n + 1, rfl, ?_, ?_, ?_, ?_, ?_⟩  -- again 0 of loop 0
          · (repeat (first | exact Fr.refl _ _ | refine Fr.set rfl ?_ | refine Fr.put rfl ?_ | refine Fr.put0 ?_))
          · omega
          · first | omega | (rw [if_pos hct32] at hcn; omega)
          · first | omega | (rw [if_pos hct32] at hcn; omega)
          · first | omega | (rw [if_pos hct32] at hcn; omega)
          · simp only [ev_tmp, ev_const, ev_func, set_get, Nat.reduceEqDiff, reduceIte, k0_0, k1_0, k2_0, k6_0, k7_0, i9_0, i10_0, hB1.cell] <;> first | rfl | (congr 1; omega)
          · simp only [ev_tmp, ev_const, ev_func, set_get, Nat.reduceEqDiff, reduceIte, k0_0, k1_0, k2_0, k6_0, k7_0, i9_0, i10_0, hB1.cell] <;> first | rfl | (congr 1; omega)
        ·
          try simp only [decide_eq_true_eq, decide_eq_false_iff_not, Bool.and_eq_true, Bool.and_eq_false_iff, Bool.or_eq_true, Bool.or_eq_false_iff, Bool.not_eq_true', Bool.not_eq_false', Bool.not_eq_true, Bool.not_eq_false] at hct32
          refine hx_skip ?_
          refine bl_norm ?_
          refine th_norm ?_
          refine hx_region ?_
          refine WL.qq (by simp only [ev_tmp, ev_const, ev_func, set_get, Nat.reduceEqDiff, reduceIte, qv_move, k0_0, k1_0, k2_0, k6_0, k7_0, i9_0, i10_0, hB1.cell]; rfl) ?_
          refine WL.qq (by simp only [ev_tmp, ev_const, ev_func, set_get, Nat.reduceEqDiff, reduceIte, qv_binOp, binv_add, k0_0, k1_0, k2_0, k6_0, k7_0, i9_0, i10_0, hB1.cell]; (try simp (disch := omega) only [w64, w8, wu64]); rfl) ?_
          refine WL.qq (by simp only [ev_tmp, ev_const, ev_func, set_get, Nat.reduceEqDiff, reduceIte, qv_assign, k0_0, k1_0, k2_0, k6_0, k7_0, i9_0, i10_0, hB1.cell]; rfl) ?_
          refine WL.nil ?_
          refine th_norm ?_
          refine ⟨rfl, rfl, ?_, _, ?_, d + 1, n, rfl, ?_, ?_, ?_, ?_, ?_⟩  -- again 1 of loop 0
          · (repeat (first | exact Fr.refl _ _ | refine Fr.set rfl ?_ | refine Fr.put rfl ?_ | refine Fr.put0 ?_))
          · omega
          · first | omega | (rw [if_neg (by simp [hct32])] at hcn; omega)
          · first | omega | (rw [if_neg (by simp [hct32])] at hcn; omega)
          · first | omega | (rw [if_neg (by simp [hct32])] at hcn; omega)
          · simp only [ev_tmp, ev_const, ev_func, set_get, Nat.reduceEqDiff, reduceIte, k0_0, k1_0, k2_0, k6_0, k7_0, i9_0, i10_0, hB1.cell] <;> first | rfl | (congr 1; omega)
          · simp only [ev_tmp, ev_const, ev_func, set_get, Nat.reduceEqDiff, reduceIte, k0_0, k1_0, k2_0, k6_0, k7_0, i9_0, i10_0, hB1.cell] <;> first | rfl | (congr 1; omega)
      ·
        try simp only [decide_eq_true_eq, decide_eq_false_iff_not, Bool.and_eq_true, Bool.and_eq_false_iff, Bool.or_eq_true, Bool.or_eq_false_iff, Bool.not_eq_true', Bool.not_eq_false', Bool.not_eq_true, Bool.not_eq_false] at hct27
        have e1 : (hi + 1 - d).toNat = 0 := by omega
        rw [e1] at hcn; simp only [cntM] at hcn
        refine hx_exit ?_
        refine th_exit ?_
        refine th_exit ?_
        refine bl_hit ?_
        refine th_norm ?_
        refine hx_seq ?_
        refine hx_seq ?_
        refine hx_region ?_
        refine WL.qq (by simp only [ev_tmp, ev_const, ev_func, set_get, Nat.reduceEqDiff, reduceIte, qv_move, k0_0, k1_0, k2_0, k6_0, k7_0, i9_0, i10_0, hB1.cell]; rfl) ?_
        refine WL.qq (by simp only [ev_tmp, ev_const, ev_func, set_get, Nat.reduceEqDiff, reduceIte, qv_move, k0_0, k1_0, k2_0, k6_0, k7_0, i9_0, i10_0, hB1.cell]; rfl) ?_
        refine WL.qq (by simp only [ev_tmp, ev_const, ev_func, set_get, Nat.reduceEqDiff, reduceIte, qv_binOp, binv_gtr, k0_0, k1_0, k2_0, k6_0, k7_0, i9_0, i10_0, hB1.cell]; rfl) ?_
        refine WL.nil ?_
        refine th_norm ?_
        refine hx_cond (by simp only [ev_tmp, ev_const, ev_func, set_get, Nat.reduceEqDiff, reduceIte, k0_0, k1_0, k2_0, k6_0, k7_0, i9_0, i10_0, hB1.cell]; rfl) (fun hct37 => ?_) (fun hct37 => ?_)
        ·
          try simp only [decide_eq_true_eq, decide_eq_false_iff_not, Bool.and_eq_true, Bool.and_eq_false_iff, Bool.or_eq_true, Bool.or_eq_false_iff, Bool.not_eq_true', Bool.not_eq_false', Bool.not_eq_true, Bool.not_eq_false] at hct37
          have e2 : lo = y ∧ hi = x := by { rw [← hlo, ← hhi]; exact ⟨if_pos hct37, if_neg (by omega)⟩ }
          rw [if_pos hct37] at hu; rw [e2.1, e2.2] at hw; rw [hw] at hu; cases hu
          refine hx_region ?_
          refine WL.qq (by simp only [ev_tmp, ev_const, ev_func, set_get, Nat.reduceEqDiff, reduceIte, qv_move, k0_0, k1_0, k2_0, k6_0, k7_0, i9_0, i10_0, hB1.cell]; rfl) ?_
          refine WL.qq (by simp only [ev_tmp, ev_const, ev_func, set_get, Nat.reduceEqDiff, reduceIte, qv_unOp, unv_neg, k0_0, k1_0, k2_0, k6_0, k7_0, i9_0, i10_0, hB1.cell]; (try simp (disch := omega) only [w64]); rfl) ?_
          refine WL.qq (by simp only [ev_tmp, ev_const, ev_func, set_get, Nat.reduceEqDiff, reduceIte, qv_assign, k0_0, k1_0, k2_0, k6_0, k7_0, i9_0, i10_0, hB1.cell]; rfl) ?_
          refine WL.nil ?_
          refine th_norm ?_
          refine hx_seq ?_
          refine hx_region ?_
          refine WL.qq (by simp only [ev_tmp, ev_const, ev_func, set_get, Nat.reduceEqDiff, reduceIte, qv_move, k0_0, k1_0, k2_0, k6_0, k7_0, i9_0, i10_0, hB1.cell]; rfl) ?_
          refine WL.qq (by simp only [ev_tmp, ev_const, ev_func, set_get, Nat.reduceEqDiff, reduceIte, qv_assign, k0_0, k1_0, k2_0, k6_0, k7_0, i9_0, i10_0, hB1.cell]; rfl) ?_
          refine WL.qq (by simp only [ev_tmp, ev_const, ev_func, set_get, Nat.reduceEqDiff, reduceIte, qv_assign, k0_0, k1_0, k2_0, k6_0, k7_0, i9_0, i10_0, hB1.cell]; rfl) ?_
          refine WL.nil ?_
          refine th_norm ?_
          refine hx_ret ?_
          refine fin_ret [.tmp 6, .tmp 7] rfl rfl (by simp only [ev_tmp, ev_const, ev_func, set_get, Nat.reduceEqDiff, reduceIte, resv, k0_0, k1_0, k2_0, k6_0, k7_0, i9_0, i10_0, hB1.cell]; rfl) ?_  -- ret 1 r12
          exact ⟨by rw [← hcn, Int.add_zero]; simp only [retOf, Int.zero_sub], (hx1)⟩
        ·
          try simp only [decide_eq_true_eq, decide_eq_false_iff_not, Bool.and_eq_true, Bool.and_eq_false_iff, Bool.or_eq_true, Bool.or_eq_false_iff, Bool.not_eq_true', Bool.not_eq_false', Bool.not_eq_true, Bool.not_eq_false] at hct37
          have e2 : lo = x ∧ hi = y := by { rw [← hlo, ← hhi]; refine ⟨if_neg hct37, ?_⟩; split <;> omega }
          rw [if_neg hct37] at hu; rw [e2.1, e2.2] at hw; rw [hw] at hu; cases hu
          refine hx_skip ?_
          refine th_norm ?_
          refine hx_seq ?_
          refine hx_region ?_
          refine WL.qq (by simp only [ev_tmp, ev_const, ev_func, set_get, Nat.reduceEqDiff, reduceIte, qv_move, k0_0, k1_0, k2_0, k6_0, k7_0, i9_0, i10_0, hB1.cell]; rfl) ?_
          refine WL.qq (by simp only [ev_tmp, ev_const, ev_func, set_get, Nat.reduceEqDiff, reduceIte, qv_assign, k0_0, k1_0, k2_0, k6_0, k7_0, i9_0, i10_0, hB1.cell]; rfl) ?_
          refine WL.qq (by simp only [ev_tmp, ev_const, ev_func, set_get, Nat.reduceEqDiff, reduceIte, qv_assign, k0_0, k1_0, k2_0, k6_0, k7_0, i9_0, i10_0, hB1.cell]; rfl) ?_
          refine WL.nil ?_
          refine th_norm ?_
          refine hx_ret ?_
          refine fin_ret [.tmp 6, .tmp 7] rfl rfl (by simp only [ev_tmp, ev_const, ev_func, set_get, Nat.reduceEqDiff, reduceIte, resv, k0_0, k1_0, k2_0, k6_0, k7_0, i9_0, i10_0, hB1.cell]; rfl) ?_  -- ret 2 r12
          exact ⟨by rw [← hcn, Int.add_zero]; simp only [retOf, Int.zero_sub], (hx1)⟩
theorem rem_nn : ∀ (f : Nat) (y m : Int), 0 ≤ remM f y m
  | 0, _, _ => Int.le_refl _
  | f + 1, y, m => by
    have := rem_nn f y (m + 1)
    have := len_le y m
    simp only [remM]
    omega
theorem rem_le (y : Int) : ∀ (k f : Nat) (m : Int), remM f y (m + k) ≤ remM (f + k) y m
  | 0, f, m => by simp
  | k + 1, f, m => by
    have h1 := rem_le y k f (m + 1)
    have h2 := len_le y m
    have e : m + ((k + 1 : Nat) : Int) = m + 1 + k := by omega
    rw [e, show f + (k + 1) = (f + k) + 1 from rfl]
    simp only [remM]
    omega
/-- The first day of a month, and the month of a day between it and the last one. -/
theorem mo_uniq (y : Int) (g : Nat) : ∀ (k f : Nat) (m0 r : Int), f = g + 1 + k → remM f y m0 - remM (g + 1) y (m0 + k) ≤ r → r < remM f y m0 - remM (g + 1) y (m0 + k) + lenM y (m0 + k) →
    moM f y m0 r = (m0 + k, r - (remM f y m0 - remM (g + 1) y (m0 + k)))
  | 0, f, m0, r, hf, h1, h2 => by
    subst hf
    simp only [Nat.add_zero] at *
    have e : m0 + ((0 : Nat) : Int) = m0 := by omega
    rw [e] at h1 h2 ⊢
    rw [moM_stop _ _ _ _ (by omega)]
    simp
  | k + 1, f, m0, r, hf, h1, h2 => by
    subst hf
    have e : m0 + ((k + 1 : Nat) : Int) = m0 + 1 + k := by omega
    rw [e] at h1 h2 ⊢
    rw [show g + 1 + (k + 1) = (g + 1 + k) + 1 from rfl] at *
    have h3 := rem_le y k (g + 1) (m0 + 1)
    simp only [remM, moM] at *
    rw [if_neg (by omega)]
    rw [mo_uniq y g k (g + 1 + k) (m0 + 1) (r - lenM y m0) rfl (by simp only [remM]; omega) (by simp only [remM]; omega)]
    simp only [remM]
    congr 1
    omega
def firstM (y m : Int) : Int := ysM y + (remM 12 y 1 - remM (13 - m).toNat y m)
theorem civ_first (n : Int) (hv : 0 ≤ n ∧ n ≤ 73048) : n - (civM n).2.2 + 1 = firstM (civM n).1 (civM n).2.1 := by
  have hb := yr_bd n hv
  have hs := ys_step (yrM n) hb.1
  obtain ⟨f', h1, h2, h3, h4, h5⟩ := mo_spec (yrM n) ⟨hb.1, hb.2.1⟩ 12 1 (n - ysM (yrM n)) (by decide) (by decide) (by omega) (by rw [rem_year _ hb.1 hb.2.1]; omega)
  unfold firstM
  simp only [civM]
  have e : (13 - (moM 12 (yrM n) 1 (n - ysM (yrM n))).1).toNat = f' + 1 := by omega
  rw [e]
  omega
theorem civ_month (n d : Int) (hv : 0 ≤ n ∧ n ≤ 73048) (h1 : n - (civM n).2.2 + 1 ≤ d) (h2 : d ≤ n - (civM n).2.2 + lenM (civM n).1 (civM n).2.1) : (civM d).1 = (civM n).1 ∧ (civM d).2.1 = (civM n).2.1 := by
  have hf := civ_first n hv
  have hb := civ_bd n hv
  generalize (civM n).1 = y at *
  generalize (civM n).2.1 = m at *
  generalize (civM n).2.2 = D at *
  have hs := ys_step y hb.1
  have hr := rem_year y hb.1 hb.2.1
  obtain ⟨g, hg⟩ : ∃ g : Nat, (13 - m).toNat = g + 1 := ⟨(12 - m).toNat, by omega⟩
  unfold firstM at hf
  rw [hg] at hf
  have e1 : remM (g + 1) y m = lenM y m + remM g y (m + 1) := rfl
  have e2 := rem_nn g y (m + 1)
  have e3 := rem_le y (m - 1).toNat (g + 1) 1
  have e4 : (1 : Int) + ((m - 1).toNat : Int) = m := by omega
  have e5 : g + 1 + (m - 1).toNat = 12 := by omega
  rw [e4, e5] at e3
  have hy := yr_eq (n := d) hb.1 (by omega) (by omega)
  have hm := mo_uniq y g (m - 1).toNat 12 1 (d - ysM y) (by omega) (by rw [e4]; omega) (by rw [e4]; omega)
  rw [e4] at hm
  simp only [civM, hy, hm, and_self]
theorem sm_iff (n d : Int) (hv : 0 ≤ n ∧ n ≤ 73048) (hd : 0 ≤ d ∧ d ≤ 73048) : smM d n = true ↔ n - (civM n).2.2 + 1 ≤ d ∧ d ≤ n - (civM n).2.2 + lenM (civM n).1 (civM n).2.1 := by
  unfold smM
  simp only [Bool.and_eq_true, decide_eq_true_eq]
  constructor
  · rintro ⟨h1, h2⟩
    have f1 := civ_first n hv
    have f2 := civ_first d hd
    have b2 := civ_bd d hd
    rw [h1, h2] at f2 b2
    omega
  · rintro ⟨h1, h2⟩
    exact civ_month n d hv h1 h2
theorem month_in (n : Int) (hv : 0 ≤ n ∧ n ≤ 73048) : 0 ≤ n - (civM n).2.2 + 1 ∧ n - (civM n).2.2 + lenM (civM n).1 (civM n).2.1 ≤ 73048 ∧ 1 ≤ (civM n).2.2 ∧ (civM n).2.2 ≤ lenM (civM n).1 (civM n).2.1 ∧ lenM (civM n).1 (civM n).2.1 ≤ 31 := by
  have hf := civ_first n hv
  have hb := civ_bd n hv
  have hl := len_le (civM n).1 (civM n).2.1
  generalize (civM n).1 = y at *
  generalize (civM n).2.1 = m at *
  generalize (civM n).2.2 = D at *
  have hs := ys_step y hb.1
  have hr := rem_year y hb.1 hb.2.1
  obtain ⟨g, hg⟩ : ∃ g : Nat, (13 - m).toNat = g + 1 := ⟨(12 - m).toNat, by omega⟩
  unfold firstM at hf
  rw [hg] at hf
  have e1 : remM (g + 1) y m = lenM y m + remM g y (m + 1) := rfl
  have e2 := rem_nn g y (m + 1)
  have e3 := rem_le y (m - 1).toNat (g + 1) 1
  have e4 : (1 : Int) + ((m - 1).toNat : Int) = m := by omega
  have e5 : g + 1 + (m - 1).toNat = 12 := by omega
  rw [e4, e5] at e3
  have e6 := ys_le (a := 2000) (b := y) (by decide) hb.1
  have e7 := ys_le (a := y + 1) (b := 2200) (by omega) (by omega)
  rw [ys_2000] at e6
  rw [ys_2200] at e7
  omega
end GL


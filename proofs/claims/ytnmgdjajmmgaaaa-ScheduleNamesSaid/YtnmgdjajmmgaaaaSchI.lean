/- Schedule: the reference's Next; what the laws call besides; the example. -/
import Derived.Test.YtnmgdjajmmgaaaaSchH
set_option linter.unusedSimpArgs false
set_option linter.unusedVariables false
set_option linter.unnecessarySimpa false
namespace GL
open Go Go.Proofs
set_option maxRecDepth 8000
theorem c_rchangesG (s0 s1 s2 s3 s4 s5 d m d' m' : Int) (ha : 0 ≤ d) (hu : d' ≤ 73048) (hd5 : d ≤ 73049) (hd6 : -1 ≤ d') (wk hol : List Int) (a a' : Option Addr) (c c' : Nat) {R : List Chg} (hR : chgR (busM wk hol) [s0, s1, s2, s3, s4, s5] (d, m) (d', m') = R) {h : Heap} (hw : SlI h a wk) (hh : SlI h a' hol) (lw : wk.length ≤ 9223372036854775807) (lh : hol.length ≤ 9223372036854775807) :
    HCalls Try.prog 26 #[sch s0 s1 s2 s3 s4 s5, .agg #[.int .i64 d, .int .i64 m], .agg #[.int .i64 d', .int .i64 m'], .agg #[.slice a wk.length c, .slice a' hol.length c']] h
      fun v h' => Ext h h' ∧ ∃ al cp, v = .slice al R.length cp ∧ SlG 3 chgL h' al R ∧ R.length ≤ 500000 :=
  (c_rchanges s0 s1 s2 s3 s4 s5 d m d' m' ha hu hd5 hd6 wk hol a a' c c' hR.symm hw hh lw lh).mono fun v h' ⟨hx, ho⟩ => by
    obtain ⟨al, cp, hv, hc, hs, _, _⟩ := Own.slG (f := chgL) (sz := 3) (fun _ => rfl) ho rfl
    exact ⟨hx, al, cp, hv, hs, by rw [← hR]; exact chgR_len _ _ _ _ ha hu⟩
theorem c_changesG (s0 s1 s2 s3 s4 s5 d m d' m' : Int) (q : Option Addr) (wk hs : List Int) {M : List Chg} {ce : Int} (hM : chgM [s0, s1, s2, s3, s4, s5] q (busM wk hs) (d, m) (d', m') = (M, ce)) {h : Heap} (hq : QCal h q wk hs) :
    HCalls Try.prog 25 #[sch s0 s1 s2 s3 s4 s5, .agg #[.int .i64 d, .int .i64 m], .agg #[.int .i64 d', .int .i64 m'], .pointer q] h
      fun v h' => Ext h h' ∧ ∃ al cp, v = .tuple #[.slice al M.length cp, .int .i64 ce] ∧ SlG 3 chgL h' al M ∧ (al = none → cp = 0) ∧ M.length ≤ cp :=
  (c_changes s0 s1 s2 s3 s4 s5 d m d' m' q wk hs hM hq).mono fun v h' ⟨hx, u, hv, ho⟩ => by
    obtain ⟨al, cp, rfl, hc, hs, hn, _⟩ := Own.slG (f := chgL) (sz := 3) (fun _ => rfl) ho rfl
    exact ⟨hx, al, cp, hv, hs, hn, hc⟩
def rnextM (L : List Chg) : Chg × Bool := match L[0]? with | some c => (c, true) | none => ((0, 0, 0), false)
theorem c_rnext (s0 s1 s2 s3 s4 s5 d m : Int) (hs6 : Val6 [s0, s1, s2, s3, s4, s5]) (hv : 0 ≤ d ∧ d ≤ 73048 ∧ 0 ≤ m ∧ m ≤ 1439) (wk hol : List Int) (a a' : Option Addr) (c c' : Nat) {L : List Chg} (hL : begs (busM wk hol) [s0, s1, s2, s3, s4, s5] (d, m) = L) {h : Heap} (hw : SlI h a wk) (hh : SlI h a' hol) (lw : wk.length ≤ 9223372036854775807) (lh : hol.length ≤ 9223372036854775807) :
    HCalls Try.prog 29 #[sch s0 s1 s2 s3 s4 s5, .agg #[.int .i64 d, .int .i64 m], .agg #[.slice a wk.length c, .slice a' hol.length c']] h
      (Grow (.tuple #[chgV (rnextM L).1, .bool (rnextM L).2]) h) := by
  refine hcalls2 Try.func29 rfl (by decide +kernel) (by simp only [Try.ntmps29]; exact of_decide_eq_true rfl) ?_
  intro e hin
  have e0 := hin 0 _ rfl
  have e1 := hin 1 _ rfl
  have e2 := hin 2 _ rfl
  have hE : Ext h h := Ext.refl h
  refine hx_seq ?_
  refine hx_region ?_
  refine WL.box2 (by simp only [ev_tmp, ev_const, ev_func, set_get, Nat.reduceEqDiff, reduceIte, Value.cells, e0, e1, e2]; rfl) ?_
  intro h1 B1 hx1 hlt1 hB1
  replace hE := hE.trans hx1
  replace hw := hw.ext hx1
  replace hh := hh.ext hx1
  refine WL.box2 (by simp only [ev_tmp, ev_const, ev_func, set_get, Nat.reduceEqDiff, reduceIte, Value.cells, e0, e1, e2, hB1.cell]; rfl) ?_
  intro h2 B2 hx2 hlt2 hB2
  replace hE := hE.trans hx2
  replace hw := hw.ext hx2
  replace hh := hh.ext hx2
  replace hB1 := hB1.ext hx2
  refine WL.box2 (by simp only [ev_tmp, ev_const, ev_func, set_get, Nat.reduceEqDiff, reduceIte, Value.cells, e0, e1, e2, hB1.cell, hB2.cell]; rfl) ?_
  intro h3 B3 hx3 hlt3 hB3
  replace hE := hE.trans hx3
  replace hw := hw.ext hx3
  replace hh := hh.ext hx3
  replace hB1 := hB1.ext hx3
  replace hB2 := hB2.ext hx3
  refine WL.alloc2 zr64 ?_
  intro h4 B4 hx4 hlt4 hB4
  have hne1_4 : B4 ≠ B1 := by have := (Array.getElem?_eq_some_iff.1 hB1).1; omega
  have hne2_4 : B4 ≠ B2 := by have := (Array.getElem?_eq_some_iff.1 hB2).1; omega
  have hne3_4 : B4 ≠ B3 := by have := (Array.getElem?_eq_some_iff.1 hB3).1; omega
  have hb0_4 := Nat.le_trans hE.size hlt4
  have hw_s4 := hw
  have hh_s4 := hh
  have hB1_s4 := hB1
  have hB2_s4 := hB2
  have hB3_s4 := hB3
  replace hE := hE.trans hx4
  replace hw := hw.ext hx4
  replace hh := hh.ext hx4
  replace hB1 := hB1.ext hx4
  replace hB2 := hB2.ext hx4
  replace hB3 := hB3.ext hx4
  have hEo4 := hx4
  simp only [Value.cells] at hB4
  refine WL.qq (by simp only [ev_tmp, ev_const, ev_func, set_get, Nat.reduceEqDiff, reduceIte, qv_assign, e0, e1, e2, hB1.cell, hB2.cell, hB3.cell, hB4.cell]; rfl) ?_
  refine WL.nil ?_
  refine th_norm ?_
  refine hx_seq ?_
  refine hx_seq ?_
  refine hx_region ?_
  refine WL.qq (by simp only [ev_tmp, ev_const, ev_func, set_get, Nat.reduceEqDiff, reduceIte, qv_fieldAddr, fa41_0, Nat.zero_add, Nat.reduceAdd, e0, e1, e2, hB1.cell, hB2.cell, hB3.cell, hB4.cell]; rfl) ?_
  refine WL.qq (by simp only [ev_tmp, ev_const, ev_func, set_get, Nat.reduceEqDiff, reduceIte, qv_load, ld3, readN, List.getElem?_toArray, List.getElem?_cons_zero, List.getElem?_cons_succ, List.map_toArray, List.map_cons, List.map_nil, Option.map_some, Option.bind_some, Nat.zero_add, Nat.reduceAdd, e0, e1, e2, hB1.cell, hB2.cell, hB3.cell, hB4.cell]; rfl) ?_
  refine WL.qq (by simp only [ev_tmp, ev_const, ev_func, set_get, Nat.reduceEqDiff, reduceIte, qv_assign, e0, e1, e2, hB1.cell, hB2.cell, hB3.cell, hB4.cell]; rfl) ?_
  refine WL.nil ?_
  refine th_norm ?_
  refine hx_block ?_
  refine hx_loopX [7, 8, 9, 12, 13, 14, 15, 16, 17, 18, 19, 20, 21, 22, 23, 24, 25, 26, 27, 28, 29, 30, 31, 32, 33, 34, 35, 36, 37, 38, 39] (fun k e => ∃ (day : Int), (73049 - day).toNat = k ∧ (d ≤ day ∧ day ≤ 73049) ∧ (L = (allF (busM wk hol) [s0, s1, s2, s3, s4, s5] day (73049 - day).toNat).filter (gtC (d, m))) ∧ e 8 = .int .i64 day) _ ⟨d, rfl, ?_, ?_, ?_⟩ ?_
  · exact ⟨by omega, by omega⟩
  · rw [← hL]; rfl
  · simp only [ev_tmp, ev_const, ev_func, set_get, Nat.reduceEqDiff, reduceIte, e0, e1, e2, hB1.cell, hB2.cell, hB3.cell, hB4.cell] <;> rfl
  ·
    rintro k e0L hL0 hX0 hfr0 ⟨day, rfl, hday, hrest, i8_0⟩
    replace hE := hE.trans hX0
    replace hEo4 := hEo4.trans hX0
    replace hw := hw.ext hX0
    replace hh := hh.ext hX0
    replace hB1 := hB1.ext hX0
    replace hB2 := hB2.ext hX0
    replace hB3 := hB3.ext hX0
    replace hB4 := hB4.ext hX0
    have hEL0 : Ext hL0 hL0 := Ext.refl _
    have k3_0 := hfr0 3 rfl; simp only [ev_tmp, ev_const, ev_func, set_get, Nat.reduceEqDiff, reduceIte, e0, e1, e2, hB1.cell, hB2.cell, hB3.cell, hB4.cell] at k3_0
    have k4_0 := hfr0 4 rfl; simp only [ev_tmp, ev_const, ev_func, set_get, Nat.reduceEqDiff, reduceIte, e0, e1, e2, hB1.cell, hB2.cell, hB3.cell, hB4.cell] at k4_0
    have k5_0 := hfr0 5 rfl; simp only [ev_tmp, ev_const, ev_func, set_get, Nat.reduceEqDiff, reduceIte, e0, e1, e2, hB1.cell, hB2.cell, hB3.cell, hB4.cell] at k5_0
    have k6_0 := hfr0 6 rfl; simp only [ev_tmp, ev_const, ev_func, set_get, Nat.reduceEqDiff, reduceIte, e0, e1, e2, hB1.cell, hB2.cell, hB3.cell, hB4.cell] at k6_0
    refine hx_seq ?_
    refine hx_seq ?_
    refine hx_region ?_
    refine WL.qq (by simp only [ev_tmp, ev_const, ev_func, set_get, Nat.reduceEqDiff, reduceIte, qv_move, k3_0, k4_0, k5_0, k6_0, i8_0, hB1.cell, hB2.cell, hB3.cell, hB4.cell]; rfl) ?_
    refine WL.qq (by simp only [ev_tmp, ev_const, ev_func, set_get, Nat.reduceEqDiff, reduceIte, qv_binOp, binv_leq, k3_0, k4_0, k5_0, k6_0, i8_0, hB1.cell, hB2.cell, hB3.cell, hB4.cell]; rfl) ?_
    refine WL.nil ?_
    refine th_norm ?_
    refine hx_cond (by simp only [ev_tmp, ev_const, ev_func, set_get, Nat.reduceEqDiff, reduceIte, k3_0, k4_0, k5_0, k6_0, i8_0, hB1.cell, hB2.cell, hB3.cell, hB4.cell]; rfl) (fun hct13 => ?_) (fun hct13 => ?_)
    ·
      try simp only [decide_eq_true_eq, decide_eq_false_iff_not, Bool.and_eq_true, Bool.and_eq_false_iff, Bool.or_eq_true, Bool.or_eq_false_iff, Bool.not_eq_true', Bool.not_eq_false', Bool.not_eq_true, Bool.not_eq_false] at hct13
      obtain ⟨D, hD⟩ : ∃ D, D = (if busM wk hol day = true then day6 [s0, s1, s2, s3, s4, s5] day else []).filter (gtC (d, m)) := ⟨_, rfl⟩
      have hsp : L = D ++ (allF (busM wk hol) [s0, s1, s2, s3, s4, s5] (day + 1) (73049 - (day + 1)).toNat).filter (gtC (d, m)) := by rw [hrest, hD, ← List.filter_append]; congr 1; rw [show (73049 - day).toNat = (73049 - (day + 1)).toNat + 1 by omega, allF]
      obtain ⟨R1, hR1⟩ : ∃ R, chgR (busM wk hol) [s0, s1, s2, s3, s4, s5] (d, m) (day, 1439) = R := ⟨_, rfl⟩
      refine hx_skip ?_
      refine th_norm ?_
      refine hx_seq ?_
      refine hx_block ?_
      refine hx_seq ?_
      refine hx_region ?_
      refine WL.qq (by simp only [ev_tmp, ev_const, ev_func, set_get, Nat.reduceEqDiff, reduceIte, qv_load, ld86, readN, List.getElem?_toArray, List.getElem?_cons_zero, List.getElem?_cons_succ, List.map_toArray, List.map_cons, List.map_nil, Option.map_some, Option.bind_some, Nat.zero_add, Nat.reduceAdd, k3_0, k4_0, k5_0, k6_0, i8_0, hB1.cell, hB2.cell, hB3.cell, hB4.cell]; rfl) ?_
      refine WL.qq (by simp only [ev_tmp, ev_const, ev_func, set_get, Nat.reduceEqDiff, reduceIte, qv_load, ld41, readN, List.getElem?_toArray, List.getElem?_cons_zero, List.getElem?_cons_succ, List.map_toArray, List.map_cons, List.map_nil, Option.map_some, Option.bind_some, Nat.zero_add, Nat.reduceAdd, k3_0, k4_0, k5_0, k6_0, i8_0, hB1.cell, hB2.cell, hB3.cell, hB4.cell]; rfl) ?_
      refine WL.qq (by simp only [ev_tmp, ev_const, ev_func, set_get, Nat.reduceEqDiff, reduceIte, qv_move, k3_0, k4_0, k5_0, k6_0, i8_0, hB1.cell, hB2.cell, hB3.cell, hB4.cell]; rfl) ?_
      refine WL.qq (by refine qv_bld (by simp only [ev_tmp, ev_const, ev_func, set_get, Nat.reduceEqDiff, reduceIte, List.getElem?_toArray, List.getElem?_cons_zero, List.getElem?_cons_succ, List.map_toArray, List.map_cons, List.map_nil, Option.map_some, Option.bind_some, k3_0, k4_0, k5_0, k6_0, i8_0, hB1.cell, hB2.cell, hB3.cell, hB4.cell] <;> rfl) (by rw [bl41]; simp [Instr.fill, Value.cells]; rfl)) ?_
      refine WL.qq (by simp only [ev_tmp, ev_const, ev_func, set_get, Nat.reduceEqDiff, reduceIte, qv_load, ld27, readN, List.getElem?_toArray, List.getElem?_cons_zero, List.getElem?_cons_succ, List.map_toArray, List.map_cons, List.map_nil, Option.map_some, Option.bind_some, Nat.zero_add, Nat.reduceAdd, k3_0, k4_0, k5_0, k6_0, i8_0, hB1.cell, hB2.cell, hB3.cell, hB4.cell]; rfl) ?_
      refine WL.ce Try.call26 (by simp only [ev_tmp, ev_const, ev_func, set_get, Nat.reduceEqDiff, reduceIte, List.getElem?_toArray, List.getElem?_cons_zero, List.getElem?_cons_succ, List.map_toArray, List.map_cons, List.map_nil, Option.map_some, Option.bind_some, k3_0, k4_0, k5_0, k6_0, i8_0, hB1.cell, hB2.cell, hB3.cell, hB4.cell]; exact c_rchangesG s0 s1 s2 s3 s4 s5 d m day 1439 hv.1 (by omega) (by omega) (by omega) wk hol _ _ _ _ hR1 hw hh lw lh) ?_
      rintro _ h5 ⟨hx5, al, cp, rfl, hsl, hRl⟩
      replace hE := hE.trans hx5
      replace hEo4 := hEo4.trans hx5
      replace hEL0 := hEL0.trans hx5
      replace hw := hw.ext hx5
      replace hh := hh.ext hx5
      replace hB1 := hB1.ext hx5
      replace hB2 := hB2.ext hx5
      replace hB3 := hB3.ext hx5
      replace hB4 := hB4.ext hx5
      simp only [put_some]
      refine WL.qq (by simp only [ev_tmp, ev_const, ev_func, set_get, Nat.reduceEqDiff, reduceIte, qv_assign, k3_0, k4_0, k5_0, k6_0, i8_0, hB1.cell, hB2.cell, hB3.cell, hB4.cell]; rfl) ?_
      refine WL.nil ?_
      refine th_norm ?_
      refine hx_seq ?_
      refine hx_seq ?_
      refine hx_region ?_
      refine WL.qq (by simp only [ev_tmp, ev_const, ev_func, set_get, Nat.reduceEqDiff, reduceIte, qv_move, k3_0, k4_0, k5_0, k6_0, i8_0, hB1.cell, hB2.cell, hB3.cell, hB4.cell]; rfl) ?_
      refine WL.qq (by simp only [ev_tmp, ev_const, ev_func, set_get, Nat.reduceEqDiff, reduceIte, qv_fieldAddr, fa41_0, Nat.zero_add, Nat.reduceAdd, k3_0, k4_0, k5_0, k6_0, i8_0, hB1.cell, hB2.cell, hB3.cell, hB4.cell]; rfl) ?_
      refine WL.qq (by simp only [ev_tmp, ev_const, ev_func, set_get, Nat.reduceEqDiff, reduceIte, qv_load, ld3, readN, List.getElem?_toArray, List.getElem?_cons_zero, List.getElem?_cons_succ, List.map_toArray, List.map_cons, List.map_nil, Option.map_some, Option.bind_some, Nat.zero_add, Nat.reduceAdd, k3_0, k4_0, k5_0, k6_0, i8_0, hB1.cell, hB2.cell, hB3.cell, hB4.cell]; rfl) ?_
      refine WL.qq (by simp only [ev_tmp, ev_const, ev_func, set_get, Nat.reduceEqDiff, reduceIte, qv_binOp, binv_gtr, k3_0, k4_0, k5_0, k6_0, i8_0, hB1.cell, hB2.cell, hB3.cell, hB4.cell]; rfl) ?_
      refine WL.nil ?_
      refine th_norm ?_
      refine hx_cond (by simp only [ev_tmp, ev_const, ev_func, set_get, Nat.reduceEqDiff, reduceIte, k3_0, k4_0, k5_0, k6_0, i8_0, hB1.cell, hB2.cell, hB3.cell, hB4.cell]; rfl) (fun hct25 => ?_) (fun hct25 => ?_)
      ·
        try simp only [decide_eq_true_eq, decide_eq_false_iff_not, Bool.and_eq_true, Bool.and_eq_false_iff, Bool.or_eq_true, Bool.or_eq_false_iff, Bool.not_eq_true', Bool.not_eq_false', Bool.not_eq_true, Bool.not_eq_false] at hct25
        obtain ⟨R2, hR2⟩ : ∃ R, chgR (busM wk hol) [s0, s1, s2, s3, s4, s5] (day - 1, 1439) (day, 1439) = R := ⟨_, rfl⟩
        have hDR : D = R2 := by rw [hD, ← hR2]; exact ((day_R hs6 (a := (d, m)) hv.2.2).2 hct25).symm
        refine hx_region ?_
        refine WL.qq (by simp only [ev_tmp, ev_const, ev_func, set_get, Nat.reduceEqDiff, reduceIte, qv_load, ld86, readN, List.getElem?_toArray, List.getElem?_cons_zero, List.getElem?_cons_succ, List.map_toArray, List.map_cons, List.map_nil, Option.map_some, Option.bind_some, Nat.zero_add, Nat.reduceAdd, k3_0, k4_0, k5_0, k6_0, i8_0, hB1.cell, hB2.cell, hB3.cell, hB4.cell]; rfl) ?_
        refine WL.qq (by simp only [ev_tmp, ev_const, ev_func, set_get, Nat.reduceEqDiff, reduceIte, qv_move, k3_0, k4_0, k5_0, k6_0, i8_0, hB1.cell, hB2.cell, hB3.cell, hB4.cell]; rfl) ?_
        refine WL.qq (by simp only [ev_tmp, ev_const, ev_func, set_get, Nat.reduceEqDiff, reduceIte, qv_binOp, binv_sub, k3_0, k4_0, k5_0, k6_0, i8_0, hB1.cell, hB2.cell, hB3.cell, hB4.cell]; (try simp (disch := omega) only [w64, w8, wu64]); rfl) ?_
        refine WL.qq (by refine qv_bld (by simp only [ev_tmp, ev_const, ev_func, set_get, Nat.reduceEqDiff, reduceIte, List.getElem?_toArray, List.getElem?_cons_zero, List.getElem?_cons_succ, List.map_toArray, List.map_cons, List.map_nil, Option.map_some, Option.bind_some, k3_0, k4_0, k5_0, k6_0, i8_0, hB1.cell, hB2.cell, hB3.cell, hB4.cell] <;> rfl) (by rw [bl41]; simp [Instr.fill, Value.cells]; rfl)) ?_
        refine WL.qq (by simp only [ev_tmp, ev_const, ev_func, set_get, Nat.reduceEqDiff, reduceIte, qv_move, k3_0, k4_0, k5_0, k6_0, i8_0, hB1.cell, hB2.cell, hB3.cell, hB4.cell]; rfl) ?_
        refine WL.qq (by refine qv_bld (by simp only [ev_tmp, ev_const, ev_func, set_get, Nat.reduceEqDiff, reduceIte, List.getElem?_toArray, List.getElem?_cons_zero, List.getElem?_cons_succ, List.map_toArray, List.map_cons, List.map_nil, Option.map_some, Option.bind_some, k3_0, k4_0, k5_0, k6_0, i8_0, hB1.cell, hB2.cell, hB3.cell, hB4.cell] <;> rfl) (by rw [bl41]; simp [Instr.fill, Value.cells]; rfl)) ?_
        refine WL.qq (by simp only [ev_tmp, ev_const, ev_func, set_get, Nat.reduceEqDiff, reduceIte, qv_load, ld27, readN, List.getElem?_toArray, List.getElem?_cons_zero, List.getElem?_cons_succ, List.map_toArray, List.map_cons, List.map_nil, Option.map_some, Option.bind_some, Nat.zero_add, Nat.reduceAdd, k3_0, k4_0, k5_0, k6_0, i8_0, hB1.cell, hB2.cell, hB3.cell, hB4.cell]; rfl) ?_
        refine WL.ce Try.call26 (by simp only [ev_tmp, ev_const, ev_func, set_get, Nat.reduceEqDiff, reduceIte, List.getElem?_toArray, List.getElem?_cons_zero, List.getElem?_cons_succ, List.map_toArray, List.map_cons, List.map_nil, Option.map_some, Option.bind_some, k3_0, k4_0, k5_0, k6_0, i8_0, hB1.cell, hB2.cell, hB3.cell, hB4.cell]; exact c_rchangesG s0 s1 s2 s3 s4 s5 (day - 1) 1439 day 1439 (by omega) (by omega) (by omega) (by omega) wk hol _ _ _ _ hR2 hw hh lw lh) ?_
        rintro _ h6 ⟨hx6, al2, cp2, rfl, hsl2, hRl2⟩
        replace hE := hE.trans hx6
        replace hEo4 := hEo4.trans hx6
        replace hEL0 := hEL0.trans hx6
        replace hw := hw.ext hx6
        replace hh := hh.ext hx6
        replace hB1 := hB1.ext hx6
        replace hB2 := hB2.ext hx6
        replace hB3 := hB3.ext hx6
        replace hB4 := hB4.ext hx6
        replace hsl := hsl.ext hx6
        simp only [put_some]
        refine WL.qq (by simp only [ev_tmp, ev_const, ev_func, set_get, Nat.reduceEqDiff, reduceIte, qv_assign, k3_0, k4_0, k5_0, k6_0, i8_0, hB1.cell, hB2.cell, hB3.cell, hB4.cell]; rfl) ?_
        refine WL.nil ?_
        refine th_norm ?_
        refine hx_seq ?_
        refine hx_region ?_
        refine WL.qq (by simp only [ev_tmp, ev_const, ev_func, set_get, Nat.reduceEqDiff, reduceIte, qv_move, k3_0, k4_0, k5_0, k6_0, i8_0, hB1.cell, hB2.cell, hB3.cell, hB4.cell]; rfl) ?_
        refine WL.qq (by simp only [ev_tmp, ev_const, ev_func, set_get, Nat.reduceEqDiff, reduceIte, qv_len, ln58, List.getElem?_toArray, List.getElem?_cons_zero, List.getElem?_cons_succ, List.map_toArray, List.map_cons, List.map_nil, Option.map_some, Option.bind_some, k3_0, k4_0, k5_0, k6_0, i8_0, hB1.cell, hB2.cell, hB3.cell, hB4.cell]; rfl) ?_
        refine WL.qq (by simp only [ev_tmp, ev_const, ev_func, set_get, Nat.reduceEqDiff, reduceIte, qv_binOp, binv_gtr, k3_0, k4_0, k5_0, k6_0, i8_0, hB1.cell, hB2.cell, hB3.cell, hB4.cell]; rfl) ?_
        refine WL.nil ?_
        refine th_norm ?_
        refine hx_cond (by simp only [ev_tmp, ev_const, ev_func, set_get, Nat.reduceEqDiff, reduceIte, k3_0, k4_0, k5_0, k6_0, i8_0, hB1.cell, hB2.cell, hB3.cell, hB4.cell]; rfl) (fun hct36 => ?_) (fun hct36 => ?_)
        ·
          try simp only [decide_eq_true_eq, decide_eq_false_iff_not, Bool.and_eq_true, Bool.and_eq_false_iff, Bool.or_eq_true, Bool.or_eq_false_iff, Bool.not_eq_true', Bool.not_eq_false', Bool.not_eq_true, Bool.not_eq_false] at hct36
          obtain ⟨y, hy⟩ : ∃ y, D[0]? = some y := by rw [hDR]; exact ⟨_, List.getElem?_eq_getElem (by omega)⟩
          have hy2 := hy; rw [hDR] at hy2
          have hr : rnextM L = (y, true) := by rw [hsp]; simp only [rnextM]; rw [List.getElem?_append_left (List.getElem?_eq_some_iff.1 hy).1, hy]
          first | (obtain ⟨bq, offq, rfl, hrd⟩ := hsl2 0 y hy2) | (obtain ⟨bq, offq, rfl, hrd⟩ := hsl 0 y hy2)
          refine hx_seq ?_
          refine hx_region ?_
          refine WL.qq (by simp only [ev_tmp, ev_const, ev_func, set_get, Nat.reduceEqDiff, reduceIte, qv_move, k3_0, k4_0, k5_0, k6_0, i8_0, hB1.cell, hB2.cell, hB3.cell, hB4.cell]; rfl) ?_
          refine WL.qq (by simp only [ev_tmp, ev_const, ev_func, set_get, Nat.reduceEqDiff, reduceIte, k3_0, k4_0, k5_0, k6_0, i8_0, hB1.cell, hB2.cell, hB3.cell, hB4.cell, qv_indexAddr]; exact ix58 _ _ _ _ _ _ (by omega) (by omega)) ?_
          refine WL.qq (by have hrd2 : readN h6 bq (offq + 0 * 3) 3 = some (chgL y) := hrd; simp only [ev_tmp, ev_const, ev_func, set_get, Nat.reduceEqDiff, reduceIte, k3_0, k4_0, k5_0, k6_0, i8_0, hB1.cell, hB2.cell, hB3.cell, hB4.cell, qv_load, ld64, show (0 : Int).toNat = 0 from rfl, hrd2]; rfl) ?_
          refine WL.store (by simp only [ev_tmp, ev_const, ev_func, set_get, Nat.reduceEqDiff, reduceIte, k3_0, k4_0, k5_0, k6_0, i8_0, hB1.cell, hB2.cell, hB3.cell, hB4.cell] <;> rfl) sz64 (by simp only [ev_tmp, ev_const, ev_func, set_get, Nat.reduceEqDiff, reduceIte, Value.cells, k3_0, k4_0, k5_0, k6_0, i8_0, hB1.cell, hB2.cell, hB3.cell, hB4.cell] <;> rfl) rfl hB4 (by first | decide | (simp; done) | (simp; omega)) (by simp [Value.oneCell']) ?_
          intro h7 hw7
          replace hE := hw7.ext hE hb0_4
          replace hEo4 := hw7.ext hEo4 hlt4
          replace hw := hw_s4.ext hEo4
          replace hh := hh_s4.ext hEo4
          replace hB1 := hB1_s4.ext hEo4
          replace hB2 := hB2_s4.ext hEo4
          replace hB3 := hB3_s4.ext hEo4
          replace hB4 := hw7.at_
          try simp only [splc, List.take_succ_cons, List.take_zero, List.take_nil, List.drop_succ_cons, List.drop_zero, List.drop_nil, List.cons_append, List.nil_append, List.length_cons, List.length_nil, Nat.zero_add, Nat.add_zero, Nat.reduceAdd, List.append_nil] at hB4
          refine WL.qq (by simp only [ev_tmp, ev_const, ev_func, set_get, Nat.reduceEqDiff, reduceIte, qv_assign, k3_0, k4_0, k5_0, k6_0, i8_0, hB1.cell, hB2.cell, hB3.cell, hB4.cell]; rfl) ?_
          refine WL.nil ?_
          refine th_norm ?_
          refine hx_ret ?_
          refine bl_ret ?_
          refine th_ret ?_
          refine th_ret ?_
          refine bl_ret ?_
          refine th_ret ?_
          refine fin_ret [.cell 6 64, .tmp 7] rfl rfl (by simp only [ev_tmp, ev_const, ev_func, set_get, Nat.reduceEqDiff, reduceIte, resv, ld64, readN, List.getElem?_toArray, List.getElem?_cons_zero, List.getElem?_cons_succ, List.map_toArray, List.map_cons, List.map_nil, Option.map_some, Option.bind_some, Nat.zero_add, Nat.reduceAdd, k3_0, k4_0, k5_0, k6_0, i8_0, hB1.cell, hB2.cell, hB3.cell, hB4.cell]; rfl) ?_  -- ret 0 r8
          exact ⟨by rw [hr]; rfl, hE⟩
        ·
          try simp only [decide_eq_true_eq, decide_eq_false_iff_not, Bool.and_eq_true, Bool.and_eq_false_iff, Bool.or_eq_true, Bool.or_eq_false_iff, Bool.not_eq_true', Bool.not_eq_false', Bool.not_eq_true, Bool.not_eq_false] at hct36
          have hD0 : D = [] := by rw [hDR]; exact List.length_eq_zero_iff.1 (by omega)
          rw [hD0, List.nil_append] at hsp
          refine hx_skip ?_
          refine bl_norm ?_
          refine th_norm ?_
          refine hx_region ?_
          refine WL.qq (by simp only [ev_tmp, ev_const, ev_func, set_get, Nat.reduceEqDiff, reduceIte, qv_move, k3_0, k4_0, k5_0, k6_0, i8_0, hB1.cell, hB2.cell, hB3.cell, hB4.cell]; rfl) ?_
          refine WL.qq (by simp only [ev_tmp, ev_const, ev_func, set_get, Nat.reduceEqDiff, reduceIte, qv_binOp, binv_add, k3_0, k4_0, k5_0, k6_0, i8_0, hB1.cell, hB2.cell, hB3.cell, hB4.cell]; (try simp (disch := omega) only [w64, w8, wu64]); rfl) ?_
          refine WL.qq (by simp only [ev_tmp, ev_const, ev_func, set_get, Nat.reduceEqDiff, reduceIte, qv_assign, k3_0, k4_0, k5_0, k6_0, i8_0, hB1.cell, hB2.cell, hB3.cell, hB4.cell]; rfl) ?_
          refine WL.nil ?_
          refine th_norm ?_
          refine ⟨rfl, ?_, ?_, _, ?_, day + 1, rfl, ?_, ?_, ?_⟩  -- again 0 of loop 0
          · exact hEL0
          · (repeat (first | exact Fr.refl _ _ | refine Fr.set rfl ?_ | refine Fr.put rfl ?_ | refine Fr.put0 ?_))
          · omega
          · exact ⟨by omega, by omega⟩
          · exact hsp
          · simp only [ev_tmp, ev_const, ev_func, set_get, Nat.reduceEqDiff, reduceIte, k3_0, k4_0, k5_0, k6_0, i8_0, hB1.cell, hB2.cell, hB3.cell, hB4.cell] <;> first | rfl | (congr 1; omega)
      ·
        try simp only [decide_eq_true_eq, decide_eq_false_iff_not, Bool.and_eq_true, Bool.and_eq_false_iff, Bool.or_eq_true, Bool.or_eq_false_iff, Bool.not_eq_true', Bool.not_eq_false', Bool.not_eq_true, Bool.not_eq_false] at hct25
        have hDR : D = R1 := by rw [hD, ← hR1]; have hde : day = d := (by omega); subst hde; exact ((day_R hs6 (a := (day, m)) hv.2.2).1 rfl).symm
        refine hx_skip ?_
        refine th_norm ?_
        refine hx_seq ?_
        refine hx_region ?_
        refine WL.qq (by simp only [ev_tmp, ev_const, ev_func, set_get, Nat.reduceEqDiff, reduceIte, qv_move, k3_0, k4_0, k5_0, k6_0, i8_0, hB1.cell, hB2.cell, hB3.cell, hB4.cell]; rfl) ?_
        refine WL.qq (by simp only [ev_tmp, ev_const, ev_func, set_get, Nat.reduceEqDiff, reduceIte, qv_len, ln58, List.getElem?_toArray, List.getElem?_cons_zero, List.getElem?_cons_succ, List.map_toArray, List.map_cons, List.map_nil, Option.map_some, Option.bind_some, k3_0, k4_0, k5_0, k6_0, i8_0, hB1.cell, hB2.cell, hB3.cell, hB4.cell]; rfl) ?_
        refine WL.qq (by simp only [ev_tmp, ev_const, ev_func, set_get, Nat.reduceEqDiff, reduceIte, qv_binOp, binv_gtr, k3_0, k4_0, k5_0, k6_0, i8_0, hB1.cell, hB2.cell, hB3.cell, hB4.cell]; rfl) ?_
        refine WL.nil ?_
        refine th_norm ?_
        refine hx_cond (by simp only [ev_tmp, ev_const, ev_func, set_get, Nat.reduceEqDiff, reduceIte, k3_0, k4_0, k5_0, k6_0, i8_0, hB1.cell, hB2.cell, hB3.cell, hB4.cell]; rfl) (fun hct36 => ?_) (fun hct36 => ?_)
        ·
          try simp only [decide_eq_true_eq, decide_eq_false_iff_not, Bool.and_eq_true, Bool.and_eq_false_iff, Bool.or_eq_true, Bool.or_eq_false_iff, Bool.not_eq_true', Bool.not_eq_false', Bool.not_eq_true, Bool.not_eq_false] at hct36
          obtain ⟨y, hy⟩ : ∃ y, D[0]? = some y := by rw [hDR]; exact ⟨_, List.getElem?_eq_getElem (by omega)⟩
          have hy2 := hy; rw [hDR] at hy2
          have hr : rnextM L = (y, true) := by rw [hsp]; simp only [rnextM]; rw [List.getElem?_append_left (List.getElem?_eq_some_iff.1 hy).1, hy]
          first | (obtain ⟨bq, offq, rfl, hrd⟩ := hsl2 0 y hy2) | (obtain ⟨bq, offq, rfl, hrd⟩ := hsl 0 y hy2)
          refine hx_seq ?_
          refine hx_region ?_
          refine WL.qq (by simp only [ev_tmp, ev_const, ev_func, set_get, Nat.reduceEqDiff, reduceIte, qv_move, k3_0, k4_0, k5_0, k6_0, i8_0, hB1.cell, hB2.cell, hB3.cell, hB4.cell]; rfl) ?_
          refine WL.qq (by simp only [ev_tmp, ev_const, ev_func, set_get, Nat.reduceEqDiff, reduceIte, k3_0, k4_0, k5_0, k6_0, i8_0, hB1.cell, hB2.cell, hB3.cell, hB4.cell, qv_indexAddr]; exact ix58 _ _ _ _ _ _ (by omega) (by omega)) ?_
          refine WL.qq (by have hrd2 : readN h5 bq (offq + 0 * 3) 3 = some (chgL y) := hrd; simp only [ev_tmp, ev_const, ev_func, set_get, Nat.reduceEqDiff, reduceIte, k3_0, k4_0, k5_0, k6_0, i8_0, hB1.cell, hB2.cell, hB3.cell, hB4.cell, qv_load, ld64, show (0 : Int).toNat = 0 from rfl, hrd2]; rfl) ?_
          refine WL.store (by simp only [ev_tmp, ev_const, ev_func, set_get, Nat.reduceEqDiff, reduceIte, k3_0, k4_0, k5_0, k6_0, i8_0, hB1.cell, hB2.cell, hB3.cell, hB4.cell] <;> rfl) sz64 (by simp only [ev_tmp, ev_const, ev_func, set_get, Nat.reduceEqDiff, reduceIte, Value.cells, k3_0, k4_0, k5_0, k6_0, i8_0, hB1.cell, hB2.cell, hB3.cell, hB4.cell] <;> rfl) rfl hB4 (by first | decide | (simp; done) | (simp; omega)) (by simp [Value.oneCell']) ?_
          intro h8 hw8
          replace hE := hw8.ext hE hb0_4
          replace hEo4 := hw8.ext hEo4 hlt4
          replace hw := hw_s4.ext hEo4
          replace hh := hh_s4.ext hEo4
          replace hB1 := hB1_s4.ext hEo4
          replace hB2 := hB2_s4.ext hEo4
          replace hB3 := hB3_s4.ext hEo4
          replace hB4 := hw8.at_
          try simp only [splc, List.take_succ_cons, List.take_zero, List.take_nil, List.drop_succ_cons, List.drop_zero, List.drop_nil, List.cons_append, List.nil_append, List.length_cons, List.length_nil, Nat.zero_add, Nat.add_zero, Nat.reduceAdd, List.append_nil] at hB4
          refine WL.qq (by simp only [ev_tmp, ev_const, ev_func, set_get, Nat.reduceEqDiff, reduceIte, qv_assign, k3_0, k4_0, k5_0, k6_0, i8_0, hB1.cell, hB2.cell, hB3.cell, hB4.cell]; rfl) ?_
          refine WL.nil ?_
          refine th_norm ?_
          refine hx_ret ?_
          refine bl_ret ?_
          refine th_ret ?_
          refine th_ret ?_
          refine bl_ret ?_
          refine th_ret ?_
          refine fin_ret [.cell 6 64, .tmp 7] rfl rfl (by simp only [ev_tmp, ev_const, ev_func, set_get, Nat.reduceEqDiff, reduceIte, resv, ld64, readN, List.getElem?_toArray, List.getElem?_cons_zero, List.getElem?_cons_succ, List.map_toArray, List.map_cons, List.map_nil, Option.map_some, Option.bind_some, Nat.zero_add, Nat.reduceAdd, k3_0, k4_0, k5_0, k6_0, i8_0, hB1.cell, hB2.cell, hB3.cell, hB4.cell]; rfl) ?_  -- ret 1 r8
          exact ⟨by rw [hr]; rfl, hE⟩
        ·
          try simp only [decide_eq_true_eq, decide_eq_false_iff_not, Bool.and_eq_true, Bool.and_eq_false_iff, Bool.or_eq_true, Bool.or_eq_false_iff, Bool.not_eq_true', Bool.not_eq_false', Bool.not_eq_true, Bool.not_eq_false] at hct36
          have hD0 : D = [] := by rw [hDR]; exact List.length_eq_zero_iff.1 (by omega)
          rw [hD0, List.nil_append] at hsp
          refine hx_skip ?_
          refine bl_norm ?_
          refine th_norm ?_
          refine hx_region ?_
          refine WL.qq (by simp only [ev_tmp, ev_const, ev_func, set_get, Nat.reduceEqDiff, reduceIte, qv_move, k3_0, k4_0, k5_0, k6_0, i8_0, hB1.cell, hB2.cell, hB3.cell, hB4.cell]; rfl) ?_
          refine WL.qq (by simp only [ev_tmp, ev_const, ev_func, set_get, Nat.reduceEqDiff, reduceIte, qv_binOp, binv_add, k3_0, k4_0, k5_0, k6_0, i8_0, hB1.cell, hB2.cell, hB3.cell, hB4.cell]; (try simp (disch := omega) only [w64, w8, wu64]); rfl) ?_
          refine WL.qq (by simp only [ev_tmp, ev_const, ev_func, set_get, Nat.reduceEqDiff, reduceIte, qv_assign, k3_0, k4_0, k5_0, k6_0, i8_0, hB1.cell, hB2.cell, hB3.cell, hB4.cell]; rfl) ?_
          refine WL.nil ?_
          refine th_norm ?_
          refine ⟨rfl, ?_, ?_, _, ?_, day + 1, rfl, ?_, ?_, ?_⟩  -- again 1 of loop 0
          · exact hEL0
          · (repeat (first | exact Fr.refl _ _ | refine Fr.set rfl ?_ | refine Fr.put rfl ?_ | refine Fr.put0 ?_))
          · omega
          · exact ⟨by omega, by omega⟩
          · exact hsp
          · simp only [ev_tmp, ev_const, ev_func, set_get, Nat.reduceEqDiff, reduceIte, k3_0, k4_0, k5_0, k6_0, i8_0, hB1.cell, hB2.cell, hB3.cell, hB4.cell] <;> first | rfl | (congr 1; omega)
    ·
      try simp only [decide_eq_true_eq, decide_eq_false_iff_not, Bool.and_eq_true, Bool.and_eq_false_iff, Bool.or_eq_true, Bool.or_eq_false_iff, Bool.not_eq_true', Bool.not_eq_false', Bool.not_eq_true, Bool.not_eq_false] at hct13
      have hdz : day = 73049 := (by omega); subst hdz
      refine hx_exit ?_
      refine th_exit ?_
      refine th_exit ?_
      refine bl_hit ?_
      refine th_norm ?_
      refine hx_seq ?_
      refine hx_region ?_
      refine WL.qq (by refine qv_bld (by simp only [ev_tmp, ev_const, ev_func, set_get, Nat.reduceEqDiff, reduceIte, List.getElem?_toArray, List.getElem?_cons_zero, List.getElem?_cons_succ, List.map_toArray, List.map_cons, List.map_nil, Option.map_some, Option.bind_some, k3_0, k4_0, k5_0, k6_0, i8_0, hB1.cell, hB2.cell, hB3.cell, hB4.cell] <;> rfl) (by rw [bl64]; simp [Instr.fill, Value.cells]; rfl)) ?_
      refine WL.store (by simp only [ev_tmp, ev_const, ev_func, set_get, Nat.reduceEqDiff, reduceIte, k3_0, k4_0, k5_0, k6_0, i8_0, hB1.cell, hB2.cell, hB3.cell, hB4.cell] <;> rfl) sz64 (by simp only [ev_tmp, ev_const, ev_func, set_get, Nat.reduceEqDiff, reduceIte, Value.cells, k3_0, k4_0, k5_0, k6_0, i8_0, hB1.cell, hB2.cell, hB3.cell, hB4.cell] <;> rfl) rfl hB4 (by first | decide | (simp; done) | (simp; omega)) (by simp [Value.oneCell']) ?_
      intro h9 hw9
      replace hE := hw9.ext hE hb0_4
      replace hEo4 := hw9.ext hEo4 hlt4
      replace hw := hw_s4.ext hEo4
      replace hh := hh_s4.ext hEo4
      replace hB1 := hB1_s4.ext hEo4
      replace hB2 := hB2_s4.ext hEo4
      replace hB3 := hB3_s4.ext hEo4
      replace hB4 := hw9.at_
      try simp only [splc, List.take_succ_cons, List.take_zero, List.take_nil, List.drop_succ_cons, List.drop_zero, List.drop_nil, List.cons_append, List.nil_append, List.length_cons, List.length_nil, Nat.zero_add, Nat.add_zero, Nat.reduceAdd, List.append_nil] at hB4
      refine WL.qq (by simp only [ev_tmp, ev_const, ev_func, set_get, Nat.reduceEqDiff, reduceIte, qv_assign, k3_0, k4_0, k5_0, k6_0, i8_0, hB1.cell, hB2.cell, hB3.cell, hB4.cell]; rfl) ?_
      refine WL.nil ?_
      refine th_norm ?_
      refine hx_ret ?_
      refine fin_ret [.cell 6 64, .tmp 7] rfl rfl (by simp only [ev_tmp, ev_const, ev_func, set_get, Nat.reduceEqDiff, reduceIte, resv, ld64, readN, List.getElem?_toArray, List.getElem?_cons_zero, List.getElem?_cons_succ, List.map_toArray, List.map_cons, List.map_nil, Option.map_some, Option.bind_some, Nat.zero_add, Nat.reduceAdd, k3_0, k4_0, k5_0, k6_0, i8_0, hB1.cell, hB2.cell, hB3.cell, hB4.cell]; rfl) ?_  -- ret 2 r9
      exact ⟨by rw [hrest]; rfl, hE⟩
def failM (s : List Int) (cs : List (Int × Int)) : Int := if chkGo (-1) s ≠ 0 then chkGo (-1) s else if cs.all clockOk = true then 0 else 2
theorem fail_val {s : List Int} {a : Addr} {cs : List (Int × Int)} : failM s cs = valM s (some a) cs := by simp [failM, valM]
theorem c_fails (s0 s1 s2 s3 s4 s5 : Int) (a : Option Addr) (cs : List (Int × Int)) (cap : Nat) {h : Heap} (hlen : cs.length ≤ 4611686018427387904) (hs : SlC h a cs) :
    HCalls Try.prog 15 #[sch s0 s1 s2 s3 s4 s5, .slice a cs.length cap] h (Grow (.int .i64 (failM [s0, s1, s2, s3, s4, s5] cs)) h) := by
  refine hcalls2 Try.func15 rfl (by decide +kernel) (by simp only [Try.ntmps15]; exact of_decide_eq_true rfl) ?_
  intro e hin
  have e0 := hin 0 _ rfl
  have e1 := hin 1 _ rfl
  generalize hck : chkGo (-1) [s0, s1, s2, s3, s4, s5] = ck
  refine hx_seq ?_
  refine hx_region ?_
  refine WL.box2 (by simp only [ev_tmp, ev_const, ev_func, set_get, Nat.reduceEqDiff, reduceIte, Value.cells, e0, e1]; rfl) ?_
  intro h1 B1 hx1 hlt1 hB1
  replace hs := hs.ext hx1
  refine WL.qq (by simp only [ev_tmp, ev_const, ev_func, set_get, Nat.reduceEqDiff, reduceIte, qv_assign, e0, e1, hB1.cell]; rfl) ?_
  refine WL.nil ?_
  refine th_norm ?_
  refine hx_seq ?_
  refine hx_seq ?_
  refine hx_region ?_
  refine WL.qq (by simp only [ev_tmp, ev_const, ev_func, set_get, Nat.reduceEqDiff, reduceIte, qv_fieldAddr, fa24_0, Nat.zero_add, Nat.reduceAdd, e0, e1, hB1.cell]; rfl) ?_
  refine WL.qq (by simp only [ev_tmp, ev_const, ev_func, set_get, Nat.reduceEqDiff, reduceIte, qv_load, ld22, readN, List.getElem?_toArray, List.getElem?_cons_zero, List.getElem?_cons_succ, List.map_toArray, List.map_cons, List.map_nil, Option.map_some, Option.bind_some, Nat.zero_add, Nat.reduceAdd, e0, e1, hB1.cell]; rfl) ?_
  refine WL.cg Try.call17 (by simp only [ev_tmp, ev_const, ev_func, set_get, Nat.reduceEqDiff, reduceIte, List.getElem?_toArray, List.getElem?_cons_zero, List.getElem?_cons_succ, List.map_toArray, List.map_cons, List.map_nil, Option.map_some, Option.bind_some, e0, e1, hB1.cell]; exact hck ▸ c_rcheck s0 s1 s2 s3 s4 s5 _) ?_
  intro h2 hx2
  replace hs := hs.ext hx2
  replace hB1 := hB1.ext hx2
  refine WL.qq (by simp only [ev_tmp, ev_const, ev_func, set_get, Nat.reduceEqDiff, reduceIte, qv_assign, e0, e1, hB1.cell]; rfl) ?_
  refine WL.nil ?_
  refine th_norm ?_
  refine hx_seq ?_
  refine hx_region ?_
  refine WL.qq (by simp only [ev_tmp, ev_const, ev_func, set_get, Nat.reduceEqDiff, reduceIte, qv_move, e0, e1, hB1.cell]; rfl) ?_
  refine WL.qq (by simp only [ev_tmp, ev_const, ev_func, set_get, Nat.reduceEqDiff, reduceIte, qv_binOp, binv_neq, eq3, Option.map_some, e0, e1, hB1.cell]; rfl) ?_
  refine WL.nil ?_
  refine th_norm ?_
  refine hx_cond (by simp only [ev_tmp, ev_const, ev_func, set_get, Nat.reduceEqDiff, reduceIte, e0, e1, hB1.cell]; rfl) (fun hct11 => ?_) (fun hct11 => ?_)
  ·
    try simp only [decide_eq_true_eq, decide_eq_false_iff_not, Bool.and_eq_true, Bool.and_eq_false_iff, Bool.or_eq_true, Bool.or_eq_false_iff, Bool.not_eq_true', Bool.not_eq_false', Bool.not_eq_true, Bool.not_eq_false] at hct11
    refine hx_seq ?_
    refine hx_region ?_
    refine WL.qq (by simp only [ev_tmp, ev_const, ev_func, set_get, Nat.reduceEqDiff, reduceIte, qv_move, e0, e1, hB1.cell]; rfl) ?_
    refine WL.qq (by simp only [ev_tmp, ev_const, ev_func, set_get, Nat.reduceEqDiff, reduceIte, qv_assign, e0, e1, hB1.cell]; rfl) ?_
    refine WL.nil ?_
    refine th_norm ?_
    refine hx_ret ?_
    refine th_ret ?_
    refine fin_ret [.tmp 4] rfl rfl (by simp only [ev_tmp, ev_const, ev_func, set_get, Nat.reduceEqDiff, reduceIte, resv, e0, e1, hB1.cell]; rfl) ?_  -- ret 0 r3
    exact ⟨by simp only [failM, hck]; rw [if_pos hct11]; rfl, ((hx1).trans (hx2))⟩
  ·
    try simp only [decide_eq_true_eq, decide_eq_false_iff_not, Bool.and_eq_true, Bool.and_eq_false_iff, Bool.or_eq_true, Bool.or_eq_false_iff, Bool.not_eq_true', Bool.not_eq_false', Bool.not_eq_true, Bool.not_eq_false] at hct11
    refine hx_skip ?_
    refine th_norm ?_
    refine hx_seq ?_
    refine hx_seq ?_
    refine hx_region ?_
    refine WL.qq (by simp only [ev_tmp, ev_const, ev_func, set_get, Nat.reduceEqDiff, reduceIte, qv_assign, e0, e1, hB1.cell]; rfl) ?_
    refine WL.nil ?_
    refine th_norm ?_
    refine hx_block ?_
    refine hx_loopX [4, 6, 13, 14, 15, 16, 17, 18, 19, 20, 21, 22, 23, 24, 25] (fun k e => ∃ (i : Nat), cs.length - i = k ∧ (i ≤ cs.length) ∧ ((cs.take i).all clockOk = true) ∧ e 6 = .int .i64 i) _ ⟨0, rfl, ?_, ?_, ?_⟩ ?_
    · omega
    · simp
    · simp only [ev_tmp, ev_const, ev_func, set_get, Nat.reduceEqDiff, reduceIte, e0, e1, hB1.cell] <;> rfl
    ·
      rintro k e0L hL0 hX0 hfr0 ⟨i, rfl, hi, hal, i6_0⟩
      replace hs := hs.ext hX0
      replace hB1 := hB1.ext hX0
      have k1_0 := hfr0 1 rfl; simp only [ev_tmp, ev_const, ev_func, set_get, Nat.reduceEqDiff, reduceIte, e0, e1, hB1.cell] at k1_0
      refine hx_seq ?_
      refine hx_seq ?_
      refine hx_region ?_
      refine WL.qq (by simp only [ev_tmp, ev_const, ev_func, set_get, Nat.reduceEqDiff, reduceIte, qv_move, k1_0, i6_0, hB1.cell]; rfl) ?_
      refine WL.qq (by simp only [ev_tmp, ev_const, ev_func, set_get, Nat.reduceEqDiff, reduceIte, qv_move, k1_0, i6_0, hB1.cell]; rfl) ?_
      refine WL.qq (by simp only [ev_tmp, ev_const, ev_func, set_get, Nat.reduceEqDiff, reduceIte, qv_len, ln84, List.getElem?_toArray, List.getElem?_cons_zero, List.getElem?_cons_succ, List.map_toArray, List.map_cons, List.map_nil, Option.map_some, Option.bind_some, k1_0, i6_0, hB1.cell]; rfl) ?_
      refine WL.qq (by simp only [ev_tmp, ev_const, ev_func, set_get, Nat.reduceEqDiff, reduceIte, qv_binOp, binv_lss, k1_0, i6_0, hB1.cell]; rfl) ?_
      refine WL.nil ?_
      refine th_norm ?_
      refine hx_cond (by simp only [ev_tmp, ev_const, ev_func, set_get, Nat.reduceEqDiff, reduceIte, k1_0, i6_0, hB1.cell]; rfl) (fun hct16 => ?_) (fun hct16 => ?_)
      ·
        try simp only [decide_eq_true_eq, decide_eq_false_iff_not, Bool.and_eq_true, Bool.and_eq_false_iff, Bool.or_eq_true, Bool.or_eq_false_iff, Bool.not_eq_true', Bool.not_eq_false', Bool.not_eq_true, Bool.not_eq_false] at hct16
        obtain ⟨c, hc⟩ : ∃ c, cs[i]? = some c := ⟨cs[i]'(by omega), by simp⟩
        obtain ⟨d, m⟩ := c
        obtain ⟨b, off, rfl, hrd⟩ := hs i d m hc
        refine hx_skip ?_
        refine th_norm ?_
        refine hx_seq ?_
        refine hx_block ?_
        refine hx_seq ?_
        refine hx_region ?_
        refine WL.qq (by simp only [ev_tmp, ev_const, ev_func, set_get, Nat.reduceEqDiff, reduceIte, qv_move, k1_0, i6_0, hB1.cell]; rfl) ?_
        refine WL.qq (by simp only [ev_tmp, ev_const, ev_func, set_get, Nat.reduceEqDiff, reduceIte, qv_move, k1_0, i6_0, hB1.cell]; rfl) ?_
        refine WL.qq (by simp only [ev_tmp, ev_const, ev_func, set_get, Nat.reduceEqDiff, reduceIte, qv_indexAddr, k1_0, i6_0, hB1.cell]; (try simp (disch := omega) only [ix84, Int.toNat_natCast]); rfl) ?_
        refine WL.qq (by simp only [ev_tmp, ev_const, ev_func, set_get, Nat.reduceEqDiff, reduceIte, k1_0, i6_0, hB1.cell, qv_load, ld29, Int.toNat_natCast, hrd]; rfl) ?_
        refine WL.cg Try.call19 (by simp only [ev_tmp, ev_const, ev_func, set_get, Nat.reduceEqDiff, reduceIte, List.getElem?_toArray, List.getElem?_cons_zero, List.getElem?_cons_succ, List.map_toArray, List.map_cons, List.map_nil, Option.map_some, Option.bind_some, k1_0, i6_0, hB1.cell]; exact c_to _ _ _) ?_
        intro h3 hx3
        replace hs := hs.ext hx3
        replace hB1 := hB1.ext hx3
        refine WL.cg Try.call39 (by simp only [ev_tmp, ev_const, ev_func, set_get, Nat.reduceEqDiff, reduceIte, List.getElem?_toArray, List.getElem?_cons_zero, List.getElem?_cons_succ, List.map_toArray, List.map_cons, List.map_nil, Option.map_some, Option.bind_some, k1_0, i6_0, hB1.cell]; exact c_rclock d m _) ?_
        intro h4 hx4
        replace hs := hs.ext hx4
        replace hB1 := hB1.ext hx4
        refine WL.qq (by simp only [ev_tmp, ev_const, ev_func, set_get, Nat.reduceEqDiff, reduceIte, qv_unOp, unv_not, k1_0, i6_0, hB1.cell]; rfl) ?_
        refine WL.nil ?_
        refine th_norm ?_
        refine hx_cond (by simp only [ev_tmp, ev_const, ev_func, set_get, Nat.reduceEqDiff, reduceIte, k1_0, i6_0, hB1.cell]; rfl) (fun hct25 => ?_) (fun hct25 => ?_)
        ·
          try simp only [decide_eq_true_eq, decide_eq_false_iff_not, Bool.and_eq_true, Bool.and_eq_false_iff, Bool.or_eq_true, Bool.or_eq_false_iff, Bool.not_eq_true', Bool.not_eq_false', Bool.not_eq_true, Bool.not_eq_false] at hct25
          refine hx_seq ?_
          refine hx_region ?_
          refine WL.qq (by simp only [ev_tmp, ev_const, ev_func, set_get, Nat.reduceEqDiff, reduceIte, qv_assign, k1_0, i6_0, hB1.cell]; rfl) ?_
          refine WL.nil ?_
          refine th_norm ?_
          refine hx_ret ?_
          refine bl_ret ?_
          refine th_ret ?_
          refine th_ret ?_
          refine bl_ret ?_
          refine th_ret ?_
          refine fin_ret [.tmp 4] rfl rfl (by simp only [ev_tmp, ev_const, ev_func, set_get, Nat.reduceEqDiff, reduceIte, resv, k1_0, i6_0, hB1.cell]; rfl) ?_  -- ret 1 r8
          have hno : cs.all clockOk ≠ true := fun hh => by { have := List.all_eq_true.1 hh (d, m) (List.mem_of_getElem? hc); rw [hct25] at this; cases this }
          exact ⟨by simp only [failM, hck]; rw [if_neg (by omega), if_neg hno]; rfl, ((hx1).trans ((hx2).trans ((hX0).trans ((hx3).trans (hx4)))))⟩
        ·
          try simp only [decide_eq_true_eq, decide_eq_false_iff_not, Bool.and_eq_true, Bool.and_eq_false_iff, Bool.or_eq_true, Bool.or_eq_false_iff, Bool.not_eq_true', Bool.not_eq_false', Bool.not_eq_true, Bool.not_eq_false] at hct25
          refine hx_skip ?_
          refine bl_norm ?_
          refine th_norm ?_
          refine hx_region ?_
          refine WL.qq (by simp only [ev_tmp, ev_const, ev_func, set_get, Nat.reduceEqDiff, reduceIte, qv_move, k1_0, i6_0, hB1.cell]; rfl) ?_
          refine WL.qq (by simp only [ev_tmp, ev_const, ev_func, set_get, Nat.reduceEqDiff, reduceIte, qv_binOp, binv_add, k1_0, i6_0, hB1.cell]; (try simp (disch := omega) only [w64, w8, wu64]); rfl) ?_
          refine WL.qq (by simp only [ev_tmp, ev_const, ev_func, set_get, Nat.reduceEqDiff, reduceIte, qv_assign, k1_0, i6_0, hB1.cell]; rfl) ?_
          refine WL.nil ?_
          refine th_norm ?_
          refine ⟨rfl, ?_, ?_, _, ?_, i + 1, rfl, ?_, ?_, ?_⟩  -- again 0 of loop 0
          · exact (hx3).trans (hx4)
          · (repeat (first | exact Fr.refl _ _ | refine Fr.set rfl ?_ | refine Fr.put rfl ?_ | refine Fr.put0 ?_))
          · omega
          · omega
          · rw [List.take_add_one, hc, List.all_append, hal]; simp [hct25]
          · simp only [ev_tmp, ev_const, ev_func, set_get, Nat.reduceEqDiff, reduceIte, k1_0, i6_0, hB1.cell] <;> first | rfl | (congr 1; omega)
      ·
        try simp only [decide_eq_true_eq, decide_eq_false_iff_not, Bool.and_eq_true, Bool.and_eq_false_iff, Bool.or_eq_true, Bool.or_eq_false_iff, Bool.not_eq_true', Bool.not_eq_false', Bool.not_eq_true, Bool.not_eq_false] at hct16
        refine hx_exit ?_
        refine th_exit ?_
        refine th_exit ?_
        refine bl_hit ?_
        refine th_norm ?_
        refine hx_seq ?_
        refine hx_region ?_
        refine WL.qq (by simp only [ev_tmp, ev_const, ev_func, set_get, Nat.reduceEqDiff, reduceIte, qv_assign, k1_0, i6_0, hB1.cell]; rfl) ?_
        refine WL.nil ?_
        refine th_norm ?_
        refine hx_ret ?_
        refine fin_ret [.tmp 4] rfl rfl (by simp only [ev_tmp, ev_const, ev_func, set_get, Nat.reduceEqDiff, reduceIte, resv, k1_0, i6_0, hB1.cell]; rfl) ?_  -- ret 2 r9
        have hil : i = cs.length := (by omega)
        rw [hil, List.take_length] at hal
        exact ⟨by simp only [failM, hck]; rw [if_neg (by omega), if_pos hal]; rfl, ((hx1).trans ((hx2).trans (hX0)))⟩
theorem c_change (c : Chg) (h : Heap) : HCalls Try.prog 27 #[chgV c] h (Grow (chgV c) h) := by
  refine hcalls2 Try.func27 rfl (by decide +kernel) (by simp only [Try.ntmps27]; exact of_decide_eq_true rfl) ?_
  intro e hin
  have e0 := hin 0 _ rfl
  have hE : Ext h h := Ext.refl h
  refine hx_seq ?_
  refine hx_region ?_
  refine WL.box2 (by simp only [ev_tmp, ev_const, ev_func, set_get, Nat.reduceEqDiff, reduceIte, Value.cells, e0]; rfl) ?_
  intro h1 B1 hx1 hlt1 hB1
  replace hE := hE.trans hx1
  refine WL.alloc2 zr61 ?_
  intro h2 B2 hx2 hlt2 hB2
  have hne1_2 : B2 ≠ B1 := by have := (Array.getElem?_eq_some_iff.1 hB1).1; omega
  have hb0_2 := Nat.le_trans hE.size hlt2
  have hB1_s2 := hB1
  replace hE := hE.trans hx2
  replace hB1 := hB1.ext hx2
  have hEo2 := hx2
  simp only [Value.cells] at hB2
  refine WL.nil ?_
  refine th_norm ?_
  refine hx_seq ?_
  refine hx_region ?_
  refine WL.qq (by simp only [ev_tmp, ev_const, ev_func, set_get, Nat.reduceEqDiff, reduceIte, qv_fieldAddr, fa64_0, Nat.zero_add, Nat.reduceAdd, e0, hB1.cell, hB2.cell]; rfl) ?_
  refine WL.qq (by simp only [ev_tmp, ev_const, ev_func, set_get, Nat.reduceEqDiff, reduceIte, qv_fieldAddr, fa41_0, Nat.zero_add, Nat.reduceAdd, e0, hB1.cell, hB2.cell]; rfl) ?_
  refine WL.qq (by simp only [ev_tmp, ev_const, ev_func, set_get, Nat.reduceEqDiff, reduceIte, qv_load, ld3, readN, List.getElem?_toArray, List.getElem?_cons_zero, List.getElem?_cons_succ, List.map_toArray, List.map_cons, List.map_nil, Option.map_some, Option.bind_some, Nat.zero_add, Nat.reduceAdd, e0, hB1.cell, hB2.cell]; rfl) ?_
  refine WL.qq (by simp only [ev_tmp, ev_const, ev_func, set_get, Nat.reduceEqDiff, reduceIte, qv_fieldAddr, fa64_0, Nat.zero_add, Nat.reduceAdd, e0, hB1.cell, hB2.cell]; rfl) ?_
  refine WL.qq (by simp only [ev_tmp, ev_const, ev_func, set_get, Nat.reduceEqDiff, reduceIte, qv_fieldAddr, fa41_1, Nat.zero_add, Nat.reduceAdd, e0, hB1.cell, hB2.cell]; rfl) ?_
  refine WL.qq (by simp only [ev_tmp, ev_const, ev_func, set_get, Nat.reduceEqDiff, reduceIte, qv_load, ld3, readN, List.getElem?_toArray, List.getElem?_cons_zero, List.getElem?_cons_succ, List.map_toArray, List.map_cons, List.map_nil, Option.map_some, Option.bind_some, Nat.zero_add, Nat.reduceAdd, e0, hB1.cell, hB2.cell]; rfl) ?_
  refine WL.qq (by refine qv_bld (by simp only [ev_tmp, ev_const, ev_func, set_get, Nat.reduceEqDiff, reduceIte, List.getElem?_toArray, List.getElem?_cons_zero, List.getElem?_cons_succ, List.map_toArray, List.map_cons, List.map_nil, Option.map_some, Option.bind_some, e0, hB1.cell, hB2.cell] <;> rfl) (by rw [bl29]; simp [Instr.fill, Value.cells]; rfl)) ?_
  refine WL.qq (by simp only [ev_tmp, ev_const, ev_func, set_get, Nat.reduceEqDiff, reduceIte, qv_fieldAddr, fa64_1, Nat.zero_add, Nat.reduceAdd, e0, hB1.cell, hB2.cell]; rfl) ?_
  refine WL.qq (by simp only [ev_tmp, ev_const, ev_func, set_get, Nat.reduceEqDiff, reduceIte, qv_load, ld3, readN, List.getElem?_toArray, List.getElem?_cons_zero, List.getElem?_cons_succ, List.map_toArray, List.map_cons, List.map_nil, Option.map_some, Option.bind_some, Nat.zero_add, Nat.reduceAdd, e0, hB1.cell, hB2.cell]; rfl) ?_
  refine WL.qq (by refine qv_bld (by simp only [ev_tmp, ev_const, ev_func, set_get, Nat.reduceEqDiff, reduceIte, List.getElem?_toArray, List.getElem?_cons_zero, List.getElem?_cons_succ, List.map_toArray, List.map_cons, List.map_nil, Option.map_some, Option.bind_some, e0, hB1.cell, hB2.cell] <;> rfl) (by rw [bl61]; simp [Instr.fill, Value.cells]; rfl)) ?_
  refine WL.store (by simp only [ev_tmp, ev_const, ev_func, set_get, Nat.reduceEqDiff, reduceIte, e0, hB1.cell, hB2.cell] <;> rfl) sz61 (by simp only [ev_tmp, ev_const, ev_func, set_get, Nat.reduceEqDiff, reduceIte, Value.cells, e0, hB1.cell, hB2.cell] <;> rfl) rfl hB2 (by first | decide | (simp; done) | (simp; omega)) (by simp [Value.oneCell']) ?_
  intro h3 hw3
  replace hE := hw3.ext hE hb0_2
  replace hEo2 := hw3.ext hEo2 hlt2
  replace hB1 := hB1_s2.ext hEo2
  replace hB2 := hw3.at_
  try simp only [splc, List.take_succ_cons, List.take_zero, List.take_nil, List.drop_succ_cons, List.drop_zero, List.drop_nil, List.cons_append, List.nil_append, List.length_cons, List.length_nil, Nat.zero_add, Nat.add_zero, Nat.reduceAdd, List.append_nil] at hB2
  refine WL.nil ?_
  refine th_norm ?_
  refine hx_ret ?_
  refine fin_ret [.cell 2 61] rfl rfl (by simp only [ev_tmp, ev_const, ev_func, set_get, Nat.reduceEqDiff, reduceIte, resv, ld61, readN, List.getElem?_toArray, List.getElem?_cons_zero, List.getElem?_cons_succ, List.map_toArray, List.map_cons, List.map_nil, Option.map_some, Option.bind_some, Nat.zero_add, Nat.reduceAdd, e0, hB1.cell, hB2.cell]; rfl) ?_  -- ret 0 r1
  exact ⟨rfl, hE⟩
theorem c_made_ok {wk hol : List Int} (hz : newM wk hol = 0) (h1 : hol.length ≤ 60) (h2 : wk.length ≤ 7) {a a' : Option Addr} (c c' : Nat) {h : Heap} (hw : SlI h a wk) (hh : SlI h a' hol) (lw : wk.length ≤ 9223372036854775807) :
    HCalls Try.prog 12 #[.agg #[.slice a wk.length c, .slice a' hol.length c']] h fun v h' => Ext h h' ∧ ∃ p, v = .tuple #[.pointer (some ⟨p, 0, none⟩), .bool true] ∧ IsCal h' p wk (srt hol) := by
  refine hcalls2 Try.func12 rfl (by decide +kernel) (by simp only [Try.ntmps12]; exact of_decide_eq_true rfl) ?_
  intro e hin
  have e0 := hin 0 _ rfl
  refine hx_seq ?_
  refine hx_region ?_
  refine WL.box2 (by simp only [ev_tmp, ev_const, ev_func, set_get, Nat.reduceEqDiff, reduceIte, Value.cells, e0]; rfl) ?_
  intro h1 B1 hx1 hlt1 hB1
  replace hw := hw.ext hx1
  replace hh := hh.ext hx1
  refine WL.qq (by simp only [ev_tmp, ev_const, ev_func, set_get, Nat.reduceEqDiff, reduceIte, qv_assign, e0, hB1.cell]; rfl) ?_
  refine WL.qq (by simp only [ev_tmp, ev_const, ev_func, set_get, Nat.reduceEqDiff, reduceIte, qv_assign, e0, hB1.cell]; rfl) ?_
  refine WL.nil ?_
  refine th_norm ?_
  refine hx_seq ?_
  refine hx_seq ?_
  refine hx_region ?_
  refine WL.qq (by simp only [ev_tmp, ev_const, ev_func, set_get, Nat.reduceEqDiff, reduceIte, qv_fieldAddr, fa27_1, Nat.zero_add, Nat.reduceAdd, e0, hB1.cell]; rfl) ?_
  refine WL.qq (by simp only [ev_tmp, ev_const, ev_func, set_get, Nat.reduceEqDiff, reduceIte, qv_load, ld25, readN, List.getElem?_toArray, List.getElem?_cons_zero, List.getElem?_cons_succ, List.map_toArray, List.map_cons, List.map_nil, Option.map_some, Option.bind_some, Nat.zero_add, Nat.reduceAdd, e0, hB1.cell]; rfl) ?_
  refine WL.qq (by simp only [ev_tmp, ev_const, ev_func, set_get, Nat.reduceEqDiff, reduceIte, qv_len, ln25, List.getElem?_toArray, List.getElem?_cons_zero, List.getElem?_cons_succ, List.map_toArray, List.map_cons, List.map_nil, Option.map_some, Option.bind_some, e0, hB1.cell]; rfl) ?_
  refine WL.qq (by simp only [ev_tmp, ev_const, ev_func, set_get, Nat.reduceEqDiff, reduceIte, qv_binOp, binv_gtr, e0, hB1.cell]; rfl) ?_
  refine WL.qq (by simp only [ev_tmp, ev_const, ev_func, set_get, Nat.reduceEqDiff, reduceIte, qv_move, e0, hB1.cell]; rfl) ?_
  refine WL.cq (gd_at (t := 10) rfl (by simp only [ev_tmp, ev_const, ev_func, set_get, Nat.reduceEqDiff, reduceIte, e0, hB1.cell]; rfl)) (fun hg1_5 => by simp only [ev_tmp, ev_const, ev_func, set_get, Nat.reduceEqDiff, reduceIte, qv_fieldAddr, fa27_0, Nat.zero_add, Nat.reduceAdd, e0, hB1.cell, hg1_5, Bool.false_eq_true, Bool.true_eq_false, eq_self, if_true, if_false, true_and, and_true, false_and, and_false]; rfl) ?_
  refine WL.cq (gd_at (t := 10) rfl (by simp only [ev_tmp, ev_const, ev_func, set_get, Nat.reduceEqDiff, reduceIte, e0, hB1.cell]; rfl)) (fun hg1_6 => by simp only [ev_tmp, ev_const, ev_func, set_get, Nat.reduceEqDiff, reduceIte, qv_load, ld25, readN, List.getElem?_toArray, List.getElem?_cons_zero, List.getElem?_cons_succ, List.map_toArray, List.map_cons, List.map_nil, Option.map_some, Option.bind_some, Nat.zero_add, Nat.reduceAdd, e0, hB1.cell, hg1_6, Bool.false_eq_true, Bool.true_eq_false, eq_self, if_true, if_false, true_and, and_true, false_and, and_false]; rfl) ?_
  refine WL.cq (gd_at (t := 10) rfl (by simp only [ev_tmp, ev_const, ev_func, set_get, Nat.reduceEqDiff, reduceIte, e0, hB1.cell]; rfl)) (fun hg1_7 => by simp only [ev_tmp, ev_const, ev_func, set_get, Nat.reduceEqDiff, reduceIte, qv_len, ln25, List.getElem?_toArray, List.getElem?_cons_zero, List.getElem?_cons_succ, List.map_toArray, List.map_cons, List.map_nil, Option.map_some, Option.bind_some, e0, hB1.cell, hg1_7, Bool.false_eq_true, Bool.true_eq_false, eq_self, if_true, if_false, true_and, and_true, false_and, and_false]; rfl) ?_
  refine WL.cq (gd_at (t := 10) rfl (by simp only [ev_tmp, ev_const, ev_func, set_get, Nat.reduceEqDiff, reduceIte, e0, hB1.cell]; rfl)) (fun hg1_8 => by simp only [ev_tmp, ev_const, ev_func, set_get, Nat.reduceEqDiff, reduceIte, qv_binOp, binv_gtr, e0, hB1.cell, hg1_8, Bool.false_eq_true, Bool.true_eq_false, eq_self, if_true, if_false, true_and, and_true, false_and, and_false]; rfl) ?_
  refine WL.qq (by simp only [ev_tmp, ev_const, ev_func, set_get, Nat.reduceEqDiff, reduceIte, qv_pick, pk_and, pk_or, Bool.false_eq_true, Bool.true_eq_false, eq_self, if_true, if_false, true_and, and_true, false_and, and_false, e0, hB1.cell]; rfl) ?_
  refine WL.nil ?_
  refine th_norm ?_
  refine hx_cond (by simp only [ev_tmp, ev_const, ev_func, set_get, Nat.reduceEqDiff, reduceIte, e0, hB1.cell]; rfl) (fun hct15 => ?_) (fun hct15 => ?_)
  ·
    (simp only [decide_eq_true_eq, Bool.or_eq_true] at hct15; omega)
  ·
    try simp only [decide_eq_true_eq, decide_eq_false_iff_not, Bool.and_eq_true, Bool.and_eq_false_iff, Bool.or_eq_true, Bool.or_eq_false_iff, Bool.not_eq_true', Bool.not_eq_false', Bool.not_eq_true, Bool.not_eq_false] at hct15
    refine hx_skip ?_
    refine th_norm ?_
    refine hx_seq ?_
    refine hx_region ?_
    refine WL.qq (by simp only [ev_tmp, ev_const, ev_func, set_get, Nat.reduceEqDiff, reduceIte, qv_load, ld27, readN, List.getElem?_toArray, List.getElem?_cons_zero, List.getElem?_cons_succ, List.map_toArray, List.map_cons, List.map_nil, Option.map_some, Option.bind_some, Nat.zero_add, Nat.reduceAdd, e0, hB1.cell]; rfl) ?_
    refine WL.ce Try.call34 (by simp only [ev_tmp, ev_const, ev_func, set_get, Nat.reduceEqDiff, reduceIte, List.getElem?_toArray, List.getElem?_cons_zero, List.getElem?_cons_succ, List.map_toArray, List.map_cons, List.map_nil, Option.map_some, Option.bind_some, e0, hB1.cell]; exact c_of_ok hz c c' hw hh lw) ?_
    rintro _ h2 ⟨hx2, p, rfl, hc⟩
    replace hw := hw.ext hx2
    replace hh := hh.ext hx2
    replace hB1 := hB1.ext hx2
    simp only [put_some]
    refine WL.qq (by simp only [ev_tmp, ev_const, ev_func, set_get, Nat.reduceEqDiff, reduceIte, qv_move, e0, hB1.cell]; rfl) ?_
    refine WL.qq (by simp only [ev_tmp, ev_const, ev_func, set_get, Nat.reduceEqDiff, reduceIte, qv_extract, List.getElem?_toArray, List.getElem?_cons_zero, List.getElem?_cons_succ, List.map_toArray, List.map_cons, List.map_nil, Option.map_some, Option.bind_some, e0, hB1.cell]; rfl) ?_
    refine WL.qq (by simp only [ev_tmp, ev_const, ev_func, set_get, Nat.reduceEqDiff, reduceIte, qv_extract, List.getElem?_toArray, List.getElem?_cons_zero, List.getElem?_cons_succ, List.map_toArray, List.map_cons, List.map_nil, Option.map_some, Option.bind_some, e0, hB1.cell]; rfl) ?_
    refine WL.qq (by simp only [ev_tmp, ev_const, ev_func, set_get, Nat.reduceEqDiff, reduceIte, qv_assign, e0, hB1.cell]; rfl) ?_
    refine WL.qq (by simp only [ev_tmp, ev_const, ev_func, set_get, Nat.reduceEqDiff, reduceIte, qv_assign, e0, hB1.cell]; rfl) ?_
    refine WL.nil ?_
    refine th_norm ?_
    refine hx_seq ?_
    refine hx_region ?_
    refine WL.qq (by simp only [ev_tmp, ev_const, ev_func, set_get, Nat.reduceEqDiff, reduceIte, qv_move, e0, hB1.cell]; rfl) ?_
    refine WL.qq (by simp only [ev_tmp, ev_const, ev_func, set_get, Nat.reduceEqDiff, reduceIte, qv_move, e0, hB1.cell]; rfl) ?_
    refine WL.qq (by simp only [ev_tmp, ev_const, ev_func, set_get, Nat.reduceEqDiff, reduceIte, qv_binOp, binv_eql, eq34, Option.map_some, e0, hB1.cell]; rfl) ?_
    refine WL.qq (by simp only [ev_tmp, ev_const, ev_func, set_get, Nat.reduceEqDiff, reduceIte, qv_assign, e0, hB1.cell]; rfl) ?_
    refine WL.qq (by simp only [ev_tmp, ev_const, ev_func, set_get, Nat.reduceEqDiff, reduceIte, qv_assign, e0, hB1.cell]; rfl) ?_
    refine WL.nil ?_
    refine th_norm ?_
    refine hx_ret ?_
    refine fin_ret [.tmp 2, .tmp 3] rfl rfl (by simp only [ev_tmp, ev_const, ev_func, set_get, Nat.reduceEqDiff, reduceIte, resv, e0, hB1.cell]; rfl) ?_  -- ret 0 r4
    exact ⟨((hx1).trans (hx2)), p, rfl, hc⟩
theorem c_made_no {wk hol : List Int} (hz : 60 < hol.length ∨ 7 < wk.length ∨ newM wk hol ≠ 0) {a a' : Option Addr} (c c' : Nat) {h : Heap} (hw : SlI h a wk) (hh : SlI h a' hol) (lw : wk.length ≤ 9223372036854775807) :
    HCalls Try.prog 12 #[.agg #[.slice a wk.length c, .slice a' hol.length c']] h (Grow (.tuple #[.pointer none, .bool false]) h) := by
  refine hcalls2 Try.func12 rfl (by decide +kernel) (by simp only [Try.ntmps12]; exact of_decide_eq_true rfl) ?_
  intro e hin
  have e0 := hin 0 _ rfl
  refine hx_seq ?_
  refine hx_region ?_
  refine WL.box2 (by simp only [ev_tmp, ev_const, ev_func, set_get, Nat.reduceEqDiff, reduceIte, Value.cells, e0]; rfl) ?_
  intro h1 B1 hx1 hlt1 hB1
  replace hw := hw.ext hx1
  replace hh := hh.ext hx1
  refine WL.qq (by simp only [ev_tmp, ev_const, ev_func, set_get, Nat.reduceEqDiff, reduceIte, qv_assign, e0, hB1.cell]; rfl) ?_
  refine WL.qq (by simp only [ev_tmp, ev_const, ev_func, set_get, Nat.reduceEqDiff, reduceIte, qv_assign, e0, hB1.cell]; rfl) ?_
  refine WL.nil ?_
  refine th_norm ?_
  refine hx_seq ?_
  refine hx_seq ?_
  refine hx_region ?_
  refine WL.qq (by simp only [ev_tmp, ev_const, ev_func, set_get, Nat.reduceEqDiff, reduceIte, qv_fieldAddr, fa27_1, Nat.zero_add, Nat.reduceAdd, e0, hB1.cell]; rfl) ?_
  refine WL.qq (by simp only [ev_tmp, ev_const, ev_func, set_get, Nat.reduceEqDiff, reduceIte, qv_load, ld25, readN, List.getElem?_toArray, List.getElem?_cons_zero, List.getElem?_cons_succ, List.map_toArray, List.map_cons, List.map_nil, Option.map_some, Option.bind_some, Nat.zero_add, Nat.reduceAdd, e0, hB1.cell]; rfl) ?_
  refine WL.qq (by simp only [ev_tmp, ev_const, ev_func, set_get, Nat.reduceEqDiff, reduceIte, qv_len, ln25, List.getElem?_toArray, List.getElem?_cons_zero, List.getElem?_cons_succ, List.map_toArray, List.map_cons, List.map_nil, Option.map_some, Option.bind_some, e0, hB1.cell]; rfl) ?_
  refine WL.qq (by simp only [ev_tmp, ev_const, ev_func, set_get, Nat.reduceEqDiff, reduceIte, qv_binOp, binv_gtr, e0, hB1.cell]; rfl) ?_
  refine WL.qq (by simp only [ev_tmp, ev_const, ev_func, set_get, Nat.reduceEqDiff, reduceIte, qv_move, e0, hB1.cell]; rfl) ?_
  refine WL.cq (gd_at (t := 10) rfl (by simp only [ev_tmp, ev_const, ev_func, set_get, Nat.reduceEqDiff, reduceIte, e0, hB1.cell]; rfl)) (fun hg1_5 => by simp only [ev_tmp, ev_const, ev_func, set_get, Nat.reduceEqDiff, reduceIte, qv_fieldAddr, fa27_0, Nat.zero_add, Nat.reduceAdd, e0, hB1.cell, hg1_5, Bool.false_eq_true, Bool.true_eq_false, eq_self, if_true, if_false, true_and, and_true, false_and, and_false]; rfl) ?_
  refine WL.cq (gd_at (t := 10) rfl (by simp only [ev_tmp, ev_const, ev_func, set_get, Nat.reduceEqDiff, reduceIte, e0, hB1.cell]; rfl)) (fun hg1_6 => by simp only [ev_tmp, ev_const, ev_func, set_get, Nat.reduceEqDiff, reduceIte, qv_load, ld25, readN, List.getElem?_toArray, List.getElem?_cons_zero, List.getElem?_cons_succ, List.map_toArray, List.map_cons, List.map_nil, Option.map_some, Option.bind_some, Nat.zero_add, Nat.reduceAdd, e0, hB1.cell, hg1_6, Bool.false_eq_true, Bool.true_eq_false, eq_self, if_true, if_false, true_and, and_true, false_and, and_false]; rfl) ?_
  refine WL.cq (gd_at (t := 10) rfl (by simp only [ev_tmp, ev_const, ev_func, set_get, Nat.reduceEqDiff, reduceIte, e0, hB1.cell]; rfl)) (fun hg1_7 => by simp only [ev_tmp, ev_const, ev_func, set_get, Nat.reduceEqDiff, reduceIte, qv_len, ln25, List.getElem?_toArray, List.getElem?_cons_zero, List.getElem?_cons_succ, List.map_toArray, List.map_cons, List.map_nil, Option.map_some, Option.bind_some, e0, hB1.cell, hg1_7, Bool.false_eq_true, Bool.true_eq_false, eq_self, if_true, if_false, true_and, and_true, false_and, and_false]; rfl) ?_
  refine WL.cq (gd_at (t := 10) rfl (by simp only [ev_tmp, ev_const, ev_func, set_get, Nat.reduceEqDiff, reduceIte, e0, hB1.cell]; rfl)) (fun hg1_8 => by simp only [ev_tmp, ev_const, ev_func, set_get, Nat.reduceEqDiff, reduceIte, qv_binOp, binv_gtr, e0, hB1.cell, hg1_8, Bool.false_eq_true, Bool.true_eq_false, eq_self, if_true, if_false, true_and, and_true, false_and, and_false]; rfl) ?_
  refine WL.qq (by simp only [ev_tmp, ev_const, ev_func, set_get, Nat.reduceEqDiff, reduceIte, qv_pick, pk_and, pk_or, Bool.false_eq_true, Bool.true_eq_false, eq_self, if_true, if_false, true_and, and_true, false_and, and_false, e0, hB1.cell]; rfl) ?_
  refine WL.nil ?_
  refine th_norm ?_
  refine hx_cond (by simp only [ev_tmp, ev_const, ev_func, set_get, Nat.reduceEqDiff, reduceIte, e0, hB1.cell]; rfl) (fun hct15 => ?_) (fun hct15 => ?_)
  ·
    try simp only [decide_eq_true_eq, decide_eq_false_iff_not, Bool.and_eq_true, Bool.and_eq_false_iff, Bool.or_eq_true, Bool.or_eq_false_iff, Bool.not_eq_true', Bool.not_eq_false', Bool.not_eq_true, Bool.not_eq_false] at hct15
    refine hx_seq ?_
    refine hx_region ?_
    refine WL.qq (by simp only [ev_tmp, ev_const, ev_func, set_get, Nat.reduceEqDiff, reduceIte, qv_assign, e0, hB1.cell]; rfl) ?_
    refine WL.qq (by simp only [ev_tmp, ev_const, ev_func, set_get, Nat.reduceEqDiff, reduceIte, qv_assign, e0, hB1.cell]; rfl) ?_
    refine WL.nil ?_
    refine th_norm ?_
    refine hx_ret ?_
    refine th_ret ?_
    refine fin_ret [.tmp 2, .tmp 3] rfl rfl (by simp only [ev_tmp, ev_const, ev_func, set_get, Nat.reduceEqDiff, reduceIte, resv, e0, hB1.cell]; rfl) ?_  -- ret 0 r2
    exact ⟨rfl, (hx1)⟩
  ·
    try simp only [decide_eq_true_eq, decide_eq_false_iff_not, Bool.and_eq_true, Bool.and_eq_false_iff, Bool.or_eq_true, Bool.or_eq_false_iff, Bool.not_eq_true', Bool.not_eq_false', Bool.not_eq_true, Bool.not_eq_false] at hct15
    have hz2 : newM wk hol ≠ 0 := hz.elim (fun q => absurd q (by omega)) (fun q => q.elim (fun q => absurd q (by omega)) id)
    refine hx_skip ?_
    refine th_norm ?_
    refine hx_seq ?_
    refine hx_region ?_
    refine WL.qq (by simp only [ev_tmp, ev_const, ev_func, set_get, Nat.reduceEqDiff, reduceIte, qv_load, ld27, readN, List.getElem?_toArray, List.getElem?_cons_zero, List.getElem?_cons_succ, List.map_toArray, List.map_cons, List.map_nil, Option.map_some, Option.bind_some, Nat.zero_add, Nat.reduceAdd, e0, hB1.cell]; rfl) ?_
    refine WL.cg Try.call34 (by simp only [ev_tmp, ev_const, ev_func, set_get, Nat.reduceEqDiff, reduceIte, List.getElem?_toArray, List.getElem?_cons_zero, List.getElem?_cons_succ, List.map_toArray, List.map_cons, List.map_nil, Option.map_some, Option.bind_some, e0, hB1.cell]; exact c_of_no hz2 c c' hw hh lw) ?_
    intro h2 hx2
    replace hw := hw.ext hx2
    replace hh := hh.ext hx2
    replace hB1 := hB1.ext hx2
    refine WL.qq (by simp only [ev_tmp, ev_const, ev_func, set_get, Nat.reduceEqDiff, reduceIte, qv_move, e0, hB1.cell]; rfl) ?_
    refine WL.qq (by simp only [ev_tmp, ev_const, ev_func, set_get, Nat.reduceEqDiff, reduceIte, qv_extract, List.getElem?_toArray, List.getElem?_cons_zero, List.getElem?_cons_succ, List.map_toArray, List.map_cons, List.map_nil, Option.map_some, Option.bind_some, e0, hB1.cell]; rfl) ?_
    refine WL.qq (by simp only [ev_tmp, ev_const, ev_func, set_get, Nat.reduceEqDiff, reduceIte, qv_extract, List.getElem?_toArray, List.getElem?_cons_zero, List.getElem?_cons_succ, List.map_toArray, List.map_cons, List.map_nil, Option.map_some, Option.bind_some, e0, hB1.cell]; rfl) ?_
    refine WL.qq (by simp only [ev_tmp, ev_const, ev_func, set_get, Nat.reduceEqDiff, reduceIte, qv_assign, e0, hB1.cell]; rfl) ?_
    refine WL.qq (by simp only [ev_tmp, ev_const, ev_func, set_get, Nat.reduceEqDiff, reduceIte, qv_assign, e0, hB1.cell]; rfl) ?_
    refine WL.nil ?_
    refine th_norm ?_
    refine hx_seq ?_
    refine hx_region ?_
    refine WL.qq (by simp only [ev_tmp, ev_const, ev_func, set_get, Nat.reduceEqDiff, reduceIte, qv_move, e0, hB1.cell]; rfl) ?_
    refine WL.qq (by simp only [ev_tmp, ev_const, ev_func, set_get, Nat.reduceEqDiff, reduceIte, qv_move, e0, hB1.cell]; rfl) ?_
    refine WL.qq (by simp only [ev_tmp, ev_const, ev_func, set_get, Nat.reduceEqDiff, reduceIte, qv_binOp, binv_eql, eq34, Option.map_some, e0, hB1.cell]; rfl) ?_
    refine WL.qq (by simp only [ev_tmp, ev_const, ev_func, set_get, Nat.reduceEqDiff, reduceIte, qv_assign, e0, hB1.cell]; rfl) ?_
    refine WL.qq (by simp only [ev_tmp, ev_const, ev_func, set_get, Nat.reduceEqDiff, reduceIte, qv_assign, e0, hB1.cell]; rfl) ?_
    refine WL.nil ?_
    refine th_norm ?_
    refine hx_ret ?_
    refine fin_ret [.tmp 2, .tmp 3] rfl rfl (by simp only [ev_tmp, ev_const, ev_func, set_get, Nat.reduceEqDiff, reduceIte, resv, e0, hB1.cell]; rfl) ?_  -- ret 1 r4
    exact ⟨by simp [retOf, hz2], ((hx1).trans (hx2))⟩
theorem ex_begs {bus : Int → Bool} (h13 : bus 9813 = true) (h14 : bus 9814 = false) (h15 : bus 9815 = false) (h16 : bus 9816 = true) : (begs bus [150, 300, 420, 960, 1020, 1080] (9813, 1080))[0]? = some (9816, 150, 1) := by
  have e1 : begs bus [150, 300, 420, 960, 1020, 1080] (9813, 1080) = (allF bus [150, 300, 420, 960, 1020, 1080] 9813 (73049 - (9813 : Int)).toNat).filter (gtC (9813, 1080)) := rfl
  have e2 : ((73049 - (9813 : Int)).toNat - 1) = (73049 - (9813 + 1 : Int)).toNat := by omega
  have e3 := allF_next bus [150, 300, 420, 960, 1020, 1080] (d := 9813 + 1) (d' := 9816) (by omega) (by omega) (fun x hx1 hx2 => by rcases (by omega : x = 9814 ∨ x = 9815) with rfl | rfl <;> assumption)
  rw [e1, allF_at _ _ _ _ h13 (by omega), e2, e3, allF_at _ _ _ _ h16 (by omega), List.filter_append, List.filter_append]
  generalize (allF _ _ _ _).filter _ = T
  have e4 : (day6 [150, 300, 420, 960, 1020, 1080] 9813).filter (gtC (9813, 1080)) = [] := by decide
  have e5 : (day6 [150, 300, 420, 960, 1020, 1080] 9816).filter (gtC (9813, 1080)) = (9816, 150, 1) :: (9816, 300, 2) :: (9816, 420, 3) :: (9816, 960, 4) :: (9816, 1020, 5) :: [(9816, 1080, 6)] := by decide
  rw [e4, e5]
  rfl
theorem ex_next (a : Addr) : nextM [150, 300, 420, 960, 1020, 1080] (some a) (busM [5, 6] (srt [])) (9813, 1080) = ((9816, 150, 1), 0) := by
  have hv : valM [150, 300, 420, 960, 1020, 1080] (some a) [(9813, 1080)] = 0 := by simp [valM, chkGo, clockOk, validM]
  unfold nextM
  rw [hv, if_neg (by decide), busM_srt, ex_begs (by decide) (by decide) (by decide) (by decide)]
theorem ex_phase (a : Addr) : phaseM [150, 300, 420, 960, 1020, 1080] (some a) (busM [5, 6] (srt [])) 9816 570 = (3, 0) := by
  have hv : valM [150, 300, 420, 960, 1020, 1080] (some a) [(9816, 570)] = 0 := by simp [valM, chkGo, clockOk, validM]
  unfold phaseM
  rw [hv, if_pos rfl, busM_srt]
  decide
theorem c_known47 (h : Heap) : HCalls Try.prog 13 #[] h (Grow (.bool true) h) := by
  refine hcalls2 Try.func13 rfl (by decide +kernel) (by simp only [Try.ntmps13]; exact of_decide_eq_true rfl) ?_
  intro e hin
  refine hx_seq ?_
  refine hx_region ?_
  refine WL.qq (by simp only [ev_tmp, ev_const, ev_func, set_get, Nat.reduceEqDiff, reduceIte, qv_assign]; rfl) ?_
  refine WL.nil ?_
  refine th_norm ?_
  refine hx_seq ?_
  refine hx_region ?_
  refine WL.lit2 #[(.int .i64 0), (.int .i64 0)] Try.underlying25 sz3 zr3 (by decide) (by kernel_rfl) ⟨_, (by simp only [ev_tmp, ev_const, ev_func, set_get, Nat.reduceEqDiff, reduceIte, List.getElem?_toArray, List.getElem?_cons_zero, List.getElem?_cons_succ, List.map_toArray, List.map_cons, List.map_nil, Option.map_some, Option.bind_some]; simp [Instr.fill, Value.cells]; rfl), rfl⟩ ?_
  intro h1 B1 hx1 hlt1 hB1
  have h56 : SlI h1 (some ⟨B1, 0, none⟩) [5, 6] := SlI.of hB1
  refine WL.ce Try.call35 (by simp only [ev_tmp, ev_const, ev_func, set_get, Nat.reduceEqDiff, reduceIte, List.getElem?_toArray, List.getElem?_cons_zero, List.getElem?_cons_succ, List.map_toArray, List.map_cons, List.map_nil, Option.map_some, Option.bind_some, hB1.cell]; exact c_new_ok newM_ex 2 0 h56 SlI.nil (by decide)) ?_
  rintro _ h2 ⟨hx2, p, rfl, hc⟩
  replace hB1 := hB1.ext hx2
  simp only [put_some]
  refine WL.qq (by simp only [ev_tmp, ev_const, ev_func, set_get, Nat.reduceEqDiff, reduceIte, qv_move, hB1.cell]; rfl) ?_
  refine WL.qq (by simp only [ev_tmp, ev_const, ev_func, set_get, Nat.reduceEqDiff, reduceIte, qv_extract, List.getElem?_toArray, List.getElem?_cons_zero, List.getElem?_cons_succ, List.map_toArray, List.map_cons, List.map_nil, Option.map_some, Option.bind_some, hB1.cell]; rfl) ?_
  refine WL.qq (by simp only [ev_tmp, ev_const, ev_func, set_get, Nat.reduceEqDiff, reduceIte, qv_extract, List.getElem?_toArray, List.getElem?_cons_zero, List.getElem?_cons_succ, List.map_toArray, List.map_cons, List.map_nil, Option.map_some, Option.bind_some, hB1.cell]; rfl) ?_
  refine WL.qq (by simp only [ev_tmp, ev_const, ev_func, set_get, Nat.reduceEqDiff, reduceIte, qv_assign, hB1.cell]; rfl) ?_
  refine WL.qq (by simp only [ev_tmp, ev_const, ev_func, set_get, Nat.reduceEqDiff, reduceIte, qv_assign, hB1.cell]; rfl) ?_
  refine WL.nil ?_
  refine th_norm ?_
  refine hx_seq ?_
  refine hx_region ?_
  refine WL.cg Try.call36 (by simp only [ev_tmp, ev_const, ev_func, set_get, Nat.reduceEqDiff, reduceIte, List.getElem?_toArray, List.getElem?_cons_zero, List.getElem?_cons_succ, List.map_toArray, List.map_cons, List.map_nil, Option.map_some, Option.bind_some, hB1.cell]; exact c_default _) ?_
  intro h3 hx3
  replace hB1 := hB1.ext hx3
  replace hc := hc.ext hx3
  refine WL.allocSt zr24 sz24 (fun u => by simp only [ev_tmp, ev_const, ev_func, set_get, Nat.reduceEqDiff, reduceIte, Value.cells, hB1.cell]; rfl) ⟨rfl, rfl⟩ (by simp [Value.oneCell']) ?_
  intro h4 B4 hx4 hlt4 hB4
  replace hB1 := hB1.ext hx4
  replace hc := hc.ext hx4
  refine WL.nil ?_
  refine th_norm ?_
  refine hx_seq ?_
  refine hx_region ?_
  refine WL.qq (by simp only [ev_tmp, ev_const, ev_func, set_get, Nat.reduceEqDiff, reduceIte, qv_load, ld24, readN, List.getElem?_toArray, List.getElem?_cons_zero, List.getElem?_cons_succ, List.map_toArray, List.map_cons, List.map_nil, Option.map_some, Option.bind_some, Nat.zero_add, Nat.reduceAdd, hB1.cell, hB4.cell]; rfl) ?_
  refine WL.qq (by refine qv_bld (by simp only [ev_tmp, ev_const, ev_func, set_get, Nat.reduceEqDiff, reduceIte, List.getElem?_toArray, List.getElem?_cons_zero, List.getElem?_cons_succ, List.map_toArray, List.map_cons, List.map_nil, Option.map_some, Option.bind_some, hB1.cell, hB4.cell] <;> rfl) (by rw [bl29]; simp [Instr.fill, Value.cells]; rfl)) ?_
  refine WL.qq (by simp only [ev_tmp, ev_const, ev_func, set_get, Nat.reduceEqDiff, reduceIte, qv_move, hB1.cell, hB4.cell]; rfl) ?_
  refine WL.cg Try.call14 (by simp only [ev_tmp, ev_const, ev_func, set_get, Nat.reduceEqDiff, reduceIte, List.getElem?_toArray, List.getElem?_cons_zero, List.getElem?_cons_succ, List.map_toArray, List.map_cons, List.map_nil, Option.map_some, Option.bind_some, hB1.cell, hB4.cell]; exact HCalls.gv (by rw [ex_phase]) (c_phase 150 300 420 960 1020 1080 9816 570 _ _ _ (QCal.some hc))) ?_
  intro h5 hx5
  replace hB1 := hB1.ext hx5
  replace hc := hc.ext hx5
  replace hB4 := hB4.ext hx5
  refine WL.qq (by simp only [ev_tmp, ev_const, ev_func, set_get, Nat.reduceEqDiff, reduceIte, qv_move, hB1.cell, hB4.cell]; rfl) ?_
  refine WL.qq (by simp only [ev_tmp, ev_const, ev_func, set_get, Nat.reduceEqDiff, reduceIte, qv_extract, List.getElem?_toArray, List.getElem?_cons_zero, List.getElem?_cons_succ, List.map_toArray, List.map_cons, List.map_nil, Option.map_some, Option.bind_some, hB1.cell, hB4.cell]; rfl) ?_
  refine WL.qq (by simp only [ev_tmp, ev_const, ev_func, set_get, Nat.reduceEqDiff, reduceIte, qv_extract, List.getElem?_toArray, List.getElem?_cons_zero, List.getElem?_cons_succ, List.map_toArray, List.map_cons, List.map_nil, Option.map_some, Option.bind_some, hB1.cell, hB4.cell]; rfl) ?_
  refine WL.qq (by simp only [ev_tmp, ev_const, ev_func, set_get, Nat.reduceEqDiff, reduceIte, qv_assign, hB1.cell, hB4.cell]; rfl) ?_
  refine WL.qq (by simp only [ev_tmp, ev_const, ev_func, set_get, Nat.reduceEqDiff, reduceIte, qv_assign, hB1.cell, hB4.cell]; rfl) ?_
  refine WL.nil ?_
  refine th_norm ?_
  refine hx_seq ?_
  refine hx_region ?_
  refine WL.qq (by simp only [ev_tmp, ev_const, ev_func, set_get, Nat.reduceEqDiff, reduceIte, qv_load, ld24, readN, List.getElem?_toArray, List.getElem?_cons_zero, List.getElem?_cons_succ, List.map_toArray, List.map_cons, List.map_nil, Option.map_some, Option.bind_some, Nat.zero_add, Nat.reduceAdd, hB1.cell, hB4.cell]; rfl) ?_
  refine WL.qq (by refine qv_bld (by simp only [ev_tmp, ev_const, ev_func, set_get, Nat.reduceEqDiff, reduceIte, List.getElem?_toArray, List.getElem?_cons_zero, List.getElem?_cons_succ, List.map_toArray, List.map_cons, List.map_nil, Option.map_some, Option.bind_some, hB1.cell, hB4.cell] <;> rfl) (by rw [bl29]; simp [Instr.fill, Value.cells]; rfl)) ?_
  refine WL.qq (by simp only [ev_tmp, ev_const, ev_func, set_get, Nat.reduceEqDiff, reduceIte, qv_move, hB1.cell, hB4.cell]; rfl) ?_
  refine WL.cg Try.call28 (by simp only [ev_tmp, ev_const, ev_func, set_get, Nat.reduceEqDiff, reduceIte, List.getElem?_toArray, List.getElem?_cons_zero, List.getElem?_cons_succ, List.map_toArray, List.map_cons, List.map_nil, Option.map_some, Option.bind_some, hB1.cell, hB4.cell]; exact c_snext 150 300 420 960 1020 1080 9813 1080 _ _ _ (ex_next _) (QCal.some hc)) ?_
  intro h6 hx6
  replace hB1 := hB1.ext hx6
  replace hc := hc.ext hx6
  replace hB4 := hB4.ext hx6
  refine WL.qq (by simp only [ev_tmp, ev_const, ev_func, set_get, Nat.reduceEqDiff, reduceIte, qv_move, hB1.cell, hB4.cell]; rfl) ?_
  refine WL.qq (by simp only [ev_tmp, ev_const, ev_func, set_get, Nat.reduceEqDiff, reduceIte, qv_extract, List.getElem?_toArray, List.getElem?_cons_zero, List.getElem?_cons_succ, List.map_toArray, List.map_cons, List.map_nil, Option.map_some, Option.bind_some, hB1.cell, hB4.cell]; rfl) ?_
  refine WL.qq (by simp only [ev_tmp, ev_const, ev_func, set_get, Nat.reduceEqDiff, reduceIte, qv_extract, List.getElem?_toArray, List.getElem?_cons_zero, List.getElem?_cons_succ, List.map_toArray, List.map_cons, List.map_nil, Option.map_some, Option.bind_some, hB1.cell, hB4.cell]; rfl) ?_
  refine WL.allocSt zr61 sz61 (fun u => by simp only [ev_tmp, ev_const, ev_func, set_get, Nat.reduceEqDiff, reduceIte, Value.cells, hB1.cell, hB4.cell]; rfl) ⟨rfl, rfl⟩ (by simp [Value.oneCell']) ?_
  intro h7 B7 hx7 hlt7 hB7
  replace hB1 := hB1.ext hx7
  replace hc := hc.ext hx7
  replace hB4 := hB4.ext hx7
  refine WL.qq (by simp only [ev_tmp, ev_const, ev_func, set_get, Nat.reduceEqDiff, reduceIte, qv_assign, hB1.cell, hB4.cell, hB7.cell]; rfl) ?_
  refine WL.nil ?_
  refine th_norm ?_
  refine hx_seq ?_
  refine hx_region ?_
  refine WL.qq (by simp only [ev_tmp, ev_const, ev_func, set_get, Nat.reduceEqDiff, reduceIte, qv_move, hB1.cell, hB4.cell, hB7.cell]; rfl) ?_
  refine WL.qq (by simp only [ev_tmp, ev_const, ev_func, set_get, Nat.reduceEqDiff, reduceIte, qv_binOp, binv_eql, eq34, Option.map_some, hB1.cell, hB4.cell, hB7.cell]; rfl) ?_
  refine WL.qq (by simp only [ev_tmp, ev_const, ev_func, set_get, Nat.reduceEqDiff, reduceIte, qv_move, hB1.cell, hB4.cell, hB7.cell]; rfl) ?_
  refine WL.cq (gd_at (t := 30) rfl (by simp only [ev_tmp, ev_const, ev_func, set_get, Nat.reduceEqDiff, reduceIte, hB1.cell, hB4.cell, hB7.cell]; rfl)) (fun hg5_3 => by simp only [ev_tmp, ev_const, ev_func, set_get, Nat.reduceEqDiff, reduceIte, qv_load, ld24, readN, List.getElem?_toArray, List.getElem?_cons_zero, List.getElem?_cons_succ, List.map_toArray, List.map_cons, List.map_nil, Option.map_some, Option.bind_some, Nat.zero_add, Nat.reduceAdd, hB1.cell, hB4.cell, hB7.cell, hg5_3, Bool.false_eq_true, Bool.true_eq_false, eq_self, if_true, if_false, true_and, and_true, false_and, and_false]; rfl) ?_
  refine WL.cq (gd_at (t := 30) rfl (by simp only [ev_tmp, ev_const, ev_func, set_get, Nat.reduceEqDiff, reduceIte, hB1.cell, hB4.cell, hB7.cell]; rfl)) (fun hg5_4 => by refine qv_bld (by simp only [ev_tmp, ev_const, ev_func, set_get, Nat.reduceEqDiff, reduceIte, List.getElem?_toArray, List.getElem?_cons_zero, List.getElem?_cons_succ, List.map_toArray, List.map_cons, List.map_nil, Option.map_some, Option.bind_some, hB1.cell, hB4.cell, hB7.cell, hg5_4, Bool.false_eq_true, Bool.true_eq_false, eq_self, if_true, if_false, true_and, and_true, false_and, and_false] <;> rfl) (by rw [bl22]; simp [Instr.fill, Value.cells]; rfl)) ?_
  refine WL.cq (gd_at (t := 30) rfl (by simp only [ev_tmp, ev_const, ev_func, set_get, Nat.reduceEqDiff, reduceIte, hB1.cell, hB4.cell, hB7.cell]; rfl)) (fun hg5_5 => by refine qv_bld (by simp only [ev_tmp, ev_const, ev_func, set_get, Nat.reduceEqDiff, reduceIte, List.getElem?_toArray, List.getElem?_cons_zero, List.getElem?_cons_succ, List.map_toArray, List.map_cons, List.map_nil, Option.map_some, Option.bind_some, hB1.cell, hB4.cell, hB7.cell, hg5_5, Bool.false_eq_true, Bool.true_eq_false, eq_self, if_true, if_false, true_and, and_true, false_and, and_false] <;> rfl) (by rw [bl24]; simp [Instr.fill, Value.cells]; rfl)) ?_
  refine WL.cq (gd_at (t := 30) rfl (by simp only [ev_tmp, ev_const, ev_func, set_get, Nat.reduceEqDiff, reduceIte, hB1.cell, hB4.cell, hB7.cell]; rfl)) (fun hg5_6 => by simp only [ev_tmp, ev_const, ev_func, set_get, Nat.reduceEqDiff, reduceIte, qv_binOp, binv_eql, eqs24, Option.map_some, hB1.cell, hB4.cell, hB7.cell, hg5_6, Bool.false_eq_true, Bool.true_eq_false, eq_self, if_true, if_false, true_and, and_true, false_and, and_false]; rfl) ?_
  refine WL.qq (by simp only [ev_tmp, ev_const, ev_func, set_get, Nat.reduceEqDiff, reduceIte, qv_pick, pk_and, pk_or, Bool.false_eq_true, Bool.true_eq_false, eq_self, if_true, if_false, true_and, and_true, false_and, and_false, hB1.cell, hB4.cell, hB7.cell]; rfl) ?_
  refine WL.qq (by simp only [ev_tmp, ev_const, ev_func, set_get, Nat.reduceEqDiff, reduceIte, qv_move, hB1.cell, hB4.cell, hB7.cell]; rfl) ?_
  refine WL.cq (gd_at (t := 36) rfl (by simp only [ev_tmp, ev_const, ev_func, set_get, Nat.reduceEqDiff, reduceIte, hB1.cell, hB4.cell, hB7.cell]; rfl)) (fun hg5_9 => by simp only [ev_tmp, ev_const, ev_func, set_get, Nat.reduceEqDiff, reduceIte, qv_move, hB1.cell, hB4.cell, hB7.cell, hg5_9, Bool.false_eq_true, Bool.true_eq_false, eq_self, if_true, if_false, true_and, and_true, false_and, and_false]; rfl) ?_
  refine WL.cq (gd_at (t := 36) rfl (by simp only [ev_tmp, ev_const, ev_func, set_get, Nat.reduceEqDiff, reduceIte, hB1.cell, hB4.cell, hB7.cell]; rfl)) (fun hg5_10 => by simp only [ev_tmp, ev_const, ev_func, set_get, Nat.reduceEqDiff, reduceIte, qv_binOp, binv_eql, eq3, Option.map_some, hB1.cell, hB4.cell, hB7.cell, hg5_10, Bool.false_eq_true, Bool.true_eq_false, eq_self, if_true, if_false, true_and, and_true, false_and, and_false]; rfl) ?_
  refine WL.qq (by simp only [ev_tmp, ev_const, ev_func, set_get, Nat.reduceEqDiff, reduceIte, qv_pick, pk_and, pk_or, Bool.false_eq_true, Bool.true_eq_false, eq_self, if_true, if_false, true_and, and_true, false_and, and_false, hB1.cell, hB4.cell, hB7.cell]; rfl) ?_
  refine WL.qq (by simp only [ev_tmp, ev_const, ev_func, set_get, Nat.reduceEqDiff, reduceIte, qv_move, hB1.cell, hB4.cell, hB7.cell]; rfl) ?_
  refine WL.cq (gd_at (t := 40) rfl (by simp only [ev_tmp, ev_const, ev_func, set_get, Nat.reduceEqDiff, reduceIte, hB1.cell, hB4.cell, hB7.cell]; rfl)) (fun hg5_13 => by simp only [ev_tmp, ev_const, ev_func, set_get, Nat.reduceEqDiff, reduceIte, qv_move, hB1.cell, hB4.cell, hB7.cell, hg5_13, Bool.false_eq_true, Bool.true_eq_false, eq_self, if_true, if_false, true_and, and_true, false_and, and_false]; rfl) ?_
  refine WL.cq (gd_at (t := 40) rfl (by simp only [ev_tmp, ev_const, ev_func, set_get, Nat.reduceEqDiff, reduceIte, hB1.cell, hB4.cell, hB7.cell]; rfl)) (fun hg5_14 => by simp only [ev_tmp, ev_const, ev_func, set_get, Nat.reduceEqDiff, reduceIte, qv_binOp, binv_eql, eq34, Option.map_some, hB1.cell, hB4.cell, hB7.cell, hg5_14, Bool.false_eq_true, Bool.true_eq_false, eq_self, if_true, if_false, true_and, and_true, false_and, and_false]; rfl) ?_
  refine WL.qq (by simp only [ev_tmp, ev_const, ev_func, set_get, Nat.reduceEqDiff, reduceIte, qv_pick, pk_and, pk_or, Bool.false_eq_true, Bool.true_eq_false, eq_self, if_true, if_false, true_and, and_true, false_and, and_false, hB1.cell, hB4.cell, hB7.cell]; rfl) ?_
  refine WL.qq (by simp only [ev_tmp, ev_const, ev_func, set_get, Nat.reduceEqDiff, reduceIte, qv_move, hB1.cell, hB4.cell, hB7.cell]; rfl) ?_
  refine WL.cq (gd_at (t := 44) rfl (by simp only [ev_tmp, ev_const, ev_func, set_get, Nat.reduceEqDiff, reduceIte, hB1.cell, hB4.cell, hB7.cell]; rfl)) (fun hg5_17 => by simp only [ev_tmp, ev_const, ev_func, set_get, Nat.reduceEqDiff, reduceIte, qv_load, ld61, readN, List.getElem?_toArray, List.getElem?_cons_zero, List.getElem?_cons_succ, List.map_toArray, List.map_cons, List.map_nil, Option.map_some, Option.bind_some, Nat.zero_add, Nat.reduceAdd, hB1.cell, hB4.cell, hB7.cell, hg5_17, Bool.false_eq_true, Bool.true_eq_false, eq_self, if_true, if_false, true_and, and_true, false_and, and_false]; rfl) ?_
  refine WL.cq (gd_at (t := 44) rfl (by simp only [ev_tmp, ev_const, ev_func, set_get, Nat.reduceEqDiff, reduceIte, hB1.cell, hB4.cell, hB7.cell]; rfl)) (fun hg5_18 => by refine qv_bld (by simp only [ev_tmp, ev_const, ev_func, set_get, Nat.reduceEqDiff, reduceIte, List.getElem?_toArray, List.getElem?_cons_zero, List.getElem?_cons_succ, List.map_toArray, List.map_cons, List.map_nil, Option.map_some, Option.bind_some, hB1.cell, hB4.cell, hB7.cell, hg5_18, Bool.false_eq_true, Bool.true_eq_false, eq_self, if_true, if_false, true_and, and_true, false_and, and_false] <;> rfl) (by rw [bl29]; simp [Instr.fill, Value.cells]; rfl)) ?_
  refine WL.cq (gd_at (t := 44) rfl (by simp only [ev_tmp, ev_const, ev_func, set_get, Nat.reduceEqDiff, reduceIte, hB1.cell, hB4.cell, hB7.cell]; rfl)) (fun hg5_19 => by refine qv_bld (by simp only [ev_tmp, ev_const, ev_func, set_get, Nat.reduceEqDiff, reduceIte, List.getElem?_toArray, List.getElem?_cons_zero, List.getElem?_cons_succ, List.map_toArray, List.map_cons, List.map_nil, Option.map_some, Option.bind_some, hB1.cell, hB4.cell, hB7.cell, hg5_19, Bool.false_eq_true, Bool.true_eq_false, eq_self, if_true, if_false, true_and, and_true, false_and, and_false] <;> rfl) (by rw [bl61]; simp [Instr.fill, Value.cells]; rfl)) ?_
  refine WL.cq (gd_at (t := 44) rfl (by simp only [ev_tmp, ev_const, ev_func, set_get, Nat.reduceEqDiff, reduceIte, hB1.cell, hB4.cell, hB7.cell]; rfl)) (fun hg5_20 => by simp only [ev_tmp, ev_const, ev_func, set_get, Nat.reduceEqDiff, reduceIte, qv_binOp, binv_eql, eqs61, Option.map_some, hB1.cell, hB4.cell, hB7.cell, hg5_20, Bool.false_eq_true, Bool.true_eq_false, eq_self, if_true, if_false, true_and, and_true, false_and, and_false]; rfl) ?_
  refine WL.qq (by simp only [ev_tmp, ev_const, ev_func, set_get, Nat.reduceEqDiff, reduceIte, qv_pick, pk_and, pk_or, Bool.false_eq_true, Bool.true_eq_false, eq_self, if_true, if_false, true_and, and_true, false_and, and_false, hB1.cell, hB4.cell, hB7.cell]; rfl) ?_
  refine WL.qq (by simp only [ev_tmp, ev_const, ev_func, set_get, Nat.reduceEqDiff, reduceIte, qv_move, hB1.cell, hB4.cell, hB7.cell]; rfl) ?_
  refine WL.cq (gd_at (t := 50) rfl (by simp only [ev_tmp, ev_const, ev_func, set_get, Nat.reduceEqDiff, reduceIte, hB1.cell, hB4.cell, hB7.cell]; rfl)) (fun hg5_23 => by simp only [ev_tmp, ev_const, ev_func, set_get, Nat.reduceEqDiff, reduceIte, qv_move, hB1.cell, hB4.cell, hB7.cell, hg5_23, Bool.false_eq_true, Bool.true_eq_false, eq_self, if_true, if_false, true_and, and_true, false_and, and_false]; rfl) ?_
  refine WL.cq (gd_at (t := 50) rfl (by simp only [ev_tmp, ev_const, ev_func, set_get, Nat.reduceEqDiff, reduceIte, hB1.cell, hB4.cell, hB7.cell]; rfl)) (fun hg5_24 => by simp only [ev_tmp, ev_const, ev_func, set_get, Nat.reduceEqDiff, reduceIte, qv_binOp, binv_eql, eq34, Option.map_some, hB1.cell, hB4.cell, hB7.cell, hg5_24, Bool.false_eq_true, Bool.true_eq_false, eq_self, if_true, if_false, true_and, and_true, false_and, and_false]; rfl) ?_
  refine WL.qq (by simp only [ev_tmp, ev_const, ev_func, set_get, Nat.reduceEqDiff, reduceIte, qv_pick, pk_and, pk_or, Bool.false_eq_true, Bool.true_eq_false, eq_self, if_true, if_false, true_and, and_true, false_and, and_false, hB1.cell, hB4.cell, hB7.cell]; rfl) ?_
  refine WL.qq (by simp only [ev_tmp, ev_const, ev_func, set_get, Nat.reduceEqDiff, reduceIte, qv_assign, hB1.cell, hB4.cell, hB7.cell]; rfl) ?_
  refine WL.nil ?_
  refine th_norm ?_
  refine hx_ret ?_
  refine fin_ret [.tmp 0] rfl rfl (by simp only [ev_tmp, ev_const, ev_func, set_get, Nat.reduceEqDiff, reduceIte, resv, hB1.cell, hB4.cell, hB7.cell]; rfl) ?_  -- ret 0 r5
  exact ⟨by simp [retOf], ((hx1).trans ((hx2).trans ((hx3).trans ((hx4).trans ((hx5).trans ((hx6).trans (hx7)))))))⟩
end GL


/- Schedule: the laws on adjoining periods and on no calendar. -/
import Derived.Test.YtnmgdjajmmgaaaaSchL
set_option linter.unusedSimpArgs false
set_option linter.unusedVariables false
set_option linter.unnecessarySimpa false
namespace GL
open Go Go.Proofs
set_option maxRecDepth 8000
theorem fail3 {s : List Int} {x y z : Int × Int} (h : failM s [x, y, z] = 0) : failM s [x, y] = 0 ∧ failM s [y, z] = 0 ∧ failM s [x, z] = 0 ∧ chkGo (-1) s = 0 := by
  obtain ⟨hc, hk⟩ := fail_cases h
  simp only [List.all_cons, List.all_nil, Bool.and_true, Bool.and_eq_true] at hk
  unfold failM
  rw [if_neg (fun hh => hh hc), if_pos, if_neg (fun hh => hh hc), if_pos, if_neg (fun hh => hh hc), if_pos]
  · exact ⟨rfl, rfl, rfl, hc⟩
  all_goals simp [List.all_cons, hk.1, hk.2.1, hk.2.2]
theorem adj_list {s0 s1 s2 s3 s4 s5 : Int} {bus : Int → Bool} {x y z : Int × Int} (h : failM [s0, s1, s2, s3, s4, s5] [x, y, z] = 0) (h1 : x.1 * 1440 + x.2 ≤ y.1 * 1440 + y.2) (h2 : y.1 * 1440 + y.2 ≤ z.1 * 1440 + z.2) :
    chgR bus [s0, s1, s2, s3, s4, s5] x y ++ chgR bus [s0, s1, s2, s3, s4, s5] y z = chgR bus [s0, s1, s2, s3, s4, s5] x z := by
  obtain ⟨a1, a2, a3, hc⟩ := fail3 h
  have hs := val6 hc
  obtain ⟨N, hN⟩ : ∃ N : Nat, (N : Int) = 73049 := ⟨73049, rfl⟩
  have v1 := val_two (q := some ⟨0, 0, none⟩) (val_fail2.trans a1)
  have v2 := val_two (q := some ⟨0, 0, none⟩) (val_fail2.trans a2)
  rw [chgR_K hs hN ⟨v1.1.1, v1.1.2.2⟩ ⟨by omega, v1.2.1.2⟩ (by omega), chgR_K hs hN ⟨v2.1.1, v2.1.2.2⟩ ⟨by omega, v2.2.1.2⟩ (by omega), chgR_K hs hN ⟨v1.1.1, v1.1.2.2⟩ ⟨by omega, v2.2.1.2⟩ (by omega)]
  exact adj_filter h1 h2 (allF_inc hs _ _)
set_option maxHeartbeats 2000000 in
theorem l_adjoining (s0 s1 s2 s3 s4 s5 d m d' m' d2 m2 : Int) (bd : ∀ x ∈ [d, m, d', m', d2, m2], (-9223372036854775808 ≤ x ∧ x ≤ 9223372036854775807)) (wk hol : List Int) (a a' : Option Addr) (c c' : Nat) {h : Heap} (hw : SlI h a wk) (hh : SlI h a' hol) (lw : wk.length ≤ 9223372036854775807) (lh : hol.length ≤ 9223372036854775807) :
    HCalls Try.prog 8 #[sch s0 s1 s2 s3 s4 s5, .agg #[.slice a wk.length c, .slice a' hol.length c'], .agg #[.int .i64 d, .int .i64 m, .int .i64 d', .int .i64 m', .int .i64 d2, .int .i64 m2]] h (Grow (.bool true) h) := by
  refine hcalls2 Try.func8 rfl (by decide +kernel) (by simp only [Try.ntmps8]; exact of_decide_eq_true rfl) ?_
  intro e hin
  have e0 := hin 0 _ rfl
  have e1 := hin 1 _ rfl
  have e2 := hin 2 _ rfl
  obtain ⟨no, hno⟩ : ∃ no, failM [s0, s1, s2, s3, s4, s5] [(d, m), (d', m'), (d2, m2)] = no := ⟨_, rfl⟩
  refine hx_seq ?_
  refine hx_region ?_
  refine WL.box2 (by simp only [ev_tmp, ev_const, ev_func, set_get, Nat.reduceEqDiff, reduceIte, Value.cells, e0, e1, e2]; rfl) ?_
  intro h1 B1 hx1 hlt1 hB1
  replace hw := hw.ext hx1
  replace hh := hh.ext hx1
  refine WL.box2 (by simp only [ev_tmp, ev_const, ev_func, set_get, Nat.reduceEqDiff, reduceIte, Value.cells, e0, e1, e2, hB1.cell]; rfl) ?_
  intro h2 B2 hx2 hlt2 hB2
  replace hw := hw.ext hx2
  replace hh := hh.ext hx2
  replace hB1 := hB1.ext hx2
  refine WL.box2 (by simp only [ev_tmp, ev_const, ev_func, set_get, Nat.reduceEqDiff, reduceIte, Value.cells, e0, e1, e2, hB1.cell, hB2.cell]; rfl) ?_
  intro h3 B3 hx3 hlt3 hB3
  replace hw := hw.ext hx3
  replace hh := hh.ext hx3
  replace hB1 := hB1.ext hx3
  replace hB2 := hB2.ext hx3
  refine WL.qq (by simp only [ev_tmp, ev_const, ev_func, set_get, Nat.reduceEqDiff, reduceIte, qv_assign, e0, e1, e2, hB1.cell, hB2.cell, hB3.cell]; rfl) ?_
  refine WL.nil ?_
  refine th_norm ?_
  refine hx_seq ?_
  refine hx_region ?_
  refine WL.qq (by simp only [ev_tmp, ev_const, ev_func, set_get, Nat.reduceEqDiff, reduceIte, qv_load, ld27, readN, List.getElem?_toArray, List.getElem?_cons_zero, List.getElem?_cons_succ, List.map_toArray, List.map_cons, List.map_nil, Option.map_some, Option.bind_some, Nat.zero_add, Nat.reduceAdd, e0, e1, e2, hB1.cell, hB2.cell, hB3.cell]; rfl) ?_
  refine WL.ce Try.call12 (by simp only [ev_tmp, ev_const, ev_func, set_get, Nat.reduceEqDiff, reduceIte, List.getElem?_toArray, List.getElem?_cons_zero, List.getElem?_cons_succ, List.map_toArray, List.map_cons, List.map_nil, Option.map_some, Option.bind_some, e0, e1, e2, hB1.cell, hB2.cell, hB3.cell]; exact c_made wk hol c c' hw hh lw) ?_
  rintro _ h4 ⟨hx4, q, b, rfl, hq⟩
  replace hw := hw.ext hx4
  replace hh := hh.ext hx4
  replace hB1 := hB1.ext hx4
  replace hB2 := hB2.ext hx4
  replace hB3 := hB3.ext hx4
  simp only [put_some]
  refine WL.qq (by simp only [ev_tmp, ev_const, ev_func, set_get, Nat.reduceEqDiff, reduceIte, qv_move, e0, e1, e2, hB1.cell, hB2.cell, hB3.cell]; rfl) ?_
  refine WL.qq (by simp only [ev_tmp, ev_const, ev_func, set_get, Nat.reduceEqDiff, reduceIte, qv_extract, List.getElem?_toArray, List.getElem?_cons_zero, List.getElem?_cons_succ, List.map_toArray, List.map_cons, List.map_nil, Option.map_some, Option.bind_some, e0, e1, e2, hB1.cell, hB2.cell, hB3.cell]; rfl) ?_
  refine WL.qq (by simp only [ev_tmp, ev_const, ev_func, set_get, Nat.reduceEqDiff, reduceIte, qv_extract, List.getElem?_toArray, List.getElem?_cons_zero, List.getElem?_cons_succ, List.map_toArray, List.map_cons, List.map_nil, Option.map_some, Option.bind_some, e0, e1, e2, hB1.cell, hB2.cell, hB3.cell]; rfl) ?_
  refine WL.qq (by simp only [ev_tmp, ev_const, ev_func, set_get, Nat.reduceEqDiff, reduceIte, qv_assign, e0, e1, e2, hB1.cell, hB2.cell, hB3.cell]; rfl) ?_
  refine WL.qq (by simp only [ev_tmp, ev_const, ev_func, set_get, Nat.reduceEqDiff, reduceIte, qv_assign, e0, e1, e2, hB1.cell, hB2.cell, hB3.cell]; rfl) ?_
  refine WL.nil ?_
  refine th_norm ?_
  refine hx_seq ?_
  refine hx_seq ?_
  refine hx_region ?_
  refine WL.cg Try.call13 (by simp only [ev_tmp, ev_const, ev_func, set_get, Nat.reduceEqDiff, reduceIte, List.getElem?_toArray, List.getElem?_cons_zero, List.getElem?_cons_succ, List.map_toArray, List.map_cons, List.map_nil, Option.map_some, Option.bind_some, e0, e1, e2, hB1.cell, hB2.cell, hB3.cell]; exact c_known47 _) ?_
  intro h5 hx5
  replace hw := hw.ext hx5
  replace hh := hh.ext hx5
  replace hB1 := hB1.ext hx5
  replace hB2 := hB2.ext hx5
  replace hB3 := hB3.ext hx5
  replace hq := hq.ext hx5
  refine WL.qq (by simp only [ev_tmp, ev_const, ev_func, set_get, Nat.reduceEqDiff, reduceIte, qv_unOp, unv_not, e0, e1, e2, hB1.cell, hB2.cell, hB3.cell]; rfl) ?_
  refine WL.qq (by simp only [ev_tmp, ev_const, ev_func, set_get, Nat.reduceEqDiff, reduceIte, qv_move, e0, e1, e2, hB1.cell, hB2.cell, hB3.cell]; rfl) ?_
  refine WL.cq (gd_at (t := 24) rfl (by simp only [ev_tmp, ev_const, ev_func, set_get, Nat.reduceEqDiff, reduceIte, e0, e1, e2, hB1.cell, hB2.cell, hB3.cell]; rfl)) (fun hg2_3 => by simp only [ev_tmp, ev_const, ev_func, set_get, Nat.reduceEqDiff, reduceIte, qv_move, e0, e1, e2, hB1.cell, hB2.cell, hB3.cell, hg2_3, Bool.false_eq_true, Bool.true_eq_false, eq_self, if_true, if_false, true_and, and_true, false_and, and_false]; rfl) ?_
  refine WL.cq (gd_at (t := 24) rfl (by simp only [ev_tmp, ev_const, ev_func, set_get, Nat.reduceEqDiff, reduceIte, e0, e1, e2, hB1.cell, hB2.cell, hB3.cell]; rfl)) (fun hg2_4 => by simp only [ev_tmp, ev_const, ev_func, set_get, Nat.reduceEqDiff, reduceIte, qv_unOp, unv_not, e0, e1, e2, hB1.cell, hB2.cell, hB3.cell, hg2_4, Bool.false_eq_true, Bool.true_eq_false, eq_self, if_true, if_false, true_and, and_true, false_and, and_false]; rfl) ?_
  refine WL.qq (by simp only [ev_tmp, ev_const, ev_func, set_get, Nat.reduceEqDiff, reduceIte, qv_pick, pk_and, pk_or, Bool.false_eq_true, Bool.true_eq_false, eq_self, if_true, if_false, true_and, and_true, false_and, and_false, e0, e1, e2, hB1.cell, hB2.cell, hB3.cell]; rfl) ?_
  refine WL.nil ?_
  refine th_norm ?_
  refine hx_cond (by simp only [ev_tmp, ev_const, ev_func, set_get, Nat.reduceEqDiff, reduceIte, e0, e1, e2, hB1.cell, hB2.cell, hB3.cell]; rfl) (fun hct27 => ?_) (fun hct27 => ?_)
  ·
    try simp only [decide_eq_true_eq, decide_eq_false_iff_not, Bool.and_eq_true, Bool.and_eq_false_iff, Bool.or_eq_true, Bool.or_eq_false_iff, Bool.not_eq_true', Bool.not_eq_false', Bool.not_eq_true, Bool.not_eq_false] at hct27
    refine hx_seq ?_
    refine hx_region ?_
    refine WL.cg Try.call13 (by simp only [ev_tmp, ev_const, ev_func, set_get, Nat.reduceEqDiff, reduceIte, List.getElem?_toArray, List.getElem?_cons_zero, List.getElem?_cons_succ, List.map_toArray, List.map_cons, List.map_nil, Option.map_some, Option.bind_some, e0, e1, e2, hB1.cell, hB2.cell, hB3.cell]; exact c_known47 _) ?_
    intro h6 hx6
    replace hw := hw.ext hx6
    replace hh := hh.ext hx6
    replace hB1 := hB1.ext hx6
    replace hB2 := hB2.ext hx6
    replace hB3 := hB3.ext hx6
    replace hq := hq.ext hx6
    refine WL.qq (by simp only [ev_tmp, ev_const, ev_func, set_get, Nat.reduceEqDiff, reduceIte, qv_assign, e0, e1, e2, hB1.cell, hB2.cell, hB3.cell]; rfl) ?_
    refine WL.nil ?_
    refine th_norm ?_
    refine hx_ret ?_
    refine th_ret ?_
    refine fin_ret [.tmp 6] rfl rfl (by simp only [ev_tmp, ev_const, ev_func, set_get, Nat.reduceEqDiff, reduceIte, resv, e0, e1, e2, hB1.cell, hB2.cell, hB3.cell]; rfl) ?_  -- ret 0 r3
    exact ⟨rfl, ((hx1).trans ((hx2).trans ((hx3).trans ((hx4).trans ((hx5).trans (hx6))))))⟩
  ·
    try simp only [decide_eq_true_eq, decide_eq_false_iff_not, Bool.and_eq_true, Bool.and_eq_false_iff, Bool.or_eq_true, Bool.or_eq_false_iff, Bool.not_eq_true', Bool.not_eq_false', Bool.not_eq_true, Bool.not_eq_false] at hct27
    have hb : b = true := by simpa using hct27
    obtain ⟨p, rfl, hc⟩ := hq hb
    refine hx_skip ?_
    refine th_norm ?_
    refine hx_seq ?_
    refine hx_seq ?_
    refine hx_region ?_
    refine WL.qq (by simp only [ev_tmp, ev_const, ev_func, set_get, Nat.reduceEqDiff, reduceIte, qv_load, ld24, readN, List.getElem?_toArray, List.getElem?_cons_zero, List.getElem?_cons_succ, List.map_toArray, List.map_cons, List.map_nil, Option.map_some, Option.bind_some, Nat.zero_add, Nat.reduceAdd, e0, e1, e2, hB1.cell, hB2.cell, hB3.cell]; rfl) ?_
    refine WL.qq (by simp only [ev_tmp, ev_const, ev_func, set_get, Nat.reduceEqDiff, reduceIte, qv_indexAddr, e0, e1, e2, hB1.cell, hB2.cell, hB3.cell]; (try simp (disch := omega) only [ix70, Int.toNat_natCast]); rfl) ?_
    refine WL.qq (by simp only [ev_tmp, ev_const, ev_func, set_get, Nat.reduceEqDiff, reduceIte, qv_load, ld29, readN, List.getElem?_toArray, List.getElem?_cons_zero, List.getElem?_cons_succ, List.map_toArray, List.map_cons, List.map_nil, Option.map_some, Option.bind_some, Nat.zero_add, Nat.reduceAdd, e0, e1, e2, hB1.cell, hB2.cell, hB3.cell]; rfl) ?_
    refine WL.qq (by simp only [ev_tmp, ev_const, ev_func, set_get, Nat.reduceEqDiff, reduceIte, qv_indexAddr, e0, e1, e2, hB1.cell, hB2.cell, hB3.cell]; (try simp (disch := omega) only [ix70, Int.toNat_natCast]); rfl) ?_
    refine WL.qq (by simp only [ev_tmp, ev_const, ev_func, set_get, Nat.reduceEqDiff, reduceIte, qv_load, ld29, readN, List.getElem?_toArray, List.getElem?_cons_zero, List.getElem?_cons_succ, List.map_toArray, List.map_cons, List.map_nil, Option.map_some, Option.bind_some, Nat.zero_add, Nat.reduceAdd, e0, e1, e2, hB1.cell, hB2.cell, hB3.cell]; rfl) ?_
    refine WL.qq (by simp only [ev_tmp, ev_const, ev_func, set_get, Nat.reduceEqDiff, reduceIte, qv_indexAddr, e0, e1, e2, hB1.cell, hB2.cell, hB3.cell]; (try simp (disch := omega) only [ix70, Int.toNat_natCast]); rfl) ?_
    refine WL.qq (by simp only [ev_tmp, ev_const, ev_func, set_get, Nat.reduceEqDiff, reduceIte, qv_load, ld29, readN, List.getElem?_toArray, List.getElem?_cons_zero, List.getElem?_cons_succ, List.map_toArray, List.map_cons, List.map_nil, Option.map_some, Option.bind_some, Nat.zero_add, Nat.reduceAdd, e0, e1, e2, hB1.cell, hB2.cell, hB3.cell]; rfl) ?_
    refine WL.lit2 #[(.int .i64 0), (.int .i64 0), (.int .i64 0), (.int .i64 0), (.int .i64 0), (.int .i64 0)] Try.underlying84 sz29 zr29 (by decide) (by kernel_rfl) ⟨_, (by simp only [ev_tmp, ev_const, ev_func, set_get, Nat.reduceEqDiff, reduceIte, List.getElem?_toArray, List.getElem?_cons_zero, List.getElem?_cons_succ, List.map_toArray, List.map_cons, List.map_nil, Option.map_some, Option.bind_some, e0, e1, e2, hB1.cell, hB2.cell, hB3.cell]; simp [Instr.fill, Value.cells]; rfl), rfl⟩ ?_
    intro h7 B7 hx7 hlt7 hB7
    replace hw := hw.ext hx7
    replace hh := hh.ext hx7
    replace hB1 := hB1.ext hx7
    replace hB2 := hB2.ext hx7
    replace hB3 := hB3.ext hx7
    replace hq := hq.ext hx7
    refine WL.cg Try.call15 (by simp only [ev_tmp, ev_const, ev_func, set_get, Nat.reduceEqDiff, reduceIte, List.getElem?_toArray, List.getElem?_cons_zero, List.getElem?_cons_succ, List.map_toArray, List.map_cons, List.map_nil, Option.map_some, Option.bind_some, e0, e1, e2, hB1.cell, hB2.cell, hB3.cell, hB7.cell]; exact HCalls.gv (by rw [hno]) (c_fails s0 s1 s2 s3 s4 s5 _ [(d, m), (d', m'), (d2, m2)] 3 (by simp) (SlC.three hB7))) ?_
    intro h8 hx8
    replace hw := hw.ext hx8
    replace hh := hh.ext hx8
    replace hB1 := hB1.ext hx8
    replace hB2 := hB2.ext hx8
    replace hB3 := hB3.ext hx8
    replace hq := hq.ext hx8
    replace hB7 := hB7.ext hx8
    have hrg : no = 0 → (0 ≤ d ∧ d ≤ 73048) ∧ (0 ≤ d2 ∧ d2 ≤ 73048) ∧ (0 ≤ m ∧ m ≤ 1439) ∧ (0 ≤ m' ∧ m' ≤ 1439) ∧ (0 ≤ m2 ∧ m2 ≤ 1439) ∧ (0 ≤ d' ∧ d' ≤ 73048) := fun hz => by have h3 := fail3 (hno.trans hz); have e1 := val_two (q := some ⟨p, 0, none⟩) (val_fail2.trans h3.1); have e2 := val_two (q := some ⟨p, 0, none⟩) (val_fail2.trans h3.2.1); simp only at e1 e2; exact ⟨by omega, by omega, by omega, by omega, by omega, by omega⟩
    refine WL.qq (by simp only [ev_tmp, ev_const, ev_func, set_get, Nat.reduceEqDiff, reduceIte, qv_binOp, binv_neq, eq3, Option.map_some, e0, e1, e2, hB1.cell, hB2.cell, hB3.cell, hB7.cell]; rfl) ?_
    refine WL.qq (by simp only [ev_tmp, ev_const, ev_func, set_get, Nat.reduceEqDiff, reduceIte, qv_move, e0, e1, e2, hB1.cell, hB2.cell, hB3.cell, hB7.cell]; rfl) ?_
    refine WL.cq (gd_at (t := 39) rfl (by simp only [ev_tmp, ev_const, ev_func, set_get, Nat.reduceEqDiff, reduceIte, e0, e1, e2, hB1.cell, hB2.cell, hB3.cell, hB7.cell]; rfl)) (fun hg4_11 => by have hq0 := hg4_11; (try simp only [decide_eq_true_eq, decide_eq_false_iff_not, Bool.and_eq_true, Bool.and_eq_false_iff, Bool.or_eq_true, Bool.or_eq_false_iff, Bool.not_eq_true', Bool.not_eq_false', Bool.not_eq_true, Bool.not_eq_false] at hq0); simp only [ev_tmp, ev_const, ev_func, set_get, Nat.reduceEqDiff, reduceIte, qv_indexAddr, e0, e1, e2, hB1.cell, hB2.cell, hB3.cell, hB7.cell, hg4_11, Bool.false_eq_true, Bool.true_eq_false, eq_self, if_true, if_false, true_and, and_true, false_and, and_false]; (try simp (disch := omega) only [ix70, Int.toNat_natCast]); rfl) ?_
    refine WL.cq (gd_at (t := 39) rfl (by simp only [ev_tmp, ev_const, ev_func, set_get, Nat.reduceEqDiff, reduceIte, e0, e1, e2, hB1.cell, hB2.cell, hB3.cell, hB7.cell]; rfl)) (fun hg4_12 => by simp only [ev_tmp, ev_const, ev_func, set_get, Nat.reduceEqDiff, reduceIte, qv_fieldAddr, fa29_0, Nat.zero_add, Nat.reduceAdd, e0, e1, e2, hB1.cell, hB2.cell, hB3.cell, hB7.cell, hg4_12, Bool.false_eq_true, Bool.true_eq_false, eq_self, if_true, if_false, true_and, and_true, false_and, and_false]; rfl) ?_
    refine WL.cq (gd_at (t := 39) rfl (by simp only [ev_tmp, ev_const, ev_func, set_get, Nat.reduceEqDiff, reduceIte, e0, e1, e2, hB1.cell, hB2.cell, hB3.cell, hB7.cell]; rfl)) (fun hg4_13 => by simp only [ev_tmp, ev_const, ev_func, set_get, Nat.reduceEqDiff, reduceIte, qv_load, ld3, readN, List.getElem?_toArray, List.getElem?_cons_zero, List.getElem?_cons_succ, List.map_toArray, List.map_cons, List.map_nil, Option.map_some, Option.bind_some, Nat.zero_add, Nat.reduceAdd, e0, e1, e2, hB1.cell, hB2.cell, hB3.cell, hB7.cell, hg4_13, Bool.false_eq_true, Bool.true_eq_false, eq_self, if_true, if_false, true_and, and_true, false_and, and_false]; rfl) ?_
    refine WL.cq (gd_at (t := 39) rfl (by simp only [ev_tmp, ev_const, ev_func, set_get, Nat.reduceEqDiff, reduceIte, e0, e1, e2, hB1.cell, hB2.cell, hB3.cell, hB7.cell]; rfl)) (fun hg4_14 => by have hq0 := hg4_14; (try simp only [decide_eq_true_eq, decide_eq_false_iff_not, Bool.and_eq_true, Bool.and_eq_false_iff, Bool.or_eq_true, Bool.or_eq_false_iff, Bool.not_eq_true', Bool.not_eq_false', Bool.not_eq_true, Bool.not_eq_false] at hq0); simp only [ev_tmp, ev_const, ev_func, set_get, Nat.reduceEqDiff, reduceIte, qv_indexAddr, e0, e1, e2, hB1.cell, hB2.cell, hB3.cell, hB7.cell, hg4_14, Bool.false_eq_true, Bool.true_eq_false, eq_self, if_true, if_false, true_and, and_true, false_and, and_false]; (try simp (disch := omega) only [ix70, Int.toNat_natCast]); rfl) ?_
    refine WL.cq (gd_at (t := 39) rfl (by simp only [ev_tmp, ev_const, ev_func, set_get, Nat.reduceEqDiff, reduceIte, e0, e1, e2, hB1.cell, hB2.cell, hB3.cell, hB7.cell]; rfl)) (fun hg4_15 => by simp only [ev_tmp, ev_const, ev_func, set_get, Nat.reduceEqDiff, reduceIte, qv_fieldAddr, fa29_0, Nat.zero_add, Nat.reduceAdd, e0, e1, e2, hB1.cell, hB2.cell, hB3.cell, hB7.cell, hg4_15, Bool.false_eq_true, Bool.true_eq_false, eq_self, if_true, if_false, true_and, and_true, false_and, and_false]; rfl) ?_
    refine WL.cq (gd_at (t := 39) rfl (by simp only [ev_tmp, ev_const, ev_func, set_get, Nat.reduceEqDiff, reduceIte, e0, e1, e2, hB1.cell, hB2.cell, hB3.cell, hB7.cell]; rfl)) (fun hg4_16 => by simp only [ev_tmp, ev_const, ev_func, set_get, Nat.reduceEqDiff, reduceIte, qv_load, ld3, readN, List.getElem?_toArray, List.getElem?_cons_zero, List.getElem?_cons_succ, List.map_toArray, List.map_cons, List.map_nil, Option.map_some, Option.bind_some, Nat.zero_add, Nat.reduceAdd, e0, e1, e2, hB1.cell, hB2.cell, hB3.cell, hB7.cell, hg4_16, Bool.false_eq_true, Bool.true_eq_false, eq_self, if_true, if_false, true_and, and_true, false_and, and_false]; rfl) ?_
    refine WL.cq (gd_at (t := 39) rfl (by simp only [ev_tmp, ev_const, ev_func, set_get, Nat.reduceEqDiff, reduceIte, e0, e1, e2, hB1.cell, hB2.cell, hB3.cell, hB7.cell]; rfl)) (fun hg4_17 => by simp only [ev_tmp, ev_const, ev_func, set_get, Nat.reduceEqDiff, reduceIte, qv_binOp, binv_lss, e0, e1, e2, hB1.cell, hB2.cell, hB3.cell, hB7.cell, hg4_17, Bool.false_eq_true, Bool.true_eq_false, eq_self, if_true, if_false, true_and, and_true, false_and, and_false]; rfl) ?_
    refine WL.qq (by simp only [ev_tmp, ev_const, ev_func, set_get, Nat.reduceEqDiff, reduceIte, qv_pick, pk_and, pk_or, Bool.false_eq_true, Bool.true_eq_false, eq_self, if_true, if_false, true_and, and_true, false_and, and_false, e0, e1, e2, hB1.cell, hB2.cell, hB3.cell, hB7.cell]; rfl) ?_
    refine WL.qq (by simp only [ev_tmp, ev_const, ev_func, set_get, Nat.reduceEqDiff, reduceIte, qv_move, e0, e1, e2, hB1.cell, hB2.cell, hB3.cell, hB7.cell]; rfl) ?_
    refine WL.cq (gd_at (t := 48) rfl (by simp only [ev_tmp, ev_const, ev_func, set_get, Nat.reduceEqDiff, reduceIte, e0, e1, e2, hB1.cell, hB2.cell, hB3.cell, hB7.cell]; rfl)) (fun hg4_20 => by have hq0 := hg4_20; (try simp only [decide_eq_true_eq, decide_eq_false_iff_not, Bool.and_eq_true, Bool.and_eq_false_iff, Bool.or_eq_true, Bool.or_eq_false_iff, Bool.not_eq_true', Bool.not_eq_false', Bool.not_eq_true, Bool.not_eq_false] at hq0); simp only [ev_tmp, ev_const, ev_func, set_get, Nat.reduceEqDiff, reduceIte, qv_indexAddr, e0, e1, e2, hB1.cell, hB2.cell, hB3.cell, hB7.cell, hg4_20, Bool.false_eq_true, Bool.true_eq_false, eq_self, if_true, if_false, true_and, and_true, false_and, and_false]; (try simp (disch := omega) only [ix70, Int.toNat_natCast]); rfl) ?_
    refine WL.cq (gd_at (t := 48) rfl (by simp only [ev_tmp, ev_const, ev_func, set_get, Nat.reduceEqDiff, reduceIte, e0, e1, e2, hB1.cell, hB2.cell, hB3.cell, hB7.cell]; rfl)) (fun hg4_21 => by simp only [ev_tmp, ev_const, ev_func, set_get, Nat.reduceEqDiff, reduceIte, qv_fieldAddr, fa29_0, Nat.zero_add, Nat.reduceAdd, e0, e1, e2, hB1.cell, hB2.cell, hB3.cell, hB7.cell, hg4_21, Bool.false_eq_true, Bool.true_eq_false, eq_self, if_true, if_false, true_and, and_true, false_and, and_false]; rfl) ?_
    refine WL.cq (gd_at (t := 48) rfl (by simp only [ev_tmp, ev_const, ev_func, set_get, Nat.reduceEqDiff, reduceIte, e0, e1, e2, hB1.cell, hB2.cell, hB3.cell, hB7.cell]; rfl)) (fun hg4_22 => by simp only [ev_tmp, ev_const, ev_func, set_get, Nat.reduceEqDiff, reduceIte, qv_load, ld3, readN, List.getElem?_toArray, List.getElem?_cons_zero, List.getElem?_cons_succ, List.map_toArray, List.map_cons, List.map_nil, Option.map_some, Option.bind_some, Nat.zero_add, Nat.reduceAdd, e0, e1, e2, hB1.cell, hB2.cell, hB3.cell, hB7.cell, hg4_22, Bool.false_eq_true, Bool.true_eq_false, eq_self, if_true, if_false, true_and, and_true, false_and, and_false]; rfl) ?_
    refine WL.cq (gd_at (t := 48) rfl (by simp only [ev_tmp, ev_const, ev_func, set_get, Nat.reduceEqDiff, reduceIte, e0, e1, e2, hB1.cell, hB2.cell, hB3.cell, hB7.cell]; rfl)) (fun hg4_23 => by have hq0 := hg4_23; (try simp only [decide_eq_true_eq, decide_eq_false_iff_not, Bool.and_eq_true, Bool.and_eq_false_iff, Bool.or_eq_true, Bool.or_eq_false_iff, Bool.not_eq_true', Bool.not_eq_false', Bool.not_eq_true, Bool.not_eq_false] at hq0); simp only [ev_tmp, ev_const, ev_func, set_get, Nat.reduceEqDiff, reduceIte, qv_indexAddr, e0, e1, e2, hB1.cell, hB2.cell, hB3.cell, hB7.cell, hg4_23, Bool.false_eq_true, Bool.true_eq_false, eq_self, if_true, if_false, true_and, and_true, false_and, and_false]; (try simp (disch := omega) only [ix70, Int.toNat_natCast]); rfl) ?_
    refine WL.cq (gd_at (t := 48) rfl (by simp only [ev_tmp, ev_const, ev_func, set_get, Nat.reduceEqDiff, reduceIte, e0, e1, e2, hB1.cell, hB2.cell, hB3.cell, hB7.cell]; rfl)) (fun hg4_24 => by simp only [ev_tmp, ev_const, ev_func, set_get, Nat.reduceEqDiff, reduceIte, qv_fieldAddr, fa29_0, Nat.zero_add, Nat.reduceAdd, e0, e1, e2, hB1.cell, hB2.cell, hB3.cell, hB7.cell, hg4_24, Bool.false_eq_true, Bool.true_eq_false, eq_self, if_true, if_false, true_and, and_true, false_and, and_false]; rfl) ?_
    refine WL.cq (gd_at (t := 48) rfl (by simp only [ev_tmp, ev_const, ev_func, set_get, Nat.reduceEqDiff, reduceIte, e0, e1, e2, hB1.cell, hB2.cell, hB3.cell, hB7.cell]; rfl)) (fun hg4_25 => by simp only [ev_tmp, ev_const, ev_func, set_get, Nat.reduceEqDiff, reduceIte, qv_load, ld3, readN, List.getElem?_toArray, List.getElem?_cons_zero, List.getElem?_cons_succ, List.map_toArray, List.map_cons, List.map_nil, Option.map_some, Option.bind_some, Nat.zero_add, Nat.reduceAdd, e0, e1, e2, hB1.cell, hB2.cell, hB3.cell, hB7.cell, hg4_25, Bool.false_eq_true, Bool.true_eq_false, eq_self, if_true, if_false, true_and, and_true, false_and, and_false]; rfl) ?_
    refine WL.cq (gd_at (t := 48) rfl (by simp only [ev_tmp, ev_const, ev_func, set_get, Nat.reduceEqDiff, reduceIte, e0, e1, e2, hB1.cell, hB2.cell, hB3.cell, hB7.cell]; rfl)) (fun hg4_26 => by simp only [ev_tmp, ev_const, ev_func, set_get, Nat.reduceEqDiff, reduceIte, qv_binOp, binv_lss, e0, e1, e2, hB1.cell, hB2.cell, hB3.cell, hB7.cell, hg4_26, Bool.false_eq_true, Bool.true_eq_false, eq_self, if_true, if_false, true_and, and_true, false_and, and_false]; rfl) ?_
    refine WL.qq (by simp only [ev_tmp, ev_const, ev_func, set_get, Nat.reduceEqDiff, reduceIte, qv_pick, pk_and, pk_or, Bool.false_eq_true, Bool.true_eq_false, eq_self, if_true, if_false, true_and, and_true, false_and, and_false, e0, e1, e2, hB1.cell, hB2.cell, hB3.cell, hB7.cell]; rfl) ?_
    refine WL.qq (by simp only [ev_tmp, ev_const, ev_func, set_get, Nat.reduceEqDiff, reduceIte, qv_move, e0, e1, e2, hB1.cell, hB2.cell, hB3.cell, hB7.cell]; rfl) ?_
    refine WL.cq (gd_at (t := 57) rfl (by simp only [ev_tmp, ev_const, ev_func, set_get, Nat.reduceEqDiff, reduceIte, e0, e1, e2, hB1.cell, hB2.cell, hB3.cell, hB7.cell]; rfl)) (fun hg4_29 => by have hq0 := hg4_29; (try simp only [decide_eq_true_eq, decide_eq_false_iff_not, Bool.and_eq_true, Bool.and_eq_false_iff, Bool.or_eq_true, Bool.or_eq_false_iff, Bool.not_eq_true', Bool.not_eq_false', Bool.not_eq_true, Bool.not_eq_false] at hq0); simp only [ev_tmp, ev_const, ev_func, set_get, Nat.reduceEqDiff, reduceIte, qv_indexAddr, e0, e1, e2, hB1.cell, hB2.cell, hB3.cell, hB7.cell, hg4_29, Bool.false_eq_true, Bool.true_eq_false, eq_self, if_true, if_false, true_and, and_true, false_and, and_false]; (try simp (disch := omega) only [ix70, Int.toNat_natCast]); rfl) ?_
    refine WL.cq (gd_at (t := 57) rfl (by simp only [ev_tmp, ev_const, ev_func, set_get, Nat.reduceEqDiff, reduceIte, e0, e1, e2, hB1.cell, hB2.cell, hB3.cell, hB7.cell]; rfl)) (fun hg4_30 => by simp only [ev_tmp, ev_const, ev_func, set_get, Nat.reduceEqDiff, reduceIte, qv_fieldAddr, fa29_0, Nat.zero_add, Nat.reduceAdd, e0, e1, e2, hB1.cell, hB2.cell, hB3.cell, hB7.cell, hg4_30, Bool.false_eq_true, Bool.true_eq_false, eq_self, if_true, if_false, true_and, and_true, false_and, and_false]; rfl) ?_
    refine WL.cq (gd_at (t := 57) rfl (by simp only [ev_tmp, ev_const, ev_func, set_get, Nat.reduceEqDiff, reduceIte, e0, e1, e2, hB1.cell, hB2.cell, hB3.cell, hB7.cell]; rfl)) (fun hg4_31 => by simp only [ev_tmp, ev_const, ev_func, set_get, Nat.reduceEqDiff, reduceIte, qv_load, ld3, readN, List.getElem?_toArray, List.getElem?_cons_zero, List.getElem?_cons_succ, List.map_toArray, List.map_cons, List.map_nil, Option.map_some, Option.bind_some, Nat.zero_add, Nat.reduceAdd, e0, e1, e2, hB1.cell, hB2.cell, hB3.cell, hB7.cell, hg4_31, Bool.false_eq_true, Bool.true_eq_false, eq_self, if_true, if_false, true_and, and_true, false_and, and_false]; rfl) ?_
    refine WL.cq (gd_at (t := 57) rfl (by simp only [ev_tmp, ev_const, ev_func, set_get, Nat.reduceEqDiff, reduceIte, e0, e1, e2, hB1.cell, hB2.cell, hB3.cell, hB7.cell]; rfl)) (fun hg4_32 => by have hq0 := hg4_32; (try simp only [decide_eq_true_eq, decide_eq_false_iff_not, Bool.and_eq_true, Bool.and_eq_false_iff, Bool.or_eq_true, Bool.or_eq_false_iff, Bool.not_eq_true', Bool.not_eq_false', Bool.not_eq_true, Bool.not_eq_false] at hq0); simp only [ev_tmp, ev_const, ev_func, set_get, Nat.reduceEqDiff, reduceIte, qv_indexAddr, e0, e1, e2, hB1.cell, hB2.cell, hB3.cell, hB7.cell, hg4_32, Bool.false_eq_true, Bool.true_eq_false, eq_self, if_true, if_false, true_and, and_true, false_and, and_false]; (try simp (disch := omega) only [ix70, Int.toNat_natCast]); rfl) ?_
    refine WL.cq (gd_at (t := 57) rfl (by simp only [ev_tmp, ev_const, ev_func, set_get, Nat.reduceEqDiff, reduceIte, e0, e1, e2, hB1.cell, hB2.cell, hB3.cell, hB7.cell]; rfl)) (fun hg4_33 => by simp only [ev_tmp, ev_const, ev_func, set_get, Nat.reduceEqDiff, reduceIte, qv_fieldAddr, fa29_0, Nat.zero_add, Nat.reduceAdd, e0, e1, e2, hB1.cell, hB2.cell, hB3.cell, hB7.cell, hg4_33, Bool.false_eq_true, Bool.true_eq_false, eq_self, if_true, if_false, true_and, and_true, false_and, and_false]; rfl) ?_
    refine WL.cq (gd_at (t := 57) rfl (by simp only [ev_tmp, ev_const, ev_func, set_get, Nat.reduceEqDiff, reduceIte, e0, e1, e2, hB1.cell, hB2.cell, hB3.cell, hB7.cell]; rfl)) (fun hg4_34 => by simp only [ev_tmp, ev_const, ev_func, set_get, Nat.reduceEqDiff, reduceIte, qv_load, ld3, readN, List.getElem?_toArray, List.getElem?_cons_zero, List.getElem?_cons_succ, List.map_toArray, List.map_cons, List.map_nil, Option.map_some, Option.bind_some, Nat.zero_add, Nat.reduceAdd, e0, e1, e2, hB1.cell, hB2.cell, hB3.cell, hB7.cell, hg4_34, Bool.false_eq_true, Bool.true_eq_false, eq_self, if_true, if_false, true_and, and_true, false_and, and_false]; rfl) ?_
    refine WL.cq (gd_at (t := 57) rfl (by simp only [ev_tmp, ev_const, ev_func, set_get, Nat.reduceEqDiff, reduceIte, e0, e1, e2, hB1.cell, hB2.cell, hB3.cell, hB7.cell]; rfl)) (fun hg4_35 => by simp only [ev_tmp, ev_const, ev_func, set_get, Nat.reduceEqDiff, reduceIte, qv_binOp, binv_eql, eq3, Option.map_some, e0, e1, e2, hB1.cell, hB2.cell, hB3.cell, hB7.cell, hg4_35, Bool.false_eq_true, Bool.true_eq_false, eq_self, if_true, if_false, true_and, and_true, false_and, and_false]; rfl) ?_
    refine WL.cq (gd_at (t := 57) rfl (by simp only [ev_tmp, ev_const, ev_func, set_get, Nat.reduceEqDiff, reduceIte, e0, e1, e2, hB1.cell, hB2.cell, hB3.cell, hB7.cell]; rfl)) (fun hg4_36 => by simp only [ev_tmp, ev_const, ev_func, set_get, Nat.reduceEqDiff, reduceIte, qv_move, e0, e1, e2, hB1.cell, hB2.cell, hB3.cell, hB7.cell, hg4_36, Bool.false_eq_true, Bool.true_eq_false, eq_self, if_true, if_false, true_and, and_true, false_and, and_false]; rfl) ?_
    refine WL.cq2 (t := 65) rfl (by simp only [ev_tmp, ev_const, ev_func, set_get, Nat.reduceEqDiff, reduceIte, e0, e1, e2, hB1.cell, hB2.cell, hB3.cell, hB7.cell]; rfl) (fun hC4_37 hg4_37 => by have hq0 := hC4_37; (try simp only [decide_eq_true_eq, decide_eq_false_iff_not, Bool.and_eq_true, Bool.and_eq_false_iff, Bool.or_eq_true, Bool.or_eq_false_iff, Bool.not_eq_true', Bool.not_eq_false', Bool.not_eq_true, Bool.not_eq_false] at hq0); have hq1 := hg4_37; (try simp only [decide_eq_true_eq, decide_eq_false_iff_not, Bool.and_eq_true, Bool.and_eq_false_iff, Bool.or_eq_true, Bool.or_eq_false_iff, Bool.not_eq_true', Bool.not_eq_false', Bool.not_eq_true, Bool.not_eq_false] at hq1); simp only [ev_tmp, ev_const, ev_func, set_get, Nat.reduceEqDiff, reduceIte, qv_indexAddr, e0, e1, e2, hB1.cell, hB2.cell, hB3.cell, hB7.cell, hC4_37, hg4_37, Bool.false_eq_true, Bool.true_eq_false, eq_self, if_true, if_false, true_and, and_true, false_and, and_false]; (try simp (disch := omega) only [ix70, Int.toNat_natCast]); rfl) ?_
    refine WL.cq2 (t := 65) rfl (by simp only [ev_tmp, ev_const, ev_func, set_get, Nat.reduceEqDiff, reduceIte, e0, e1, e2, hB1.cell, hB2.cell, hB3.cell, hB7.cell]; rfl) (fun hC4_38 hg4_38 => by simp only [ev_tmp, ev_const, ev_func, set_get, Nat.reduceEqDiff, reduceIte, qv_fieldAddr, fa29_1, Nat.zero_add, Nat.reduceAdd, e0, e1, e2, hB1.cell, hB2.cell, hB3.cell, hB7.cell, hC4_38, hg4_38, Bool.false_eq_true, Bool.true_eq_false, eq_self, if_true, if_false, true_and, and_true, false_and, and_false]; rfl) ?_
    refine WL.cq2 (t := 65) rfl (by simp only [ev_tmp, ev_const, ev_func, set_get, Nat.reduceEqDiff, reduceIte, e0, e1, e2, hB1.cell, hB2.cell, hB3.cell, hB7.cell]; rfl) (fun hC4_39 hg4_39 => by simp only [ev_tmp, ev_const, ev_func, set_get, Nat.reduceEqDiff, reduceIte, qv_load, ld3, readN, List.getElem?_toArray, List.getElem?_cons_zero, List.getElem?_cons_succ, List.map_toArray, List.map_cons, List.map_nil, Option.map_some, Option.bind_some, Nat.zero_add, Nat.reduceAdd, e0, e1, e2, hB1.cell, hB2.cell, hB3.cell, hB7.cell, hC4_39, hg4_39, Bool.false_eq_true, Bool.true_eq_false, eq_self, if_true, if_false, true_and, and_true, false_and, and_false]; rfl) ?_
    refine WL.cq2 (t := 65) rfl (by simp only [ev_tmp, ev_const, ev_func, set_get, Nat.reduceEqDiff, reduceIte, e0, e1, e2, hB1.cell, hB2.cell, hB3.cell, hB7.cell]; rfl) (fun hC4_40 hg4_40 => by have hq0 := hC4_40; (try simp only [decide_eq_true_eq, decide_eq_false_iff_not, Bool.and_eq_true, Bool.and_eq_false_iff, Bool.or_eq_true, Bool.or_eq_false_iff, Bool.not_eq_true', Bool.not_eq_false', Bool.not_eq_true, Bool.not_eq_false] at hq0); have hq1 := hg4_40; (try simp only [decide_eq_true_eq, decide_eq_false_iff_not, Bool.and_eq_true, Bool.and_eq_false_iff, Bool.or_eq_true, Bool.or_eq_false_iff, Bool.not_eq_true', Bool.not_eq_false', Bool.not_eq_true, Bool.not_eq_false] at hq1); simp only [ev_tmp, ev_const, ev_func, set_get, Nat.reduceEqDiff, reduceIte, qv_indexAddr, e0, e1, e2, hB1.cell, hB2.cell, hB3.cell, hB7.cell, hC4_40, hg4_40, Bool.false_eq_true, Bool.true_eq_false, eq_self, if_true, if_false, true_and, and_true, false_and, and_false]; (try simp (disch := omega) only [ix70, Int.toNat_natCast]); rfl) ?_
    refine WL.cq2 (t := 65) rfl (by simp only [ev_tmp, ev_const, ev_func, set_get, Nat.reduceEqDiff, reduceIte, e0, e1, e2, hB1.cell, hB2.cell, hB3.cell, hB7.cell]; rfl) (fun hC4_41 hg4_41 => by simp only [ev_tmp, ev_const, ev_func, set_get, Nat.reduceEqDiff, reduceIte, qv_fieldAddr, fa29_1, Nat.zero_add, Nat.reduceAdd, e0, e1, e2, hB1.cell, hB2.cell, hB3.cell, hB7.cell, hC4_41, hg4_41, Bool.false_eq_true, Bool.true_eq_false, eq_self, if_true, if_false, true_and, and_true, false_and, and_false]; rfl) ?_
    refine WL.cq2 (t := 65) rfl (by simp only [ev_tmp, ev_const, ev_func, set_get, Nat.reduceEqDiff, reduceIte, e0, e1, e2, hB1.cell, hB2.cell, hB3.cell, hB7.cell]; rfl) (fun hC4_42 hg4_42 => by simp only [ev_tmp, ev_const, ev_func, set_get, Nat.reduceEqDiff, reduceIte, qv_load, ld3, readN, List.getElem?_toArray, List.getElem?_cons_zero, List.getElem?_cons_succ, List.map_toArray, List.map_cons, List.map_nil, Option.map_some, Option.bind_some, Nat.zero_add, Nat.reduceAdd, e0, e1, e2, hB1.cell, hB2.cell, hB3.cell, hB7.cell, hC4_42, hg4_42, Bool.false_eq_true, Bool.true_eq_false, eq_self, if_true, if_false, true_and, and_true, false_and, and_false]; rfl) ?_
    refine WL.cq2 (t := 65) rfl (by simp only [ev_tmp, ev_const, ev_func, set_get, Nat.reduceEqDiff, reduceIte, e0, e1, e2, hB1.cell, hB2.cell, hB3.cell, hB7.cell]; rfl) (fun hC4_43 hg4_43 => by simp only [ev_tmp, ev_const, ev_func, set_get, Nat.reduceEqDiff, reduceIte, qv_binOp, binv_lss, e0, e1, e2, hB1.cell, hB2.cell, hB3.cell, hB7.cell, hC4_43, hg4_43, Bool.false_eq_true, Bool.true_eq_false, eq_self, if_true, if_false, true_and, and_true, false_and, and_false]; rfl) ?_
    refine WL.cq (gd_at (t := 57) rfl (by simp only [ev_tmp, ev_const, ev_func, set_get, Nat.reduceEqDiff, reduceIte, e0, e1, e2, hB1.cell, hB2.cell, hB3.cell, hB7.cell]; rfl)) (fun hg4_44 => by simp only [ev_tmp, ev_const, ev_func, set_get, Nat.reduceEqDiff, reduceIte, qv_pick, pk_and, pk_or, Bool.false_eq_true, Bool.true_eq_false, eq_self, if_true, if_false, true_and, and_true, false_and, and_false, e0, e1, e2, hB1.cell, hB2.cell, hB3.cell, hB7.cell, hg4_44, Bool.false_eq_true, Bool.true_eq_false, eq_self, if_true, if_false, true_and, and_true, false_and, and_false]; rfl) ?_
    refine WL.qq (by simp only [ev_tmp, ev_const, ev_func, set_get, Nat.reduceEqDiff, reduceIte, qv_pick, pk_and, pk_or, Bool.false_eq_true, Bool.true_eq_false, eq_self, if_true, if_false, true_and, and_true, false_and, and_false, e0, e1, e2, hB1.cell, hB2.cell, hB3.cell, hB7.cell]; rfl) ?_
    refine WL.qq (by simp only [ev_tmp, ev_const, ev_func, set_get, Nat.reduceEqDiff, reduceIte, qv_move, e0, e1, e2, hB1.cell, hB2.cell, hB3.cell, hB7.cell]; rfl) ?_
    refine WL.cq (gd_at (t := 75) rfl (by simp only [ev_tmp, ev_const, ev_func, set_get, Nat.reduceEqDiff, reduceIte, e0, e1, e2, hB1.cell, hB2.cell, hB3.cell, hB7.cell]; rfl)) (fun hg4_47 => by have hq0 := hg4_47; (try simp only [decide_eq_true_eq, decide_eq_false_iff_not, Bool.and_eq_true, Bool.and_eq_false_iff, Bool.or_eq_true, Bool.or_eq_false_iff, Bool.not_eq_true', Bool.not_eq_false', Bool.not_eq_true, Bool.not_eq_false] at hq0); simp only [ev_tmp, ev_const, ev_func, set_get, Nat.reduceEqDiff, reduceIte, qv_indexAddr, e0, e1, e2, hB1.cell, hB2.cell, hB3.cell, hB7.cell, hg4_47, Bool.false_eq_true, Bool.true_eq_false, eq_self, if_true, if_false, true_and, and_true, false_and, and_false]; (try simp (disch := omega) only [ix70, Int.toNat_natCast]); rfl) ?_
    refine WL.cq (gd_at (t := 75) rfl (by simp only [ev_tmp, ev_const, ev_func, set_get, Nat.reduceEqDiff, reduceIte, e0, e1, e2, hB1.cell, hB2.cell, hB3.cell, hB7.cell]; rfl)) (fun hg4_48 => by simp only [ev_tmp, ev_const, ev_func, set_get, Nat.reduceEqDiff, reduceIte, qv_fieldAddr, fa29_0, Nat.zero_add, Nat.reduceAdd, e0, e1, e2, hB1.cell, hB2.cell, hB3.cell, hB7.cell, hg4_48, Bool.false_eq_true, Bool.true_eq_false, eq_self, if_true, if_false, true_and, and_true, false_and, and_false]; rfl) ?_
    refine WL.cq (gd_at (t := 75) rfl (by simp only [ev_tmp, ev_const, ev_func, set_get, Nat.reduceEqDiff, reduceIte, e0, e1, e2, hB1.cell, hB2.cell, hB3.cell, hB7.cell]; rfl)) (fun hg4_49 => by simp only [ev_tmp, ev_const, ev_func, set_get, Nat.reduceEqDiff, reduceIte, qv_load, ld3, readN, List.getElem?_toArray, List.getElem?_cons_zero, List.getElem?_cons_succ, List.map_toArray, List.map_cons, List.map_nil, Option.map_some, Option.bind_some, Nat.zero_add, Nat.reduceAdd, e0, e1, e2, hB1.cell, hB2.cell, hB3.cell, hB7.cell, hg4_49, Bool.false_eq_true, Bool.true_eq_false, eq_self, if_true, if_false, true_and, and_true, false_and, and_false]; rfl) ?_
    refine WL.cq (gd_at (t := 75) rfl (by simp only [ev_tmp, ev_const, ev_func, set_get, Nat.reduceEqDiff, reduceIte, e0, e1, e2, hB1.cell, hB2.cell, hB3.cell, hB7.cell]; rfl)) (fun hg4_50 => by have hq0 := hg4_50; (try simp only [decide_eq_true_eq, decide_eq_false_iff_not, Bool.and_eq_true, Bool.and_eq_false_iff, Bool.or_eq_true, Bool.or_eq_false_iff, Bool.not_eq_true', Bool.not_eq_false', Bool.not_eq_true, Bool.not_eq_false] at hq0); simp only [ev_tmp, ev_const, ev_func, set_get, Nat.reduceEqDiff, reduceIte, qv_indexAddr, e0, e1, e2, hB1.cell, hB2.cell, hB3.cell, hB7.cell, hg4_50, Bool.false_eq_true, Bool.true_eq_false, eq_self, if_true, if_false, true_and, and_true, false_and, and_false]; (try simp (disch := omega) only [ix70, Int.toNat_natCast]); rfl) ?_
    refine WL.cq (gd_at (t := 75) rfl (by simp only [ev_tmp, ev_const, ev_func, set_get, Nat.reduceEqDiff, reduceIte, e0, e1, e2, hB1.cell, hB2.cell, hB3.cell, hB7.cell]; rfl)) (fun hg4_51 => by simp only [ev_tmp, ev_const, ev_func, set_get, Nat.reduceEqDiff, reduceIte, qv_fieldAddr, fa29_0, Nat.zero_add, Nat.reduceAdd, e0, e1, e2, hB1.cell, hB2.cell, hB3.cell, hB7.cell, hg4_51, Bool.false_eq_true, Bool.true_eq_false, eq_self, if_true, if_false, true_and, and_true, false_and, and_false]; rfl) ?_
    refine WL.cq (gd_at (t := 75) rfl (by simp only [ev_tmp, ev_const, ev_func, set_get, Nat.reduceEqDiff, reduceIte, e0, e1, e2, hB1.cell, hB2.cell, hB3.cell, hB7.cell]; rfl)) (fun hg4_52 => by simp only [ev_tmp, ev_const, ev_func, set_get, Nat.reduceEqDiff, reduceIte, qv_load, ld3, readN, List.getElem?_toArray, List.getElem?_cons_zero, List.getElem?_cons_succ, List.map_toArray, List.map_cons, List.map_nil, Option.map_some, Option.bind_some, Nat.zero_add, Nat.reduceAdd, e0, e1, e2, hB1.cell, hB2.cell, hB3.cell, hB7.cell, hg4_52, Bool.false_eq_true, Bool.true_eq_false, eq_self, if_true, if_false, true_and, and_true, false_and, and_false]; rfl) ?_
    refine WL.cq (gd_at (t := 75) rfl (by simp only [ev_tmp, ev_const, ev_func, set_get, Nat.reduceEqDiff, reduceIte, e0, e1, e2, hB1.cell, hB2.cell, hB3.cell, hB7.cell]; rfl)) (fun hg4_53 => by simp only [ev_tmp, ev_const, ev_func, set_get, Nat.reduceEqDiff, reduceIte, qv_binOp, binv_eql, eq3, Option.map_some, e0, e1, e2, hB1.cell, hB2.cell, hB3.cell, hB7.cell, hg4_53, Bool.false_eq_true, Bool.true_eq_false, eq_self, if_true, if_false, true_and, and_true, false_and, and_false]; rfl) ?_
    refine WL.cq (gd_at (t := 75) rfl (by simp only [ev_tmp, ev_const, ev_func, set_get, Nat.reduceEqDiff, reduceIte, e0, e1, e2, hB1.cell, hB2.cell, hB3.cell, hB7.cell]; rfl)) (fun hg4_54 => by simp only [ev_tmp, ev_const, ev_func, set_get, Nat.reduceEqDiff, reduceIte, qv_move, e0, e1, e2, hB1.cell, hB2.cell, hB3.cell, hB7.cell, hg4_54, Bool.false_eq_true, Bool.true_eq_false, eq_self, if_true, if_false, true_and, and_true, false_and, and_false]; rfl) ?_
    refine WL.cq2 (t := 83) rfl (by simp only [ev_tmp, ev_const, ev_func, set_get, Nat.reduceEqDiff, reduceIte, e0, e1, e2, hB1.cell, hB2.cell, hB3.cell, hB7.cell]; rfl) (fun hC4_55 hg4_55 => by have hq0 := hC4_55; (try simp only [decide_eq_true_eq, decide_eq_false_iff_not, Bool.and_eq_true, Bool.and_eq_false_iff, Bool.or_eq_true, Bool.or_eq_false_iff, Bool.not_eq_true', Bool.not_eq_false', Bool.not_eq_true, Bool.not_eq_false] at hq0); have hq1 := hg4_55; (try simp only [decide_eq_true_eq, decide_eq_false_iff_not, Bool.and_eq_true, Bool.and_eq_false_iff, Bool.or_eq_true, Bool.or_eq_false_iff, Bool.not_eq_true', Bool.not_eq_false', Bool.not_eq_true, Bool.not_eq_false] at hq1); simp only [ev_tmp, ev_const, ev_func, set_get, Nat.reduceEqDiff, reduceIte, qv_indexAddr, e0, e1, e2, hB1.cell, hB2.cell, hB3.cell, hB7.cell, hC4_55, hg4_55, Bool.false_eq_true, Bool.true_eq_false, eq_self, if_true, if_false, true_and, and_true, false_and, and_false]; (try simp (disch := omega) only [ix70, Int.toNat_natCast]); rfl) ?_
    refine WL.cq2 (t := 83) rfl (by simp only [ev_tmp, ev_const, ev_func, set_get, Nat.reduceEqDiff, reduceIte, e0, e1, e2, hB1.cell, hB2.cell, hB3.cell, hB7.cell]; rfl) (fun hC4_56 hg4_56 => by simp only [ev_tmp, ev_const, ev_func, set_get, Nat.reduceEqDiff, reduceIte, qv_fieldAddr, fa29_1, Nat.zero_add, Nat.reduceAdd, e0, e1, e2, hB1.cell, hB2.cell, hB3.cell, hB7.cell, hC4_56, hg4_56, Bool.false_eq_true, Bool.true_eq_false, eq_self, if_true, if_false, true_and, and_true, false_and, and_false]; rfl) ?_
    refine WL.cq2 (t := 83) rfl (by simp only [ev_tmp, ev_const, ev_func, set_get, Nat.reduceEqDiff, reduceIte, e0, e1, e2, hB1.cell, hB2.cell, hB3.cell, hB7.cell]; rfl) (fun hC4_57 hg4_57 => by simp only [ev_tmp, ev_const, ev_func, set_get, Nat.reduceEqDiff, reduceIte, qv_load, ld3, readN, List.getElem?_toArray, List.getElem?_cons_zero, List.getElem?_cons_succ, List.map_toArray, List.map_cons, List.map_nil, Option.map_some, Option.bind_some, Nat.zero_add, Nat.reduceAdd, e0, e1, e2, hB1.cell, hB2.cell, hB3.cell, hB7.cell, hC4_57, hg4_57, Bool.false_eq_true, Bool.true_eq_false, eq_self, if_true, if_false, true_and, and_true, false_and, and_false]; rfl) ?_
    refine WL.cq2 (t := 83) rfl (by simp only [ev_tmp, ev_const, ev_func, set_get, Nat.reduceEqDiff, reduceIte, e0, e1, e2, hB1.cell, hB2.cell, hB3.cell, hB7.cell]; rfl) (fun hC4_58 hg4_58 => by have hq0 := hC4_58; (try simp only [decide_eq_true_eq, decide_eq_false_iff_not, Bool.and_eq_true, Bool.and_eq_false_iff, Bool.or_eq_true, Bool.or_eq_false_iff, Bool.not_eq_true', Bool.not_eq_false', Bool.not_eq_true, Bool.not_eq_false] at hq0); have hq1 := hg4_58; (try simp only [decide_eq_true_eq, decide_eq_false_iff_not, Bool.and_eq_true, Bool.and_eq_false_iff, Bool.or_eq_true, Bool.or_eq_false_iff, Bool.not_eq_true', Bool.not_eq_false', Bool.not_eq_true, Bool.not_eq_false] at hq1); simp only [ev_tmp, ev_const, ev_func, set_get, Nat.reduceEqDiff, reduceIte, qv_indexAddr, e0, e1, e2, hB1.cell, hB2.cell, hB3.cell, hB7.cell, hC4_58, hg4_58, Bool.false_eq_true, Bool.true_eq_false, eq_self, if_true, if_false, true_and, and_true, false_and, and_false]; (try simp (disch := omega) only [ix70, Int.toNat_natCast]); rfl) ?_
    refine WL.cq2 (t := 83) rfl (by simp only [ev_tmp, ev_const, ev_func, set_get, Nat.reduceEqDiff, reduceIte, e0, e1, e2, hB1.cell, hB2.cell, hB3.cell, hB7.cell]; rfl) (fun hC4_59 hg4_59 => by simp only [ev_tmp, ev_const, ev_func, set_get, Nat.reduceEqDiff, reduceIte, qv_fieldAddr, fa29_1, Nat.zero_add, Nat.reduceAdd, e0, e1, e2, hB1.cell, hB2.cell, hB3.cell, hB7.cell, hC4_59, hg4_59, Bool.false_eq_true, Bool.true_eq_false, eq_self, if_true, if_false, true_and, and_true, false_and, and_false]; rfl) ?_
    refine WL.cq2 (t := 83) rfl (by simp only [ev_tmp, ev_const, ev_func, set_get, Nat.reduceEqDiff, reduceIte, e0, e1, e2, hB1.cell, hB2.cell, hB3.cell, hB7.cell]; rfl) (fun hC4_60 hg4_60 => by simp only [ev_tmp, ev_const, ev_func, set_get, Nat.reduceEqDiff, reduceIte, qv_load, ld3, readN, List.getElem?_toArray, List.getElem?_cons_zero, List.getElem?_cons_succ, List.map_toArray, List.map_cons, List.map_nil, Option.map_some, Option.bind_some, Nat.zero_add, Nat.reduceAdd, e0, e1, e2, hB1.cell, hB2.cell, hB3.cell, hB7.cell, hC4_60, hg4_60, Bool.false_eq_true, Bool.true_eq_false, eq_self, if_true, if_false, true_and, and_true, false_and, and_false]; rfl) ?_
    refine WL.cq2 (t := 83) rfl (by simp only [ev_tmp, ev_const, ev_func, set_get, Nat.reduceEqDiff, reduceIte, e0, e1, e2, hB1.cell, hB2.cell, hB3.cell, hB7.cell]; rfl) (fun hC4_61 hg4_61 => by simp only [ev_tmp, ev_const, ev_func, set_get, Nat.reduceEqDiff, reduceIte, qv_binOp, binv_lss, e0, e1, e2, hB1.cell, hB2.cell, hB3.cell, hB7.cell, hC4_61, hg4_61, Bool.false_eq_true, Bool.true_eq_false, eq_self, if_true, if_false, true_and, and_true, false_and, and_false]; rfl) ?_
    refine WL.cq (gd_at (t := 75) rfl (by simp only [ev_tmp, ev_const, ev_func, set_get, Nat.reduceEqDiff, reduceIte, e0, e1, e2, hB1.cell, hB2.cell, hB3.cell, hB7.cell]; rfl)) (fun hg4_62 => by simp only [ev_tmp, ev_const, ev_func, set_get, Nat.reduceEqDiff, reduceIte, qv_pick, pk_and, pk_or, Bool.false_eq_true, Bool.true_eq_false, eq_self, if_true, if_false, true_and, and_true, false_and, and_false, e0, e1, e2, hB1.cell, hB2.cell, hB3.cell, hB7.cell, hg4_62, Bool.false_eq_true, Bool.true_eq_false, eq_self, if_true, if_false, true_and, and_true, false_and, and_false]; rfl) ?_
    refine WL.qq (by simp only [ev_tmp, ev_const, ev_func, set_get, Nat.reduceEqDiff, reduceIte, qv_pick, pk_and, pk_or, Bool.false_eq_true, Bool.true_eq_false, eq_self, if_true, if_false, true_and, and_true, false_and, and_false, e0, e1, e2, hB1.cell, hB2.cell, hB3.cell, hB7.cell]; rfl) ?_
    refine WL.qq (by simp only [ev_tmp, ev_const, ev_func, set_get, Nat.reduceEqDiff, reduceIte, qv_move, e0, e1, e2, hB1.cell, hB2.cell, hB3.cell, hB7.cell]; rfl) ?_
    refine WL.cq (gd_at (t := 93) rfl (by simp only [ev_tmp, ev_const, ev_func, set_get, Nat.reduceEqDiff, reduceIte, e0, e1, e2, hB1.cell, hB2.cell, hB3.cell, hB7.cell]; rfl)) (fun hg4_65 => by have hq0 := hg4_65; (try simp only [decide_eq_true_eq, decide_eq_false_iff_not, Bool.and_eq_true, Bool.and_eq_false_iff, Bool.or_eq_true, Bool.or_eq_false_iff, Bool.not_eq_true', Bool.not_eq_false', Bool.not_eq_true, Bool.not_eq_false] at hq0); simp only [ev_tmp, ev_const, ev_func, set_get, Nat.reduceEqDiff, reduceIte, qv_indexAddr, e0, e1, e2, hB1.cell, hB2.cell, hB3.cell, hB7.cell, hg4_65, Bool.false_eq_true, Bool.true_eq_false, eq_self, if_true, if_false, true_and, and_true, false_and, and_false]; (try simp (disch := omega) only [ix70, Int.toNat_natCast]); rfl) ?_
    refine WL.cq (gd_at (t := 93) rfl (by simp only [ev_tmp, ev_const, ev_func, set_get, Nat.reduceEqDiff, reduceIte, e0, e1, e2, hB1.cell, hB2.cell, hB3.cell, hB7.cell]; rfl)) (fun hg4_66 => by simp only [ev_tmp, ev_const, ev_func, set_get, Nat.reduceEqDiff, reduceIte, qv_fieldAddr, fa29_0, Nat.zero_add, Nat.reduceAdd, e0, e1, e2, hB1.cell, hB2.cell, hB3.cell, hB7.cell, hg4_66, Bool.false_eq_true, Bool.true_eq_false, eq_self, if_true, if_false, true_and, and_true, false_and, and_false]; rfl) ?_
    refine WL.cq (gd_at (t := 93) rfl (by simp only [ev_tmp, ev_const, ev_func, set_get, Nat.reduceEqDiff, reduceIte, e0, e1, e2, hB1.cell, hB2.cell, hB3.cell, hB7.cell]; rfl)) (fun hg4_67 => by simp only [ev_tmp, ev_const, ev_func, set_get, Nat.reduceEqDiff, reduceIte, qv_load, ld3, readN, List.getElem?_toArray, List.getElem?_cons_zero, List.getElem?_cons_succ, List.map_toArray, List.map_cons, List.map_nil, Option.map_some, Option.bind_some, Nat.zero_add, Nat.reduceAdd, e0, e1, e2, hB1.cell, hB2.cell, hB3.cell, hB7.cell, hg4_67, Bool.false_eq_true, Bool.true_eq_false, eq_self, if_true, if_false, true_and, and_true, false_and, and_false]; rfl) ?_
    refine WL.cq (gd_at (t := 93) rfl (by simp only [ev_tmp, ev_const, ev_func, set_get, Nat.reduceEqDiff, reduceIte, e0, e1, e2, hB1.cell, hB2.cell, hB3.cell, hB7.cell]; rfl)) (fun hg4_68 => by have hq0 := hg4_68; (try simp only [decide_eq_true_eq, decide_eq_false_iff_not, Bool.and_eq_true, Bool.and_eq_false_iff, Bool.or_eq_true, Bool.or_eq_false_iff, Bool.not_eq_true', Bool.not_eq_false', Bool.not_eq_true, Bool.not_eq_false] at hq0); simp only [ev_tmp, ev_const, ev_func, set_get, Nat.reduceEqDiff, reduceIte, qv_indexAddr, e0, e1, e2, hB1.cell, hB2.cell, hB3.cell, hB7.cell, hg4_68, Bool.false_eq_true, Bool.true_eq_false, eq_self, if_true, if_false, true_and, and_true, false_and, and_false]; (try simp (disch := omega) only [ix70, Int.toNat_natCast]); rfl) ?_
    refine WL.cq (gd_at (t := 93) rfl (by simp only [ev_tmp, ev_const, ev_func, set_get, Nat.reduceEqDiff, reduceIte, e0, e1, e2, hB1.cell, hB2.cell, hB3.cell, hB7.cell]; rfl)) (fun hg4_69 => by simp only [ev_tmp, ev_const, ev_func, set_get, Nat.reduceEqDiff, reduceIte, qv_fieldAddr, fa29_0, Nat.zero_add, Nat.reduceAdd, e0, e1, e2, hB1.cell, hB2.cell, hB3.cell, hB7.cell, hg4_69, Bool.false_eq_true, Bool.true_eq_false, eq_self, if_true, if_false, true_and, and_true, false_and, and_false]; rfl) ?_
    refine WL.cq (gd_at (t := 93) rfl (by simp only [ev_tmp, ev_const, ev_func, set_get, Nat.reduceEqDiff, reduceIte, e0, e1, e2, hB1.cell, hB2.cell, hB3.cell, hB7.cell]; rfl)) (fun hg4_70 => by simp only [ev_tmp, ev_const, ev_func, set_get, Nat.reduceEqDiff, reduceIte, qv_load, ld3, readN, List.getElem?_toArray, List.getElem?_cons_zero, List.getElem?_cons_succ, List.map_toArray, List.map_cons, List.map_nil, Option.map_some, Option.bind_some, Nat.zero_add, Nat.reduceAdd, e0, e1, e2, hB1.cell, hB2.cell, hB3.cell, hB7.cell, hg4_70, Bool.false_eq_true, Bool.true_eq_false, eq_self, if_true, if_false, true_and, and_true, false_and, and_false]; rfl) ?_
    refine WL.cq (gd_at (t := 93) rfl (by simp only [ev_tmp, ev_const, ev_func, set_get, Nat.reduceEqDiff, reduceIte, e0, e1, e2, hB1.cell, hB2.cell, hB3.cell, hB7.cell]; rfl)) (fun hg4_71 => by have hz : no = 0 := (by have h9 := hg4_71; simp only [Bool.or_eq_false_iff, Bool.not_eq_false', decide_eq_true_eq] at h9; exact h9.1.1.1.1); have h8 := hrg hz; simp only [ev_tmp, ev_const, ev_func, set_get, Nat.reduceEqDiff, reduceIte, e0, e1, e2, hB1.cell, hB2.cell, hB3.cell, hB7.cell, qv_binOp, binv_sub, Bool.false_eq_true, Bool.true_eq_false, eq_self, if_true, if_false, true_and, and_true, false_and, and_false, hg4_71]; rw [w64 (by omega) (by omega)]) ?_
    refine WL.cq (gd_at (t := 93) rfl (by simp only [ev_tmp, ev_const, ev_func, set_get, Nat.reduceEqDiff, reduceIte, e0, e1, e2, hB1.cell, hB2.cell, hB3.cell, hB7.cell]; rfl)) (fun hg4_72 => by simp only [ev_tmp, ev_const, ev_func, set_get, Nat.reduceEqDiff, reduceIte, qv_binOp, binv_gtr, e0, e1, e2, hB1.cell, hB2.cell, hB3.cell, hB7.cell, hg4_72, Bool.false_eq_true, Bool.true_eq_false, eq_self, if_true, if_false, true_and, and_true, false_and, and_false]; rfl) ?_
    refine WL.qq (by simp only [ev_tmp, ev_const, ev_func, set_get, Nat.reduceEqDiff, reduceIte, qv_pick, pk_and, pk_or, Bool.false_eq_true, Bool.true_eq_false, eq_self, if_true, if_false, true_and, and_true, false_and, and_false, e0, e1, e2, hB1.cell, hB2.cell, hB3.cell, hB7.cell]; rfl) ?_
    refine WL.nil ?_
    refine th_norm ?_
    refine hx_cond (by simp only [ev_tmp, ev_const, ev_func, set_get, Nat.reduceEqDiff, reduceIte, e0, e1, e2, hB1.cell, hB2.cell, hB3.cell, hB7.cell]; rfl) (fun hct102 => ?_) (fun hct102 => ?_)
    ·
      try simp only [decide_eq_true_eq, decide_eq_false_iff_not, Bool.and_eq_true, Bool.and_eq_false_iff, Bool.or_eq_true, Bool.or_eq_false_iff, Bool.not_eq_true', Bool.not_eq_false', Bool.not_eq_true, Bool.not_eq_false] at hct102
      refine hx_seq ?_
      refine hx_region ?_
      refine WL.qq (by simp only [ev_tmp, ev_const, ev_func, set_get, Nat.reduceEqDiff, reduceIte, qv_assign, e0, e1, e2, hB1.cell, hB2.cell, hB3.cell, hB7.cell]; rfl) ?_
      refine WL.nil ?_
      refine th_norm ?_
      refine hx_ret ?_
      refine th_ret ?_
      refine fin_ret [.tmp 6] rfl rfl (by simp only [ev_tmp, ev_const, ev_func, set_get, Nat.reduceEqDiff, reduceIte, resv, e0, e1, e2, hB1.cell, hB2.cell, hB3.cell, hB7.cell]; rfl) ?_  -- ret 1 r5
      exact ⟨rfl, ((hx1).trans ((hx2).trans ((hx3).trans ((hx4).trans ((hx5).trans ((hx7).trans (hx8)))))))⟩
    ·
      try simp only [decide_eq_true_eq, decide_eq_false_iff_not, Bool.and_eq_true, Bool.and_eq_false_iff, Bool.or_eq_true, Bool.or_eq_false_iff, Bool.not_eq_true', Bool.not_eq_false', Bool.not_eq_true, Bool.not_eq_false] at hct102
      have hz : no = 0 := (by simpa using hct102.1.1.1.1.1)
      have hrz := hrg hz
      have hf3 := fail3 (hno.trans hz)
      have hord : d * 1440 + m ≤ d' * 1440 + m' ∧ d' * 1440 + m' ≤ d2 * 1440 + m2 ∧ d2 - d ≤ 400 ∧ d ≤ d' ∧ d' ≤ d2 := by omega
      obtain ⟨M1, hM1⟩ : ∃ M, chgR (busM wk hol) [s0, s1, s2, s3, s4, s5] (d, m) (d', m') = M := ⟨_, rfl⟩
      obtain ⟨M2, hM2⟩ : ∃ M, chgR (busM wk hol) [s0, s1, s2, s3, s4, s5] (d', m') (d2, m2) = M := ⟨_, rfl⟩
      have hM3 : chgR (busM wk hol) [s0, s1, s2, s3, s4, s5] (d, m) (d2, m2) = M1 ++ M2 := by rw [← hM1, ← hM2]; exact (adj_list (hno.trans hz) hord.1 hord.2.1).symm
      have hl1 : M1.length ≤ 500000 := by rw [← hM1]; exact chgR_len _ _ _ _ (by simp only; omega) (by simp only; omega)
      have hl2 : M2.length ≤ 500000 := by rw [← hM2]; exact chgR_len _ _ _ _ (by simp only; omega) (by simp only; omega)
      have hC1 := chg_eq (a := ⟨p, 0, none⟩) (bus := busM wk (srt hol)) hf3.1 (by simp only; omega); rw [busM_srt, hM1] at hC1
      have hC2 := chg_eq (a := ⟨p, 0, none⟩) (bus := busM wk (srt hol)) hf3.2.1 (by simp only; omega); rw [busM_srt, hM2] at hC2
      have hC3 := chg_eq (a := ⟨p, 0, none⟩) (bus := busM wk (srt hol)) hf3.2.2.1 (by simp only; omega); rw [busM_srt, hM3] at hC3
      rw [← busM_srt] at hC1 hC2 hC3
      refine hx_skip ?_
      refine th_norm ?_
      refine hx_seq ?_
      refine hx_fresh (fun eF6 hfcf6 => ?_)
      have k3_f6 := hfcf6 3 rfl; simp only [ev_tmp, ev_const, ev_func, set_get, Nat.reduceEqDiff, reduceIte, e0, e1, e2, hB1.cell, hB2.cell, hB3.cell, hB7.cell] at k3_f6
      have k5_f6 := hfcf6 5 rfl; simp only [ev_tmp, ev_const, ev_func, set_get, Nat.reduceEqDiff, reduceIte, e0, e1, e2, hB1.cell, hB2.cell, hB3.cell, hB7.cell] at k5_f6
      have k6_f6 := hfcf6 6 rfl; simp only [ev_tmp, ev_const, ev_func, set_get, Nat.reduceEqDiff, reduceIte, e0, e1, e2, hB1.cell, hB2.cell, hB3.cell, hB7.cell] at k6_f6
      have k7_f6 := hfcf6 7 rfl; simp only [ev_tmp, ev_const, ev_func, set_get, Nat.reduceEqDiff, reduceIte, e0, e1, e2, hB1.cell, hB2.cell, hB3.cell, hB7.cell] at k7_f6
      refine hx_region ?_
      refine WL.qq (by simp only [ev_tmp, ev_const, ev_func, set_get, Nat.reduceEqDiff, reduceIte, qv_load, ld24, readN, List.getElem?_toArray, List.getElem?_cons_zero, List.getElem?_cons_succ, List.map_toArray, List.map_cons, List.map_nil, Option.map_some, Option.bind_some, Nat.zero_add, Nat.reduceAdd, k3_f6, k5_f6, k6_f6, k7_f6, hB1.cell, hB2.cell, hB3.cell, hB7.cell]; rfl) ?_
      refine WL.qq (by simp only [ev_tmp, ev_const, ev_func, set_get, Nat.reduceEqDiff, reduceIte, qv_indexAddr, k3_f6, k5_f6, k6_f6, k7_f6, hB1.cell, hB2.cell, hB3.cell, hB7.cell]; (try simp (disch := omega) only [ix70, Int.toNat_natCast]); rfl) ?_
      refine WL.qq (by simp only [ev_tmp, ev_const, ev_func, set_get, Nat.reduceEqDiff, reduceIte, qv_load, ld29, readN, List.getElem?_toArray, List.getElem?_cons_zero, List.getElem?_cons_succ, List.map_toArray, List.map_cons, List.map_nil, Option.map_some, Option.bind_some, Nat.zero_add, Nat.reduceAdd, k3_f6, k5_f6, k6_f6, k7_f6, hB1.cell, hB2.cell, hB3.cell, hB7.cell]; rfl) ?_
      refine WL.qq (by simp only [ev_tmp, ev_const, ev_func, set_get, Nat.reduceEqDiff, reduceIte, qv_indexAddr, k3_f6, k5_f6, k6_f6, k7_f6, hB1.cell, hB2.cell, hB3.cell, hB7.cell]; (try simp (disch := omega) only [ix70, Int.toNat_natCast]); rfl) ?_
      refine WL.qq (by simp only [ev_tmp, ev_const, ev_func, set_get, Nat.reduceEqDiff, reduceIte, qv_load, ld29, readN, List.getElem?_toArray, List.getElem?_cons_zero, List.getElem?_cons_succ, List.map_toArray, List.map_cons, List.map_nil, Option.map_some, Option.bind_some, Nat.zero_add, Nat.reduceAdd, k3_f6, k5_f6, k6_f6, k7_f6, hB1.cell, hB2.cell, hB3.cell, hB7.cell]; rfl) ?_
      refine WL.qq (by simp only [ev_tmp, ev_const, ev_func, set_get, Nat.reduceEqDiff, reduceIte, qv_move, k3_f6, k5_f6, k6_f6, k7_f6, hB1.cell, hB2.cell, hB3.cell, hB7.cell]; rfl) ?_
      obtain ⟨p2, hp2, hc⟩ := hq hb; cases hp2
      refine WL.ce Try.call25 (by simp only [ev_tmp, ev_const, ev_func, set_get, Nat.reduceEqDiff, reduceIte, List.getElem?_toArray, List.getElem?_cons_zero, List.getElem?_cons_succ, List.map_toArray, List.map_cons, List.map_nil, Option.map_some, Option.bind_some, k3_f6, k5_f6, k6_f6, k7_f6, hB1.cell, hB2.cell, hB3.cell, hB7.cell]; exact c_changesG s0 s1 s2 s3 s4 s5 d m d' m' _ wk (srt hol) hC1 (QCal.some hc)) ?_
      rintro _ h9 ⟨hx9, al1, cp1, rfl, hs1, hn1, hc1⟩
      replace hw := hw.ext hx9
      replace hh := hh.ext hx9
      replace hB1 := hB1.ext hx9
      replace hB2 := hB2.ext hx9
      replace hB3 := hB3.ext hx9
      replace hq := hq.ext hx9
      replace hB7 := hB7.ext hx9
      simp only [put_some]
      refine WL.qq (by simp only [ev_tmp, ev_const, ev_func, set_get, Nat.reduceEqDiff, reduceIte, qv_move, k3_f6, k5_f6, k6_f6, k7_f6, hB1.cell, hB2.cell, hB3.cell, hB7.cell]; rfl) ?_
      refine WL.qq (by simp only [ev_tmp, ev_const, ev_func, set_get, Nat.reduceEqDiff, reduceIte, qv_extract, List.getElem?_toArray, List.getElem?_cons_zero, List.getElem?_cons_succ, List.map_toArray, List.map_cons, List.map_nil, Option.map_some, Option.bind_some, k3_f6, k5_f6, k6_f6, k7_f6, hB1.cell, hB2.cell, hB3.cell, hB7.cell]; rfl) ?_
      refine WL.qq (by simp only [ev_tmp, ev_const, ev_func, set_get, Nat.reduceEqDiff, reduceIte, qv_extract, List.getElem?_toArray, List.getElem?_cons_zero, List.getElem?_cons_succ, List.map_toArray, List.map_cons, List.map_nil, Option.map_some, Option.bind_some, k3_f6, k5_f6, k6_f6, k7_f6, hB1.cell, hB2.cell, hB3.cell, hB7.cell]; rfl) ?_
      refine WL.qq (by simp only [ev_tmp, ev_const, ev_func, set_get, Nat.reduceEqDiff, reduceIte, qv_assign, k3_f6, k5_f6, k6_f6, k7_f6, hB1.cell, hB2.cell, hB3.cell, hB7.cell]; rfl) ?_
      refine WL.qq (by simp only [ev_tmp, ev_const, ev_func, set_get, Nat.reduceEqDiff, reduceIte, qv_assign, k3_f6, k5_f6, k6_f6, k7_f6, hB1.cell, hB2.cell, hB3.cell, hB7.cell]; rfl) ?_
      refine WL.nil ?_
      refine th_norm ?_
      refine hx_seq ?_
      refine hx_region ?_
      refine WL.qq (by simp only [ev_tmp, ev_const, ev_func, set_get, Nat.reduceEqDiff, reduceIte, qv_load, ld24, readN, List.getElem?_toArray, List.getElem?_cons_zero, List.getElem?_cons_succ, List.map_toArray, List.map_cons, List.map_nil, Option.map_some, Option.bind_some, Nat.zero_add, Nat.reduceAdd, k3_f6, k5_f6, k6_f6, k7_f6, hB1.cell, hB2.cell, hB3.cell, hB7.cell]; rfl) ?_
      refine WL.qq (by simp only [ev_tmp, ev_const, ev_func, set_get, Nat.reduceEqDiff, reduceIte, qv_indexAddr, k3_f6, k5_f6, k6_f6, k7_f6, hB1.cell, hB2.cell, hB3.cell, hB7.cell]; (try simp (disch := omega) only [ix70, Int.toNat_natCast]); rfl) ?_
      refine WL.qq (by simp only [ev_tmp, ev_const, ev_func, set_get, Nat.reduceEqDiff, reduceIte, qv_load, ld29, readN, List.getElem?_toArray, List.getElem?_cons_zero, List.getElem?_cons_succ, List.map_toArray, List.map_cons, List.map_nil, Option.map_some, Option.bind_some, Nat.zero_add, Nat.reduceAdd, k3_f6, k5_f6, k6_f6, k7_f6, hB1.cell, hB2.cell, hB3.cell, hB7.cell]; rfl) ?_
      refine WL.qq (by simp only [ev_tmp, ev_const, ev_func, set_get, Nat.reduceEqDiff, reduceIte, qv_indexAddr, k3_f6, k5_f6, k6_f6, k7_f6, hB1.cell, hB2.cell, hB3.cell, hB7.cell]; (try simp (disch := omega) only [ix70, Int.toNat_natCast]); rfl) ?_
      refine WL.qq (by simp only [ev_tmp, ev_const, ev_func, set_get, Nat.reduceEqDiff, reduceIte, qv_load, ld29, readN, List.getElem?_toArray, List.getElem?_cons_zero, List.getElem?_cons_succ, List.map_toArray, List.map_cons, List.map_nil, Option.map_some, Option.bind_some, Nat.zero_add, Nat.reduceAdd, k3_f6, k5_f6, k6_f6, k7_f6, hB1.cell, hB2.cell, hB3.cell, hB7.cell]; rfl) ?_
      refine WL.qq (by simp only [ev_tmp, ev_const, ev_func, set_get, Nat.reduceEqDiff, reduceIte, qv_move, k3_f6, k5_f6, k6_f6, k7_f6, hB1.cell, hB2.cell, hB3.cell, hB7.cell]; rfl) ?_
      obtain ⟨p2, hp2, hc⟩ := hq hb; cases hp2
      refine WL.ce Try.call25 (by simp only [ev_tmp, ev_const, ev_func, set_get, Nat.reduceEqDiff, reduceIte, List.getElem?_toArray, List.getElem?_cons_zero, List.getElem?_cons_succ, List.map_toArray, List.map_cons, List.map_nil, Option.map_some, Option.bind_some, k3_f6, k5_f6, k6_f6, k7_f6, hB1.cell, hB2.cell, hB3.cell, hB7.cell]; exact c_changesG s0 s1 s2 s3 s4 s5 d' m' d2 m2 _ wk (srt hol) hC2 (QCal.some hc)) ?_
      rintro _ h10 ⟨hx10, al2, cp2, rfl, hs2, hn2, hc2⟩
      replace hw := hw.ext hx10
      replace hh := hh.ext hx10
      replace hB1 := hB1.ext hx10
      replace hB2 := hB2.ext hx10
      replace hB3 := hB3.ext hx10
      replace hq := hq.ext hx10
      replace hB7 := hB7.ext hx10
      replace hs1 := hs1.ext hx10
      simp only [put_some]
      refine WL.qq (by simp only [ev_tmp, ev_const, ev_func, set_get, Nat.reduceEqDiff, reduceIte, qv_move, k3_f6, k5_f6, k6_f6, k7_f6, hB1.cell, hB2.cell, hB3.cell, hB7.cell]; rfl) ?_
      refine WL.qq (by simp only [ev_tmp, ev_const, ev_func, set_get, Nat.reduceEqDiff, reduceIte, qv_extract, List.getElem?_toArray, List.getElem?_cons_zero, List.getElem?_cons_succ, List.map_toArray, List.map_cons, List.map_nil, Option.map_some, Option.bind_some, k3_f6, k5_f6, k6_f6, k7_f6, hB1.cell, hB2.cell, hB3.cell, hB7.cell]; rfl) ?_
      refine WL.qq (by simp only [ev_tmp, ev_const, ev_func, set_get, Nat.reduceEqDiff, reduceIte, qv_extract, List.getElem?_toArray, List.getElem?_cons_zero, List.getElem?_cons_succ, List.map_toArray, List.map_cons, List.map_nil, Option.map_some, Option.bind_some, k3_f6, k5_f6, k6_f6, k7_f6, hB1.cell, hB2.cell, hB3.cell, hB7.cell]; rfl) ?_
      refine WL.qq (by simp only [ev_tmp, ev_const, ev_func, set_get, Nat.reduceEqDiff, reduceIte, qv_assign, k3_f6, k5_f6, k6_f6, k7_f6, hB1.cell, hB2.cell, hB3.cell, hB7.cell]; rfl) ?_
      refine WL.qq (by simp only [ev_tmp, ev_const, ev_func, set_get, Nat.reduceEqDiff, reduceIte, qv_assign, k3_f6, k5_f6, k6_f6, k7_f6, hB1.cell, hB2.cell, hB3.cell, hB7.cell]; rfl) ?_
      refine WL.nil ?_
      refine th_norm ?_
      refine hx_seq ?_
      refine hx_region ?_
      refine WL.qq (by simp only [ev_tmp, ev_const, ev_func, set_get, Nat.reduceEqDiff, reduceIte, qv_load, ld24, readN, List.getElem?_toArray, List.getElem?_cons_zero, List.getElem?_cons_succ, List.map_toArray, List.map_cons, List.map_nil, Option.map_some, Option.bind_some, Nat.zero_add, Nat.reduceAdd, k3_f6, k5_f6, k6_f6, k7_f6, hB1.cell, hB2.cell, hB3.cell, hB7.cell]; rfl) ?_
      refine WL.qq (by simp only [ev_tmp, ev_const, ev_func, set_get, Nat.reduceEqDiff, reduceIte, qv_indexAddr, k3_f6, k5_f6, k6_f6, k7_f6, hB1.cell, hB2.cell, hB3.cell, hB7.cell]; (try simp (disch := omega) only [ix70, Int.toNat_natCast]); rfl) ?_
      refine WL.qq (by simp only [ev_tmp, ev_const, ev_func, set_get, Nat.reduceEqDiff, reduceIte, qv_load, ld29, readN, List.getElem?_toArray, List.getElem?_cons_zero, List.getElem?_cons_succ, List.map_toArray, List.map_cons, List.map_nil, Option.map_some, Option.bind_some, Nat.zero_add, Nat.reduceAdd, k3_f6, k5_f6, k6_f6, k7_f6, hB1.cell, hB2.cell, hB3.cell, hB7.cell]; rfl) ?_
      refine WL.qq (by simp only [ev_tmp, ev_const, ev_func, set_get, Nat.reduceEqDiff, reduceIte, qv_indexAddr, k3_f6, k5_f6, k6_f6, k7_f6, hB1.cell, hB2.cell, hB3.cell, hB7.cell]; (try simp (disch := omega) only [ix70, Int.toNat_natCast]); rfl) ?_
      refine WL.qq (by simp only [ev_tmp, ev_const, ev_func, set_get, Nat.reduceEqDiff, reduceIte, qv_load, ld29, readN, List.getElem?_toArray, List.getElem?_cons_zero, List.getElem?_cons_succ, List.map_toArray, List.map_cons, List.map_nil, Option.map_some, Option.bind_some, Nat.zero_add, Nat.reduceAdd, k3_f6, k5_f6, k6_f6, k7_f6, hB1.cell, hB2.cell, hB3.cell, hB7.cell]; rfl) ?_
      refine WL.qq (by simp only [ev_tmp, ev_const, ev_func, set_get, Nat.reduceEqDiff, reduceIte, qv_move, k3_f6, k5_f6, k6_f6, k7_f6, hB1.cell, hB2.cell, hB3.cell, hB7.cell]; rfl) ?_
      obtain ⟨p2, hp2, hc⟩ := hq hb; cases hp2
      refine WL.ce Try.call25 (by simp only [ev_tmp, ev_const, ev_func, set_get, Nat.reduceEqDiff, reduceIte, List.getElem?_toArray, List.getElem?_cons_zero, List.getElem?_cons_succ, List.map_toArray, List.map_cons, List.map_nil, Option.map_some, Option.bind_some, k3_f6, k5_f6, k6_f6, k7_f6, hB1.cell, hB2.cell, hB3.cell, hB7.cell]; exact c_changesG s0 s1 s2 s3 s4 s5 d m d2 m2 _ wk (srt hol) hC3 (QCal.some hc)) ?_
      rintro _ h11 ⟨hx11, al3, cp3, rfl, hs3, hn3, hc3⟩
      replace hw := hw.ext hx11
      replace hh := hh.ext hx11
      replace hB1 := hB1.ext hx11
      replace hB2 := hB2.ext hx11
      replace hB3 := hB3.ext hx11
      replace hq := hq.ext hx11
      replace hB7 := hB7.ext hx11
      replace hs1 := hs1.ext hx11
      replace hs2 := hs2.ext hx11
      simp only [put_some]
      refine WL.qq (by simp only [ev_tmp, ev_const, ev_func, set_get, Nat.reduceEqDiff, reduceIte, qv_move, k3_f6, k5_f6, k6_f6, k7_f6, hB1.cell, hB2.cell, hB3.cell, hB7.cell]; rfl) ?_
      refine WL.qq (by simp only [ev_tmp, ev_const, ev_func, set_get, Nat.reduceEqDiff, reduceIte, qv_extract, List.getElem?_toArray, List.getElem?_cons_zero, List.getElem?_cons_succ, List.map_toArray, List.map_cons, List.map_nil, Option.map_some, Option.bind_some, k3_f6, k5_f6, k6_f6, k7_f6, hB1.cell, hB2.cell, hB3.cell, hB7.cell]; rfl) ?_
      refine WL.qq (by simp only [ev_tmp, ev_const, ev_func, set_get, Nat.reduceEqDiff, reduceIte, qv_extract, List.getElem?_toArray, List.getElem?_cons_zero, List.getElem?_cons_succ, List.map_toArray, List.map_cons, List.map_nil, Option.map_some, Option.bind_some, k3_f6, k5_f6, k6_f6, k7_f6, hB1.cell, hB2.cell, hB3.cell, hB7.cell]; rfl) ?_
      refine WL.qq (by simp only [ev_tmp, ev_const, ev_func, set_get, Nat.reduceEqDiff, reduceIte, qv_assign, k3_f6, k5_f6, k6_f6, k7_f6, hB1.cell, hB2.cell, hB3.cell, hB7.cell]; rfl) ?_
      refine WL.qq (by simp only [ev_tmp, ev_const, ev_func, set_get, Nat.reduceEqDiff, reduceIte, qv_assign, k3_f6, k5_f6, k6_f6, k7_f6, hB1.cell, hB2.cell, hB3.cell, hB7.cell]; rfl) ?_
      refine WL.nil ?_
      refine th_norm ?_
      refine hx_seq ?_
      refine hx_seq ?_
      refine hx_region ?_
      refine WL.qq (by simp only [ev_tmp, ev_const, ev_func, set_get, Nat.reduceEqDiff, reduceIte, qv_move, k3_f6, k5_f6, k6_f6, k7_f6, hB1.cell, hB2.cell, hB3.cell, hB7.cell]; rfl) ?_
      refine WL.qq (by simp only [ev_tmp, ev_const, ev_func, set_get, Nat.reduceEqDiff, reduceIte, qv_binOp, binv_neq, eq34, Option.map_some, k3_f6, k5_f6, k6_f6, k7_f6, hB1.cell, hB2.cell, hB3.cell, hB7.cell]; rfl) ?_
      refine WL.qq (by simp only [ev_tmp, ev_const, ev_func, set_get, Nat.reduceEqDiff, reduceIte, qv_move, k3_f6, k5_f6, k6_f6, k7_f6, hB1.cell, hB2.cell, hB3.cell, hB7.cell]; rfl) ?_
      refine WL.cq (gd_at (t := 135) rfl (by simp only [ev_tmp, ev_const, ev_func, set_get, Nat.reduceEqDiff, reduceIte, k3_f6, k5_f6, k6_f6, k7_f6, hB1.cell, hB2.cell, hB3.cell, hB7.cell]; rfl)) (fun hg9_3 => by simp only [ev_tmp, ev_const, ev_func, set_get, Nat.reduceEqDiff, reduceIte, qv_move, k3_f6, k5_f6, k6_f6, k7_f6, hB1.cell, hB2.cell, hB3.cell, hB7.cell, hg9_3, Bool.false_eq_true, Bool.true_eq_false, eq_self, if_true, if_false, true_and, and_true, false_and, and_false]; rfl) ?_
      refine WL.cq (gd_at (t := 135) rfl (by simp only [ev_tmp, ev_const, ev_func, set_get, Nat.reduceEqDiff, reduceIte, k3_f6, k5_f6, k6_f6, k7_f6, hB1.cell, hB2.cell, hB3.cell, hB7.cell]; rfl)) (fun hg9_4 => by simp only [ev_tmp, ev_const, ev_func, set_get, Nat.reduceEqDiff, reduceIte, qv_binOp, binv_neq, eq34, Option.map_some, k3_f6, k5_f6, k6_f6, k7_f6, hB1.cell, hB2.cell, hB3.cell, hB7.cell, hg9_4, Bool.false_eq_true, Bool.true_eq_false, eq_self, if_true, if_false, true_and, and_true, false_and, and_false]; rfl) ?_
      refine WL.qq (by simp only [ev_tmp, ev_const, ev_func, set_get, Nat.reduceEqDiff, reduceIte, qv_pick, pk_and, pk_or, Bool.false_eq_true, Bool.true_eq_false, eq_self, if_true, if_false, true_and, and_true, false_and, and_false, k3_f6, k5_f6, k6_f6, k7_f6, hB1.cell, hB2.cell, hB3.cell, hB7.cell]; rfl) ?_
      refine WL.qq (by simp only [ev_tmp, ev_const, ev_func, set_get, Nat.reduceEqDiff, reduceIte, qv_move, k3_f6, k5_f6, k6_f6, k7_f6, hB1.cell, hB2.cell, hB3.cell, hB7.cell]; rfl) ?_
      refine WL.cq (gd_at (t := 139) rfl (by simp only [ev_tmp, ev_const, ev_func, set_get, Nat.reduceEqDiff, reduceIte, k3_f6, k5_f6, k6_f6, k7_f6, hB1.cell, hB2.cell, hB3.cell, hB7.cell]; rfl)) (fun hg9_7 => by simp only [ev_tmp, ev_const, ev_func, set_get, Nat.reduceEqDiff, reduceIte, qv_move, k3_f6, k5_f6, k6_f6, k7_f6, hB1.cell, hB2.cell, hB3.cell, hB7.cell, hg9_7, Bool.false_eq_true, Bool.true_eq_false, eq_self, if_true, if_false, true_and, and_true, false_and, and_false]; rfl) ?_
      refine WL.cq (gd_at (t := 139) rfl (by simp only [ev_tmp, ev_const, ev_func, set_get, Nat.reduceEqDiff, reduceIte, k3_f6, k5_f6, k6_f6, k7_f6, hB1.cell, hB2.cell, hB3.cell, hB7.cell]; rfl)) (fun hg9_8 => by simp only [ev_tmp, ev_const, ev_func, set_get, Nat.reduceEqDiff, reduceIte, qv_binOp, binv_neq, eq34, Option.map_some, k3_f6, k5_f6, k6_f6, k7_f6, hB1.cell, hB2.cell, hB3.cell, hB7.cell, hg9_8, Bool.false_eq_true, Bool.true_eq_false, eq_self, if_true, if_false, true_and, and_true, false_and, and_false]; rfl) ?_
      refine WL.qq (by simp only [ev_tmp, ev_const, ev_func, set_get, Nat.reduceEqDiff, reduceIte, qv_pick, pk_and, pk_or, Bool.false_eq_true, Bool.true_eq_false, eq_self, if_true, if_false, true_and, and_true, false_and, and_false, k3_f6, k5_f6, k6_f6, k7_f6, hB1.cell, hB2.cell, hB3.cell, hB7.cell]; rfl) ?_
      refine WL.qq (by simp only [ev_tmp, ev_const, ev_func, set_get, Nat.reduceEqDiff, reduceIte, qv_move, k3_f6, k5_f6, k6_f6, k7_f6, hB1.cell, hB2.cell, hB3.cell, hB7.cell]; rfl) ?_
      refine WL.cq (gd_at (t := 143) rfl (by simp only [ev_tmp, ev_const, ev_func, set_get, Nat.reduceEqDiff, reduceIte, k3_f6, k5_f6, k6_f6, k7_f6, hB1.cell, hB2.cell, hB3.cell, hB7.cell]; rfl)) (fun hg9_11 => by simp only [ev_tmp, ev_const, ev_func, set_get, Nat.reduceEqDiff, reduceIte, qv_move, k3_f6, k5_f6, k6_f6, k7_f6, hB1.cell, hB2.cell, hB3.cell, hB7.cell, hg9_11, Bool.false_eq_true, Bool.true_eq_false, eq_self, if_true, if_false, true_and, and_true, false_and, and_false]; rfl) ?_
      refine WL.cq (gd_at (t := 143) rfl (by simp only [ev_tmp, ev_const, ev_func, set_get, Nat.reduceEqDiff, reduceIte, k3_f6, k5_f6, k6_f6, k7_f6, hB1.cell, hB2.cell, hB3.cell, hB7.cell]; rfl)) (fun hg9_12 => by simp only [ev_tmp, ev_const, ev_func, set_get, Nat.reduceEqDiff, reduceIte, qv_len, ln55, List.getElem?_toArray, List.getElem?_cons_zero, List.getElem?_cons_succ, List.map_toArray, List.map_cons, List.map_nil, Option.map_some, Option.bind_some, k3_f6, k5_f6, k6_f6, k7_f6, hB1.cell, hB2.cell, hB3.cell, hB7.cell, hg9_12, Bool.false_eq_true, Bool.true_eq_false, eq_self, if_true, if_false, true_and, and_true, false_and, and_false]; rfl) ?_
      refine WL.cq (gd_at (t := 143) rfl (by simp only [ev_tmp, ev_const, ev_func, set_get, Nat.reduceEqDiff, reduceIte, k3_f6, k5_f6, k6_f6, k7_f6, hB1.cell, hB2.cell, hB3.cell, hB7.cell]; rfl)) (fun hg9_13 => by simp only [ev_tmp, ev_const, ev_func, set_get, Nat.reduceEqDiff, reduceIte, qv_move, k3_f6, k5_f6, k6_f6, k7_f6, hB1.cell, hB2.cell, hB3.cell, hB7.cell, hg9_13, Bool.false_eq_true, Bool.true_eq_false, eq_self, if_true, if_false, true_and, and_true, false_and, and_false]; rfl) ?_
      refine WL.cq (gd_at (t := 143) rfl (by simp only [ev_tmp, ev_const, ev_func, set_get, Nat.reduceEqDiff, reduceIte, k3_f6, k5_f6, k6_f6, k7_f6, hB1.cell, hB2.cell, hB3.cell, hB7.cell]; rfl)) (fun hg9_14 => by simp only [ev_tmp, ev_const, ev_func, set_get, Nat.reduceEqDiff, reduceIte, qv_len, ln55, List.getElem?_toArray, List.getElem?_cons_zero, List.getElem?_cons_succ, List.map_toArray, List.map_cons, List.map_nil, Option.map_some, Option.bind_some, k3_f6, k5_f6, k6_f6, k7_f6, hB1.cell, hB2.cell, hB3.cell, hB7.cell, hg9_14, Bool.false_eq_true, Bool.true_eq_false, eq_self, if_true, if_false, true_and, and_true, false_and, and_false]; rfl) ?_
      refine WL.cq (gd_at (t := 143) rfl (by simp only [ev_tmp, ev_const, ev_func, set_get, Nat.reduceEqDiff, reduceIte, k3_f6, k5_f6, k6_f6, k7_f6, hB1.cell, hB2.cell, hB3.cell, hB7.cell]; rfl)) (fun hg9_15 => by simp only [ev_tmp, ev_const, ev_func, set_get, Nat.reduceEqDiff, reduceIte, qv_move, k3_f6, k5_f6, k6_f6, k7_f6, hB1.cell, hB2.cell, hB3.cell, hB7.cell, hg9_15, Bool.false_eq_true, Bool.true_eq_false, eq_self, if_true, if_false, true_and, and_true, false_and, and_false]; rfl) ?_
      refine WL.cq (gd_at (t := 143) rfl (by simp only [ev_tmp, ev_const, ev_func, set_get, Nat.reduceEqDiff, reduceIte, k3_f6, k5_f6, k6_f6, k7_f6, hB1.cell, hB2.cell, hB3.cell, hB7.cell]; rfl)) (fun hg9_16 => by simp only [ev_tmp, ev_const, ev_func, set_get, Nat.reduceEqDiff, reduceIte, qv_len, ln55, List.getElem?_toArray, List.getElem?_cons_zero, List.getElem?_cons_succ, List.map_toArray, List.map_cons, List.map_nil, Option.map_some, Option.bind_some, k3_f6, k5_f6, k6_f6, k7_f6, hB1.cell, hB2.cell, hB3.cell, hB7.cell, hg9_16, Bool.false_eq_true, Bool.true_eq_false, eq_self, if_true, if_false, true_and, and_true, false_and, and_false]; rfl) ?_
      refine WL.cq (gd_at (t := 143) rfl (by simp only [ev_tmp, ev_const, ev_func, set_get, Nat.reduceEqDiff, reduceIte, k3_f6, k5_f6, k6_f6, k7_f6, hB1.cell, hB2.cell, hB3.cell, hB7.cell]; rfl)) (fun hg9_17 => by have hq0 := hg9_17; (try simp only [decide_eq_true_eq, decide_eq_false_iff_not, Bool.and_eq_true, Bool.and_eq_false_iff, Bool.or_eq_true, Bool.or_eq_false_iff, Bool.not_eq_true', Bool.not_eq_false', Bool.not_eq_true, Bool.not_eq_false] at hq0); simp only [ev_tmp, ev_const, ev_func, set_get, Nat.reduceEqDiff, reduceIte, qv_binOp, binv_add, k3_f6, k5_f6, k6_f6, k7_f6, hB1.cell, hB2.cell, hB3.cell, hB7.cell, hg9_17, Bool.false_eq_true, Bool.true_eq_false, eq_self, if_true, if_false, true_and, and_true, false_and, and_false]; (try simp (disch := omega) only [w64, w8, wu64]); rfl) ?_
      have hlen : (((M1 ++ M2).length : Nat) : Int) = M1.length + M2.length := by rw [List.length_append]; omega
      obtain ⟨hP, hPe⟩ : ∃ x : Heap, x = h11 := ⟨_, rfl⟩
      have hEP : Ext hP h11 := hPe ▸ Ext.refl _
      have hE0 : Ext h hP := hPe ▸ ((hx1).trans ((hx2).trans ((hx3).trans ((hx4).trans ((hx5).trans ((hx7).trans ((hx8).trans ((hx9).trans ((hx10).trans (hx11))))))))))
      have ks1 := hs1; have ks2 := hs2; have ks3 := hs3; rw [← hPe] at ks1 ks2 ks3
      refine WL.cq (gd_at (t := 143) rfl (by simp only [ev_tmp, ev_const, ev_func, set_get, Nat.reduceEqDiff, reduceIte, k3_f6, k5_f6, k6_f6, k7_f6, hB1.cell, hB2.cell, hB3.cell, hB7.cell]; rfl)) (fun hg9_18 => by simp only [ev_tmp, ev_const, ev_func, set_get, Nat.reduceEqDiff, reduceIte, qv_binOp, binv_neq, eq3, Option.map_some, k3_f6, k5_f6, k6_f6, k7_f6, hB1.cell, hB2.cell, hB3.cell, hB7.cell, hg9_18, Bool.false_eq_true, Bool.true_eq_false, eq_self, if_true, if_false, true_and, and_true, false_and, and_false]; rfl) ?_
      refine WL.qq (by simp only [ev_tmp, ev_const, ev_func, set_get, Nat.reduceEqDiff, reduceIte, qv_pick, pk_and, pk_or, Bool.false_eq_true, Bool.true_eq_false, eq_self, if_true, if_false, true_and, and_true, false_and, and_false, k3_f6, k5_f6, k6_f6, k7_f6, hB1.cell, hB2.cell, hB3.cell, hB7.cell]; rfl) ?_
      refine WL.nil ?_
      refine th_norm ?_
      refine hx_cond (by simp only [ev_tmp, ev_const, ev_func, set_get, Nat.reduceEqDiff, reduceIte, k3_f6, k5_f6, k6_f6, k7_f6, hB1.cell, hB2.cell, hB3.cell, hB7.cell]; rfl) (fun hct152 => ?_) (fun hct152 => ?_)
      ·
        simp [hlen] at hct152
      ·
        try simp only [decide_eq_true_eq, decide_eq_false_iff_not, Bool.and_eq_true, Bool.and_eq_false_iff, Bool.or_eq_true, Bool.or_eq_false_iff, Bool.not_eq_true', Bool.not_eq_false', Bool.not_eq_true, Bool.not_eq_false] at hct152
        refine hx_skip ?_
        refine th_norm ?_
        refine hx_seq ?_
        refine hx_region ?_
        refine WL.lit0 Try.underlying55 sz61 ?_
        intro h12 B12 hx12 hlt12 hB12
        replace hw := hw.ext hx12
        replace hh := hh.ext hx12
        replace hB1 := hB1.ext hx12
        replace hB2 := hB2.ext hx12
        replace hB3 := hB3.ext hx12
        replace hq := hq.ext hx12
        replace hB7 := hB7.ext hx12
        replace hs1 := hs1.ext hx12
        replace hs2 := hs2.ext hx12
        replace hs3 := hs3.ext hx12
        replace hEP := hEP.ext hx12
        refine WL.qq (by simp only [ev_tmp, ev_const, ev_func, set_get, Nat.reduceEqDiff, reduceIte, qv_move, k3_f6, k5_f6, k6_f6, k7_f6, hB1.cell, hB2.cell, hB3.cell, hB7.cell]; rfl) ?_
        have hO0 : Own h12 hP.size 61 3 (.slice (some ⟨B12, 0, none⟩) 0 0) 0 [] := Own.lit0 hB12 (by rw [hPe]; exact hlt12)
        refine WL.appG (sz := 3) (f := chgL) (L := M1) (bytes := 24) Try.underlying55 (inf_of Try.type61) rfl rfl rfl rfl (by decide) (fun _ => rfl) (fun x u hu => by simp only [chgL, List.mem_cons, List.mem_nil_iff, or_false] at hu; rcases hu with rfl | rfl | rfl <;> rfl) (by simp only [ev_tmp, ev_const, ev_func, set_get, Nat.reduceEqDiff, reduceIte, k3_f6, k5_f6, k6_f6, k7_f6, hB1.cell, hB2.cell, hB3.cell, hB7.cell]) hO0 (by simp only [ev_tmp, ev_const, ev_func, set_get, Nat.reduceEqDiff, reduceIte, k3_f6, k5_f6, k6_f6, k7_f6, hB1.cell, hB2.cell, hB3.cell, hB7.cell]) rfl hn1 hs1 (by simp only [maxLen]; omega) (by omega) hEP.size ?_
        intro h40 v40 ho40 hg40 hp40 hz40
        have hE40 := hg40.ext hEP (fun c hc => (hO0.block c hc).1)
        have hs2' := ks2.ext hE40
        refine WL.qq (by simp only [ev_tmp, ev_const, ev_func, set_get, Nat.reduceEqDiff, reduceIte, qv_move, k3_f6, k5_f6, k6_f6, k7_f6, hB1.cell, hB2.cell, hB3.cell, hB7.cell]; rfl) ?_
        refine WL.appG (sz := 3) (f := chgL) (L := M2) (bytes := 24) Try.underlying55 (inf_of Try.type61) rfl rfl rfl rfl (by decide) (fun _ => rfl) (fun x u hu => by simp only [chgL, List.mem_cons, List.mem_nil_iff, or_false] at hu; rcases hu with rfl | rfl | rfl <;> rfl) (by simp only [ev_tmp, ev_const, ev_func, set_get, Nat.reduceEqDiff, reduceIte, k3_f6, k5_f6, k6_f6, k7_f6, hB1.cell, hB2.cell, hB3.cell, hB7.cell]) ho40 (by simp only [ev_tmp, ev_const, ev_func, set_get, Nat.reduceEqDiff, reduceIte, k3_f6, k5_f6, k6_f6, k7_f6, hB1.cell, hB2.cell, hB3.cell, hB7.cell]) rfl hn2 hs2' (by simp only [maxLen]; omega) (by omega) hE40.size ?_
        intro h41 v41 ho41 hg41 hp41 hz41
        have hE41 := hg41.ext hE40 (fun c hc => (ho40.block c hc).1)
        replace hs3 := ks3.ext hE41
        have hs4 : ∃ a4 cp4, v41 = .slice a4 (M1 ++ M2).length cp4 ∧ SlG 3 chgL h41 a4 (M1 ++ M2) := by have hq9 := Own.slG (f := chgL) (sz := 3) (L := M1 ++ M2) (fun _ => rfl) (by rw [List.flatMap_append]; simpa using ho41) (by simp); obtain ⟨a4, cp4, e4, _, s4, _⟩ := hq9; exact ⟨a4, cp4, e4, s4⟩
        obtain ⟨a4, cp4, rfl, hs4⟩ := hs4
        refine WL.qq (by simp only [ev_tmp, ev_const, ev_func, set_get, Nat.reduceEqDiff, reduceIte, qv_assign, k3_f6, k5_f6, k6_f6, k7_f6, hB1.cell, hB2.cell, hB3.cell, hB7.cell]; rfl) ?_
        refine WL.nil ?_
        refine th_norm ?_
        refine hx_seq ?_
        refine hx_seq ?_
        refine hx_region ?_
        refine WL.qq (by simp only [ev_tmp, ev_const, ev_func, set_get, Nat.reduceEqDiff, reduceIte, qv_assign, k3_f6, k5_f6, k6_f6, k7_f6, hB1.cell, hB2.cell, hB3.cell, hB7.cell]; rfl) ?_
        refine WL.nil ?_
        refine th_norm ?_
        refine hx_block ?_
        refine hx_loopS [6, 16, 158, 159, 160, 161, 162, 163, 164, 165, 166, 167, 168, 169, 170, 171, 172] (fun k e => ∃ (i : Nat), (M1 ++ M2).length - i = k ∧ (i ≤ (M1 ++ M2).length) ∧ e 16 = .int .i64 i) _ ⟨0, rfl, ?_, ?_⟩ ?_
        · omega
        · simp only [ev_tmp, ev_const, ev_func, set_get, Nat.reduceEqDiff, reduceIte, k3_f6, k5_f6, k6_f6, k7_f6, hB1.cell, hB2.cell, hB3.cell, hB7.cell] <;> rfl
        ·
          rintro k e0L hfr0 ⟨i, rfl, hi, i16_0⟩
          have k13_0 := hfr0 13 rfl; simp only [ev_tmp, ev_const, ev_func, set_get, Nat.reduceEqDiff, reduceIte, k3_f6, k5_f6, k6_f6, k7_f6, hB1.cell, hB2.cell, hB3.cell, hB7.cell] at k13_0
          have k15_0 := hfr0 15 rfl; simp only [ev_tmp, ev_const, ev_func, set_get, Nat.reduceEqDiff, reduceIte, k3_f6, k5_f6, k6_f6, k7_f6, hB1.cell, hB2.cell, hB3.cell, hB7.cell] at k15_0
          refine hx_seq ?_
          refine hx_seq ?_
          refine hx_region ?_
          refine WL.qq (by simp only [ev_tmp, ev_const, ev_func, set_get, Nat.reduceEqDiff, reduceIte, qv_move, k13_0, k15_0, i16_0, hB1.cell, hB2.cell, hB3.cell, hB7.cell]; rfl) ?_
          refine WL.qq (by simp only [ev_tmp, ev_const, ev_func, set_get, Nat.reduceEqDiff, reduceIte, qv_move, k13_0, k15_0, i16_0, hB1.cell, hB2.cell, hB3.cell, hB7.cell]; rfl) ?_
          refine WL.qq (by simp only [ev_tmp, ev_const, ev_func, set_get, Nat.reduceEqDiff, reduceIte, qv_len, ln55, List.getElem?_toArray, List.getElem?_cons_zero, List.getElem?_cons_succ, List.map_toArray, List.map_cons, List.map_nil, Option.map_some, Option.bind_some, k13_0, k15_0, i16_0, hB1.cell, hB2.cell, hB3.cell, hB7.cell]; rfl) ?_
          refine WL.qq (by simp only [ev_tmp, ev_const, ev_func, set_get, Nat.reduceEqDiff, reduceIte, qv_binOp, binv_lss, k13_0, k15_0, i16_0, hB1.cell, hB2.cell, hB3.cell, hB7.cell]; rfl) ?_
          refine WL.nil ?_
          refine th_norm ?_
          refine hx_cond (by simp only [ev_tmp, ev_const, ev_func, set_get, Nat.reduceEqDiff, reduceIte, k13_0, k15_0, i16_0, hB1.cell, hB2.cell, hB3.cell, hB7.cell]; rfl) (fun hct161 => ?_) (fun hct161 => ?_)
          ·
            try simp only [decide_eq_true_eq, decide_eq_false_iff_not, Bool.and_eq_true, Bool.and_eq_false_iff, Bool.or_eq_true, Bool.or_eq_false_iff, Bool.not_eq_true', Bool.not_eq_false', Bool.not_eq_true, Bool.not_eq_false] at hct161
            obtain ⟨y, hy⟩ : ∃ y, (M1 ++ M2)[i]? = some y := ⟨(M1 ++ M2)[i]'(by omega), by simp⟩
            obtain ⟨b1, o1, rfl, hr1⟩ := hs3 i y hy
            obtain ⟨b2, o2, rfl, hr2⟩ := hs4 i y hy
            refine hx_skip ?_
            refine th_norm ?_
            refine hx_seq ?_
            refine hx_block ?_
            refine hx_seq ?_
            apply hx_draw2 Rel.same [] [] [] rfl (by decide +kernel) rfl
            refine LD.qq rfl rfl (by simp only [ev_tmp, ev_const, ev_func, set_get, Nat.reduceEqDiff, reduceIte, qv_move, k13_0, k15_0, i16_0, hB1.cell, hB2.cell, hB3.cell, hB7.cell]; rfl) ?_
            refine LD.qq rfl rfl (by simp only [ev_tmp, ev_const, ev_func, set_get, Nat.reduceEqDiff, reduceIte, qv_move, k13_0, k15_0, i16_0, hB1.cell, hB2.cell, hB3.cell, hB7.cell]; rfl) ?_
            refine LD.qq rfl rfl (by simp only [ev_tmp, ev_const, ev_func, set_get, Nat.reduceEqDiff, reduceIte, qv_indexAddr, k13_0, k15_0, i16_0, hB1.cell, hB2.cell, hB3.cell, hB7.cell]; (try simp (disch := omega) only [ix55, Int.toNat_natCast]); rfl) ?_
            refine LD.qq rfl rfl (by simp only [ev_tmp, ev_const, ev_func, set_get, Nat.reduceEqDiff, reduceIte, k13_0, k15_0, i16_0, hB1.cell, hB2.cell, hB3.cell, hB7.cell, qv_load, ld61, Int.toNat_natCast, hr1]; rfl) ?_
            refine LD.qq rfl rfl (by simp only [ev_tmp, ev_const, ev_func, set_get, Nat.reduceEqDiff, reduceIte, qv_move, k13_0, k15_0, i16_0, hB1.cell, hB2.cell, hB3.cell, hB7.cell]; rfl) ?_
            refine LD.qq rfl rfl (by simp only [ev_tmp, ev_const, ev_func, set_get, Nat.reduceEqDiff, reduceIte, qv_move, k13_0, k15_0, i16_0, hB1.cell, hB2.cell, hB3.cell, hB7.cell]; rfl) ?_
            refine LD.qq rfl rfl (by simp only [ev_tmp, ev_const, ev_func, set_get, Nat.reduceEqDiff, reduceIte, qv_indexAddr, k13_0, k15_0, i16_0, hB1.cell, hB2.cell, hB3.cell, hB7.cell]; (try simp (disch := omega) only [ix55, Int.toNat_natCast]); rfl) ?_
            refine LD.qq rfl rfl (by simp only [ev_tmp, ev_const, ev_func, set_get, Nat.reduceEqDiff, reduceIte, k13_0, k15_0, i16_0, hB1.cell, hB2.cell, hB3.cell, hB7.cell, qv_load, ld61, Int.toNat_natCast, hr2]; rfl) ?_
            refine LD.qq rfl rfl (by simp only [ev_tmp, ev_const, ev_func, set_get, Nat.reduceEqDiff, reduceIte, qv_binOp, binv_neq, eqs61, Option.map_some, k13_0, k15_0, i16_0, hB1.cell, hB2.cell, hB3.cell, hB7.cell]; rfl) ?_
            refine LD.nil ?_
            rintro _ rfl -
            refine WL.nil ?_
            refine th_norm ?_
            refine hx_cond (by simp only [ev_tmp, ev_const, ev_func, set_get, Nat.reduceEqDiff, reduceIte, k13_0, k15_0, i16_0, hB1.cell, hB2.cell, hB3.cell, hB7.cell]; rfl) (fun hct172 => ?_) (fun hct172 => ?_)
            ·
              simp at hct172
            ·
              try simp only [decide_eq_true_eq, decide_eq_false_iff_not, Bool.and_eq_true, Bool.and_eq_false_iff, Bool.or_eq_true, Bool.or_eq_false_iff, Bool.not_eq_true', Bool.not_eq_false', Bool.not_eq_true, Bool.not_eq_false] at hct172
              refine hx_skip ?_
              refine bl_norm ?_
              refine th_norm ?_
              refine hx_region ?_
              refine WL.qq (by simp only [ev_tmp, ev_const, ev_func, set_get, Nat.reduceEqDiff, reduceIte, qv_move, k13_0, k15_0, i16_0, hB1.cell, hB2.cell, hB3.cell, hB7.cell]; rfl) ?_
              refine WL.qq (by simp only [ev_tmp, ev_const, ev_func, set_get, Nat.reduceEqDiff, reduceIte, qv_binOp, binv_add, k13_0, k15_0, i16_0, hB1.cell, hB2.cell, hB3.cell, hB7.cell]; (try simp (disch := omega) only [w64, w8, wu64]); rfl) ?_
              refine WL.qq (by simp only [ev_tmp, ev_const, ev_func, set_get, Nat.reduceEqDiff, reduceIte, qv_assign, k13_0, k15_0, i16_0, hB1.cell, hB2.cell, hB3.cell, hB7.cell]; rfl) ?_
              refine WL.nil ?_
              refine th_norm ?_
              refine ⟨rfl, rfl, ?_, _, ?_, i + 1, rfl, ?_, ?_⟩  -- again 0 of loop 0
              · (repeat (first | exact Fr.refl _ _ | refine Fr.set rfl ?_ | refine Fr.put rfl ?_ | refine Fr.put0 ?_ | refine Fr.trans ?_ (Fr.of hfcf6 rfl)))
              · omega
              · omega
              · simp only [ev_tmp, ev_const, ev_func, set_get, Nat.reduceEqDiff, reduceIte, k13_0, k15_0, i16_0, hB1.cell, hB2.cell, hB3.cell, hB7.cell] <;> first | rfl | (congr 1; omega)
          ·
            try simp only [decide_eq_true_eq, decide_eq_false_iff_not, Bool.and_eq_true, Bool.and_eq_false_iff, Bool.or_eq_true, Bool.or_eq_false_iff, Bool.not_eq_true', Bool.not_eq_false', Bool.not_eq_true, Bool.not_eq_false] at hct161
            refine hx_exit ?_
            refine th_exit ?_
            refine th_exit ?_
            refine bl_hit ?_
            refine th_norm ?_
            refine hx_seq ?_
            refine hx_region ?_
            refine WL.qq (by simp only [ev_tmp, ev_const, ev_func, set_get, Nat.reduceEqDiff, reduceIte, qv_assign, k13_0, k15_0, i16_0, hB1.cell, hB2.cell, hB3.cell, hB7.cell]; rfl) ?_
            refine WL.nil ?_
            refine th_norm ?_
            refine hx_ret ?_
            refine fin_ret [.tmp 6] rfl rfl (by simp only [ev_tmp, ev_const, ev_func, set_get, Nat.reduceEqDiff, reduceIte, resv, k13_0, k15_0, i16_0, hB1.cell, hB2.cell, hB3.cell, hB7.cell]; rfl) ?_  -- ret 2 r17
            exact ⟨rfl, hE0.trans hE41⟩
theorem valM_nil (s : List Int) (cs : List (Int × Int)) : valM s none cs = if chkGo (-1) s ≠ 0 then chkGo (-1) s else 1 := by simp [valM]
set_option maxHeartbeats 1000000 in
theorem l_snil (s0 s1 s2 s3 s4 s5 d m k : Int) (h : Heap) :
    HCalls Try.prog 11 #[sch s0 s1 s2 s3 s4 s5, .agg #[.int .i64 d, .int .i64 m], .int .i64 k] h (Grow (.bool true) h) := by
  refine hcalls2 Try.func11 rfl (by decide +kernel) (by simp only [Try.ntmps11]; exact of_decide_eq_true rfl) ?_
  intro e hin
  have e0 := hin 0 _ rfl
  have e1 := hin 1 _ rfl
  have e2 := hin 2 _ rfl
  obtain ⟨w, hw⟩ : ∃ w : Int, w = if chkGo (-1) [s0, s1, s2, s3, s4, s5] ≠ 0 then chkGo (-1) [s0, s1, s2, s3, s4, s5] else 1 := ⟨_, rfl⟩
  have hw0 : w ≠ 0 := by rw [hw]; split <;> omega
  have hv : ∀ cs, valM [s0, s1, s2, s3, s4, s5] none cs = w := fun cs => by rw [valM_nil, hw]
  refine hx_seq ?_
  refine hx_region ?_
  refine WL.box2 (by simp only [ev_tmp, ev_const, ev_func, set_get, Nat.reduceEqDiff, reduceIte, Value.cells, e0, e1, e2]; rfl) ?_
  intro h1 B1 hx1 hlt1 hB1
  refine WL.box2 (by simp only [ev_tmp, ev_const, ev_func, set_get, Nat.reduceEqDiff, reduceIte, Value.cells, e0, e1, e2, hB1.cell]; rfl) ?_
  intro h2 B2 hx2 hlt2 hB2
  replace hB1 := hB1.ext hx2
  refine WL.qq (by simp only [ev_tmp, ev_const, ev_func, set_get, Nat.reduceEqDiff, reduceIte, qv_assign, e0, e1, e2, hB1.cell, hB2.cell]; rfl) ?_
  refine WL.nil ?_
  refine th_norm ?_
  refine hx_seq ?_
  refine hx_seq ?_
  refine hx_region ?_
  refine WL.cg Try.call13 (by simp only [ev_tmp, ev_const, ev_func, set_get, Nat.reduceEqDiff, reduceIte, List.getElem?_toArray, List.getElem?_cons_zero, List.getElem?_cons_succ, List.map_toArray, List.map_cons, List.map_nil, Option.map_some, Option.bind_some, e0, e1, e2, hB1.cell, hB2.cell]; exact c_known47 _) ?_
  intro h3 hx3
  replace hB1 := hB1.ext hx3
  replace hB2 := hB2.ext hx3
  refine WL.qq (by simp only [ev_tmp, ev_const, ev_func, set_get, Nat.reduceEqDiff, reduceIte, qv_unOp, unv_not, e0, e1, e2, hB1.cell, hB2.cell]; rfl) ?_
  refine WL.nil ?_
  refine th_norm ?_
  refine hx_cond (by simp only [ev_tmp, ev_const, ev_func, set_get, Nat.reduceEqDiff, reduceIte, e0, e1, e2, hB1.cell, hB2.cell]; rfl) (fun hct18 => ?_) (fun hct18 => ?_)
  ·
    simp at hct18
  ·
    try simp only [decide_eq_true_eq, decide_eq_false_iff_not, Bool.and_eq_true, Bool.and_eq_false_iff, Bool.or_eq_true, Bool.or_eq_false_iff, Bool.not_eq_true', Bool.not_eq_false', Bool.not_eq_true, Bool.not_eq_false] at hct18
    refine hx_skip ?_
    refine th_norm ?_
    refine hx_seq ?_
    refine hx_region ?_
    refine WL.qq (by simp only [ev_tmp, ev_const, ev_func, set_get, Nat.reduceEqDiff, reduceIte, qv_assign, e0, e1, e2, hB1.cell, hB2.cell]; rfl) ?_
    refine WL.nil ?_
    refine th_norm ?_
    refine hx_cutX [7, 8, 19, 20, 21, 22, 23, 24] (fun e => e 7 = .int .i64 w) ?_ ?_
    ·
      refine hx_seq ?_
      refine hx_region ?_
      refine WL.qq (by simp only [ev_tmp, ev_const, ev_func, set_get, Nat.reduceEqDiff, reduceIte, qv_fieldAddr, fa24_0, Nat.zero_add, Nat.reduceAdd, e0, e1, e2, hB1.cell, hB2.cell]; rfl) ?_
      refine WL.qq (by simp only [ev_tmp, ev_const, ev_func, set_get, Nat.reduceEqDiff, reduceIte, qv_load, ld22, readN, List.getElem?_toArray, List.getElem?_cons_zero, List.getElem?_cons_succ, List.map_toArray, List.map_cons, List.map_nil, Option.map_some, Option.bind_some, Nat.zero_add, Nat.reduceAdd, e0, e1, e2, hB1.cell, hB2.cell]; rfl) ?_
      refine WL.cg Try.call17 (by simp only [ev_tmp, ev_const, ev_func, set_get, Nat.reduceEqDiff, reduceIte, List.getElem?_toArray, List.getElem?_cons_zero, List.getElem?_cons_succ, List.map_toArray, List.map_cons, List.map_nil, Option.map_some, Option.bind_some, e0, e1, e2, hB1.cell, hB2.cell]; exact c_rcheck s0 s1 s2 s3 s4 s5 _) ?_
      intro h4 hx4
      replace hB1 := hB1.ext hx4
      replace hB2 := hB2.ext hx4
      refine WL.qq (by simp only [ev_tmp, ev_const, ev_func, set_get, Nat.reduceEqDiff, reduceIte, qv_assign, e0, e1, e2, hB1.cell, hB2.cell]; rfl) ?_
      refine WL.nil ?_
      refine th_norm ?_
      refine hx_seq ?_
      refine hx_region ?_
      refine WL.qq (by simp only [ev_tmp, ev_const, ev_func, set_get, Nat.reduceEqDiff, reduceIte, qv_move, e0, e1, e2, hB1.cell, hB2.cell]; rfl) ?_
      refine WL.qq (by simp only [ev_tmp, ev_const, ev_func, set_get, Nat.reduceEqDiff, reduceIte, qv_binOp, binv_neq, eq3, Option.map_some, e0, e1, e2, hB1.cell, hB2.cell]; rfl) ?_
      refine WL.nil ?_
      refine th_norm ?_
      refine hx_cond (by simp only [ev_tmp, ev_const, ev_func, set_get, Nat.reduceEqDiff, reduceIte, e0, e1, e2, hB1.cell, hB2.cell]; rfl) (fun hct23 => ?_) (fun hct23 => ?_)
      ·
        try simp only [decide_eq_true_eq, decide_eq_false_iff_not, Bool.and_eq_true, Bool.and_eq_false_iff, Bool.or_eq_true, Bool.or_eq_false_iff, Bool.not_eq_true', Bool.not_eq_false', Bool.not_eq_true, Bool.not_eq_false] at hct23
        refine hx_region ?_
        refine WL.qq (by simp only [ev_tmp, ev_const, ev_func, set_get, Nat.reduceEqDiff, reduceIte, qv_move, e0, e1, e2, hB1.cell, hB2.cell]; rfl) ?_
        refine WL.qq (by simp only [ev_tmp, ev_const, ev_func, set_get, Nat.reduceEqDiff, reduceIte, qv_assign, e0, e1, e2, hB1.cell, hB2.cell]; rfl) ?_
        refine WL.nil ?_
        refine th_norm ?_
        refine ⟨rfl, ?_, ?_, ?_⟩  -- meet 0 of cut 4
        · exact hx4
        · (repeat (first | exact Fr.refl _ _ | refine Fr.set rfl ?_ | refine Fr.put rfl ?_ | refine Fr.put0 ?_ | refine Fr.trans ?_ (Fr.of hfc4 rfl)))
        · simp only [ev_tmp, ev_const, ev_func, set_get, Nat.reduceEqDiff, reduceIte, e0, e1, e2, hB1.cell, hB2.cell] <;> first | (rw [hw, if_pos hct23]) | (rw [hw, if_neg (by omega)])
      ·
        try simp only [decide_eq_true_eq, decide_eq_false_iff_not, Bool.and_eq_true, Bool.and_eq_false_iff, Bool.or_eq_true, Bool.or_eq_false_iff, Bool.not_eq_true', Bool.not_eq_false', Bool.not_eq_true, Bool.not_eq_false] at hct23
        refine hx_skip ?_
        refine th_norm ?_
        refine ⟨rfl, ?_, ?_, ?_⟩  -- meet 1 of cut 4
        · exact hx4
        · (repeat (first | exact Fr.refl _ _ | refine Fr.set rfl ?_ | refine Fr.put rfl ?_ | refine Fr.put0 ?_ | refine Fr.trans ?_ (Fr.of hfc4 rfl)))
        · simp only [ev_tmp, ev_const, ev_func, set_get, Nat.reduceEqDiff, reduceIte, e0, e1, e2, hB1.cell, hB2.cell] <;> first | (rw [hw, if_pos hct23]) | (rw [hw, if_neg (by omega)])
    ·
      rintro ec4 hC4 hXc4 hfc4 i7_c4
      replace hB1 := hB1.ext hXc4
      replace hB2 := hB2.ext hXc4
      have k2_c4 := hfc4 2 rfl; simp only [ev_tmp, ev_const, ev_func, set_get, Nat.reduceEqDiff, reduceIte, e0, e1, e2, hB1.cell, hB2.cell] at k2_c4
      have k3_c4 := hfc4 3 rfl; simp only [ev_tmp, ev_const, ev_func, set_get, Nat.reduceEqDiff, reduceIte, e0, e1, e2, hB1.cell, hB2.cell] at k3_c4
      have k4_c4 := hfc4 4 rfl; simp only [ev_tmp, ev_const, ev_func, set_get, Nat.reduceEqDiff, reduceIte, e0, e1, e2, hB1.cell, hB2.cell] at k4_c4
      have k6_c4 := hfc4 6 rfl; simp only [ev_tmp, ev_const, ev_func, set_get, Nat.reduceEqDiff, reduceIte, e0, e1, e2, hB1.cell, hB2.cell] at k6_c4
      refine hx_seq ?_
      refine hx_fresh (fun eF7 hfcf7 => ?_)
      have k2_f7 := hfcf7 2 rfl; simp only [ev_tmp, ev_const, ev_func, set_get, Nat.reduceEqDiff, reduceIte, k2_c4, k3_c4, k4_c4, k6_c4, i7_c4, hB1.cell, hB2.cell] at k2_f7
      have k3_f7 := hfcf7 3 rfl; simp only [ev_tmp, ev_const, ev_func, set_get, Nat.reduceEqDiff, reduceIte, k2_c4, k3_c4, k4_c4, k6_c4, i7_c4, hB1.cell, hB2.cell] at k3_f7
      have k4_f7 := hfcf7 4 rfl; simp only [ev_tmp, ev_const, ev_func, set_get, Nat.reduceEqDiff, reduceIte, k2_c4, k3_c4, k4_c4, k6_c4, i7_c4, hB1.cell, hB2.cell] at k4_f7
      have k6_f7 := hfcf7 6 rfl; simp only [ev_tmp, ev_const, ev_func, set_get, Nat.reduceEqDiff, reduceIte, k2_c4, k3_c4, k4_c4, k6_c4, i7_c4, hB1.cell, hB2.cell] at k6_f7
      have k7_f7 := hfcf7 7 rfl; simp only [ev_tmp, ev_const, ev_func, set_get, Nat.reduceEqDiff, reduceIte, k2_c4, k3_c4, k4_c4, k6_c4, i7_c4, hB1.cell, hB2.cell] at k7_f7
      refine hx_region ?_
      refine WL.qq (by simp only [ev_tmp, ev_const, ev_func, set_get, Nat.reduceEqDiff, reduceIte, qv_load, ld24, readN, List.getElem?_toArray, List.getElem?_cons_zero, List.getElem?_cons_succ, List.map_toArray, List.map_cons, List.map_nil, Option.map_some, Option.bind_some, Nat.zero_add, Nat.reduceAdd, k2_f7, k3_f7, k4_f7, k6_f7, k7_f7, hB1.cell, hB2.cell]; rfl) ?_
      refine WL.qq (by simp only [ev_tmp, ev_const, ev_func, set_get, Nat.reduceEqDiff, reduceIte, qv_load, ld29, readN, List.getElem?_toArray, List.getElem?_cons_zero, List.getElem?_cons_succ, List.map_toArray, List.map_cons, List.map_nil, Option.map_some, Option.bind_some, Nat.zero_add, Nat.reduceAdd, k2_f7, k3_f7, k4_f7, k6_f7, k7_f7, hB1.cell, hB2.cell]; rfl) ?_
      refine WL.cg Try.call14 (by simp only [ev_tmp, ev_const, ev_func, set_get, Nat.reduceEqDiff, reduceIte, List.getElem?_toArray, List.getElem?_cons_zero, List.getElem?_cons_succ, List.map_toArray, List.map_cons, List.map_nil, Option.map_some, Option.bind_some, k2_f7, k3_f7, k4_f7, k6_f7, k7_f7, hB1.cell, hB2.cell]; exact HCalls.gv (v' := .tuple #[.int .i64 0, .int .i64 w]) (by simp only [phaseM, hv, if_neg hw0]) (c_phase s0 s1 s2 s3 s4 s5 d m none [] [] QCal.no)) ?_
      intro h5 hx5
      replace hB1 := hB1.ext hx5
      replace hB2 := hB2.ext hx5
      refine WL.qq (by simp only [ev_tmp, ev_const, ev_func, set_get, Nat.reduceEqDiff, reduceIte, qv_move, k2_f7, k3_f7, k4_f7, k6_f7, k7_f7, hB1.cell, hB2.cell]; rfl) ?_
      refine WL.qq (by simp only [ev_tmp, ev_const, ev_func, set_get, Nat.reduceEqDiff, reduceIte, qv_extract, List.getElem?_toArray, List.getElem?_cons_zero, List.getElem?_cons_succ, List.map_toArray, List.map_cons, List.map_nil, Option.map_some, Option.bind_some, k2_f7, k3_f7, k4_f7, k6_f7, k7_f7, hB1.cell, hB2.cell]; rfl) ?_
      refine WL.qq (by simp only [ev_tmp, ev_const, ev_func, set_get, Nat.reduceEqDiff, reduceIte, qv_extract, List.getElem?_toArray, List.getElem?_cons_zero, List.getElem?_cons_succ, List.map_toArray, List.map_cons, List.map_nil, Option.map_some, Option.bind_some, k2_f7, k3_f7, k4_f7, k6_f7, k7_f7, hB1.cell, hB2.cell]; rfl) ?_
      refine WL.qq (by simp only [ev_tmp, ev_const, ev_func, set_get, Nat.reduceEqDiff, reduceIte, qv_assign, k2_f7, k3_f7, k4_f7, k6_f7, k7_f7, hB1.cell, hB2.cell]; rfl) ?_
      refine WL.qq (by simp only [ev_tmp, ev_const, ev_func, set_get, Nat.reduceEqDiff, reduceIte, qv_assign, k2_f7, k3_f7, k4_f7, k6_f7, k7_f7, hB1.cell, hB2.cell]; rfl) ?_
      refine WL.nil ?_
      refine th_norm ?_
      refine hx_seq ?_
      refine hx_region ?_
      refine WL.qq (by simp only [ev_tmp, ev_const, ev_func, set_get, Nat.reduceEqDiff, reduceIte, qv_load, ld24, readN, List.getElem?_toArray, List.getElem?_cons_zero, List.getElem?_cons_succ, List.map_toArray, List.map_cons, List.map_nil, Option.map_some, Option.bind_some, Nat.zero_add, Nat.reduceAdd, k2_f7, k3_f7, k4_f7, k6_f7, k7_f7, hB1.cell, hB2.cell]; rfl) ?_
      refine WL.qq (by simp only [ev_tmp, ev_const, ev_func, set_get, Nat.reduceEqDiff, reduceIte, qv_fieldAddr, fa29_0, Nat.zero_add, Nat.reduceAdd, k2_f7, k3_f7, k4_f7, k6_f7, k7_f7, hB1.cell, hB2.cell]; rfl) ?_
      refine WL.qq (by simp only [ev_tmp, ev_const, ev_func, set_get, Nat.reduceEqDiff, reduceIte, qv_load, ld3, readN, List.getElem?_toArray, List.getElem?_cons_zero, List.getElem?_cons_succ, List.map_toArray, List.map_cons, List.map_nil, Option.map_some, Option.bind_some, Nat.zero_add, Nat.reduceAdd, k2_f7, k3_f7, k4_f7, k6_f7, k7_f7, hB1.cell, hB2.cell]; rfl) ?_
      refine WL.qq (by simp only [ev_tmp, ev_const, ev_func, set_get, Nat.reduceEqDiff, reduceIte, qv_move, k2_f7, k3_f7, k4_f7, k6_f7, k7_f7, hB1.cell, hB2.cell]; rfl) ?_
      refine WL.cg Try.call20 (by simp only [ev_tmp, ev_const, ev_func, set_get, Nat.reduceEqDiff, reduceIte, List.getElem?_toArray, List.getElem?_cons_zero, List.getElem?_cons_succ, List.map_toArray, List.map_cons, List.map_nil, Option.map_some, Option.bind_some, k2_f7, k3_f7, k4_f7, k6_f7, k7_f7, hB1.cell, hB2.cell]; exact c_begin s0 s1 s2 s3 s4 s5 d k none [] [] (bt := (0, 0)) (be := w) (by simp only [begM, hv]; rw [if_pos hw0]) QCal.no) ?_
      intro h6 hx6
      replace hB1 := hB1.ext hx6
      replace hB2 := hB2.ext hx6
      refine WL.qq (by simp only [ev_tmp, ev_const, ev_func, set_get, Nat.reduceEqDiff, reduceIte, qv_move, k2_f7, k3_f7, k4_f7, k6_f7, k7_f7, hB1.cell, hB2.cell]; rfl) ?_
      refine WL.qq (by simp only [ev_tmp, ev_const, ev_func, set_get, Nat.reduceEqDiff, reduceIte, qv_extract, List.getElem?_toArray, List.getElem?_cons_zero, List.getElem?_cons_succ, List.map_toArray, List.map_cons, List.map_nil, Option.map_some, Option.bind_some, k2_f7, k3_f7, k4_f7, k6_f7, k7_f7, hB1.cell, hB2.cell]; rfl) ?_
      refine WL.qq (by simp only [ev_tmp, ev_const, ev_func, set_get, Nat.reduceEqDiff, reduceIte, qv_extract, List.getElem?_toArray, List.getElem?_cons_zero, List.getElem?_cons_succ, List.map_toArray, List.map_cons, List.map_nil, Option.map_some, Option.bind_some, k2_f7, k3_f7, k4_f7, k6_f7, k7_f7, hB1.cell, hB2.cell]; rfl) ?_
      refine WL.allocSt zr29 sz29 (fun u => by simp only [ev_tmp, ev_const, ev_func, set_get, Nat.reduceEqDiff, reduceIte, Value.cells, k2_f7, k3_f7, k4_f7, k6_f7, k7_f7, hB1.cell, hB2.cell]; rfl) ⟨rfl, rfl⟩ (by simp [Value.oneCell']) ?_
      intro h7 B7 hx7 hlt7 hB7
      replace hB1 := hB1.ext hx7
      replace hB2 := hB2.ext hx7
      refine WL.qq (by simp only [ev_tmp, ev_const, ev_func, set_get, Nat.reduceEqDiff, reduceIte, qv_assign, k2_f7, k3_f7, k4_f7, k6_f7, k7_f7, hB1.cell, hB2.cell, hB7.cell]; rfl) ?_
      refine WL.nil ?_
      refine th_norm ?_
      refine hx_seq ?_
      refine hx_region ?_
      refine WL.qq (by simp only [ev_tmp, ev_const, ev_func, set_get, Nat.reduceEqDiff, reduceIte, qv_load, ld24, readN, List.getElem?_toArray, List.getElem?_cons_zero, List.getElem?_cons_succ, List.map_toArray, List.map_cons, List.map_nil, Option.map_some, Option.bind_some, Nat.zero_add, Nat.reduceAdd, k2_f7, k3_f7, k4_f7, k6_f7, k7_f7, hB1.cell, hB2.cell, hB7.cell]; rfl) ?_
      refine WL.qq (by simp only [ev_tmp, ev_const, ev_func, set_get, Nat.reduceEqDiff, reduceIte, qv_load, ld29, readN, List.getElem?_toArray, List.getElem?_cons_zero, List.getElem?_cons_succ, List.map_toArray, List.map_cons, List.map_nil, Option.map_some, Option.bind_some, Nat.zero_add, Nat.reduceAdd, k2_f7, k3_f7, k4_f7, k6_f7, k7_f7, hB1.cell, hB2.cell, hB7.cell]; rfl) ?_
      refine WL.qq (by simp only [ev_tmp, ev_const, ev_func, set_get, Nat.reduceEqDiff, reduceIte, qv_load, ld29, readN, List.getElem?_toArray, List.getElem?_cons_zero, List.getElem?_cons_succ, List.map_toArray, List.map_cons, List.map_nil, Option.map_some, Option.bind_some, Nat.zero_add, Nat.reduceAdd, k2_f7, k3_f7, k4_f7, k6_f7, k7_f7, hB1.cell, hB2.cell, hB7.cell]; rfl) ?_
      refine WL.ce Try.call25 (by simp only [ev_tmp, ev_const, ev_func, set_get, Nat.reduceEqDiff, reduceIte, List.getElem?_toArray, List.getElem?_cons_zero, List.getElem?_cons_succ, List.map_toArray, List.map_cons, List.map_nil, Option.map_some, Option.bind_some, k2_f7, k3_f7, k4_f7, k6_f7, k7_f7, hB1.cell, hB2.cell, hB7.cell]; exact c_changesG s0 s1 s2 s3 s4 s5 d m d m none [] [] (M := []) (ce := w) (by simp only [chgM, hv]; rw [if_pos hw0]) QCal.no) ?_
      rintro _ h8 ⟨hx8, al, cp, rfl, hsl, hsn, hsc⟩
      replace hB1 := hB1.ext hx8
      replace hB2 := hB2.ext hx8
      replace hB7 := hB7.ext hx8
      simp only [put_some]
      refine WL.qq (by simp only [ev_tmp, ev_const, ev_func, set_get, Nat.reduceEqDiff, reduceIte, qv_move, k2_f7, k3_f7, k4_f7, k6_f7, k7_f7, hB1.cell, hB2.cell, hB7.cell]; rfl) ?_
      refine WL.qq (by simp only [ev_tmp, ev_const, ev_func, set_get, Nat.reduceEqDiff, reduceIte, qv_extract, List.getElem?_toArray, List.getElem?_cons_zero, List.getElem?_cons_succ, List.map_toArray, List.map_cons, List.map_nil, Option.map_some, Option.bind_some, k2_f7, k3_f7, k4_f7, k6_f7, k7_f7, hB1.cell, hB2.cell, hB7.cell]; rfl) ?_
      refine WL.qq (by simp only [ev_tmp, ev_const, ev_func, set_get, Nat.reduceEqDiff, reduceIte, qv_extract, List.getElem?_toArray, List.getElem?_cons_zero, List.getElem?_cons_succ, List.map_toArray, List.map_cons, List.map_nil, Option.map_some, Option.bind_some, k2_f7, k3_f7, k4_f7, k6_f7, k7_f7, hB1.cell, hB2.cell, hB7.cell]; rfl) ?_
      refine WL.qq (by simp only [ev_tmp, ev_const, ev_func, set_get, Nat.reduceEqDiff, reduceIte, qv_assign, k2_f7, k3_f7, k4_f7, k6_f7, k7_f7, hB1.cell, hB2.cell, hB7.cell]; rfl) ?_
      refine WL.qq (by simp only [ev_tmp, ev_const, ev_func, set_get, Nat.reduceEqDiff, reduceIte, qv_assign, k2_f7, k3_f7, k4_f7, k6_f7, k7_f7, hB1.cell, hB2.cell, hB7.cell]; rfl) ?_
      refine WL.nil ?_
      refine th_norm ?_
      refine hx_seq ?_
      refine hx_region ?_
      refine WL.qq (by simp only [ev_tmp, ev_const, ev_func, set_get, Nat.reduceEqDiff, reduceIte, qv_load, ld24, readN, List.getElem?_toArray, List.getElem?_cons_zero, List.getElem?_cons_succ, List.map_toArray, List.map_cons, List.map_nil, Option.map_some, Option.bind_some, Nat.zero_add, Nat.reduceAdd, k2_f7, k3_f7, k4_f7, k6_f7, k7_f7, hB1.cell, hB2.cell, hB7.cell]; rfl) ?_
      refine WL.qq (by simp only [ev_tmp, ev_const, ev_func, set_get, Nat.reduceEqDiff, reduceIte, qv_load, ld29, readN, List.getElem?_toArray, List.getElem?_cons_zero, List.getElem?_cons_succ, List.map_toArray, List.map_cons, List.map_nil, Option.map_some, Option.bind_some, Nat.zero_add, Nat.reduceAdd, k2_f7, k3_f7, k4_f7, k6_f7, k7_f7, hB1.cell, hB2.cell, hB7.cell]; rfl) ?_
      refine WL.cg Try.call28 (by simp only [ev_tmp, ev_const, ev_func, set_get, Nat.reduceEqDiff, reduceIte, List.getElem?_toArray, List.getElem?_cons_zero, List.getElem?_cons_succ, List.map_toArray, List.map_cons, List.map_nil, Option.map_some, Option.bind_some, k2_f7, k3_f7, k4_f7, k6_f7, k7_f7, hB1.cell, hB2.cell, hB7.cell]; exact c_snext s0 s1 s2 s3 s4 s5 d m none [] [] (n := (0, 0, 0)) (ne := w) (by simp only [nextM, hv]; rw [if_pos hw0]) QCal.no) ?_
      intro h9 hx9
      replace hB1 := hB1.ext hx9
      replace hB2 := hB2.ext hx9
      replace hB7 := hB7.ext hx9
      refine WL.qq (by simp only [ev_tmp, ev_const, ev_func, set_get, Nat.reduceEqDiff, reduceIte, qv_move, k2_f7, k3_f7, k4_f7, k6_f7, k7_f7, hB1.cell, hB2.cell, hB7.cell]; rfl) ?_
      refine WL.qq (by simp only [ev_tmp, ev_const, ev_func, set_get, Nat.reduceEqDiff, reduceIte, qv_extract, List.getElem?_toArray, List.getElem?_cons_zero, List.getElem?_cons_succ, List.map_toArray, List.map_cons, List.map_nil, Option.map_some, Option.bind_some, k2_f7, k3_f7, k4_f7, k6_f7, k7_f7, hB1.cell, hB2.cell, hB7.cell]; rfl) ?_
      refine WL.qq (by simp only [ev_tmp, ev_const, ev_func, set_get, Nat.reduceEqDiff, reduceIte, qv_extract, List.getElem?_toArray, List.getElem?_cons_zero, List.getElem?_cons_succ, List.map_toArray, List.map_cons, List.map_nil, Option.map_some, Option.bind_some, k2_f7, k3_f7, k4_f7, k6_f7, k7_f7, hB1.cell, hB2.cell, hB7.cell]; rfl) ?_
      refine WL.allocSt zr61 sz61 (fun u => by simp only [ev_tmp, ev_const, ev_func, set_get, Nat.reduceEqDiff, reduceIte, Value.cells, k2_f7, k3_f7, k4_f7, k6_f7, k7_f7, hB1.cell, hB2.cell, hB7.cell]; rfl) ⟨rfl, rfl⟩ (by simp [Value.oneCell']) ?_
      intro h10 B10 hx10 hlt10 hB10
      replace hB1 := hB1.ext hx10
      replace hB2 := hB2.ext hx10
      replace hB7 := hB7.ext hx10
      refine WL.qq (by simp only [ev_tmp, ev_const, ev_func, set_get, Nat.reduceEqDiff, reduceIte, qv_assign, k2_f7, k3_f7, k4_f7, k6_f7, k7_f7, hB1.cell, hB2.cell, hB7.cell, hB10.cell]; rfl) ?_
      refine WL.nil ?_
      refine th_norm ?_
      refine hx_seq ?_
      refine hx_region ?_
      refine WL.qq (by simp only [ev_tmp, ev_const, ev_func, set_get, Nat.reduceEqDiff, reduceIte, qv_move, k2_f7, k3_f7, k4_f7, k6_f7, k7_f7, hB1.cell, hB2.cell, hB7.cell, hB10.cell]; rfl) ?_
      refine WL.qq (by simp only [ev_tmp, ev_const, ev_func, set_get, Nat.reduceEqDiff, reduceIte, qv_move, k2_f7, k3_f7, k4_f7, k6_f7, k7_f7, hB1.cell, hB2.cell, hB7.cell, hB10.cell]; rfl) ?_
      refine WL.qq (by simp only [ev_tmp, ev_const, ev_func, set_get, Nat.reduceEqDiff, reduceIte, qv_binOp, binv_eql, eq34, Option.map_some, k2_f7, k3_f7, k4_f7, k6_f7, k7_f7, hB1.cell, hB2.cell, hB7.cell, hB10.cell]; rfl) ?_
      refine WL.qq (by simp only [ev_tmp, ev_const, ev_func, set_get, Nat.reduceEqDiff, reduceIte, qv_move, k2_f7, k3_f7, k4_f7, k6_f7, k7_f7, hB1.cell, hB2.cell, hB7.cell, hB10.cell]; rfl) ?_
      refine WL.cq (gd_at (t := 55) rfl (by simp only [ev_tmp, ev_const, ev_func, set_get, Nat.reduceEqDiff, reduceIte, k2_f7, k3_f7, k4_f7, k6_f7, k7_f7, hB1.cell, hB2.cell, hB7.cell, hB10.cell]; rfl)) (fun hg11_4 => by simp only [ev_tmp, ev_const, ev_func, set_get, Nat.reduceEqDiff, reduceIte, qv_move, k2_f7, k3_f7, k4_f7, k6_f7, k7_f7, hB1.cell, hB2.cell, hB7.cell, hB10.cell, hg11_4, Bool.false_eq_true, Bool.true_eq_false, eq_self, if_true, if_false, true_and, and_true, false_and, and_false]; rfl) ?_
      refine WL.cq (gd_at (t := 55) rfl (by simp only [ev_tmp, ev_const, ev_func, set_get, Nat.reduceEqDiff, reduceIte, k2_f7, k3_f7, k4_f7, k6_f7, k7_f7, hB1.cell, hB2.cell, hB7.cell, hB10.cell]; rfl)) (fun hg11_5 => by simp only [ev_tmp, ev_const, ev_func, set_get, Nat.reduceEqDiff, reduceIte, qv_move, k2_f7, k3_f7, k4_f7, k6_f7, k7_f7, hB1.cell, hB2.cell, hB7.cell, hB10.cell, hg11_5, Bool.false_eq_true, Bool.true_eq_false, eq_self, if_true, if_false, true_and, and_true, false_and, and_false]; rfl) ?_
      refine WL.cq (gd_at (t := 55) rfl (by simp only [ev_tmp, ev_const, ev_func, set_get, Nat.reduceEqDiff, reduceIte, k2_f7, k3_f7, k4_f7, k6_f7, k7_f7, hB1.cell, hB2.cell, hB7.cell, hB10.cell]; rfl)) (fun hg11_6 => by simp only [ev_tmp, ev_const, ev_func, set_get, Nat.reduceEqDiff, reduceIte, qv_binOp, binv_eql, eq34, Option.map_some, k2_f7, k3_f7, k4_f7, k6_f7, k7_f7, hB1.cell, hB2.cell, hB7.cell, hB10.cell, hg11_6, Bool.false_eq_true, Bool.true_eq_false, eq_self, if_true, if_false, true_and, and_true, false_and, and_false]; rfl) ?_
      refine WL.qq (by simp only [ev_tmp, ev_const, ev_func, set_get, Nat.reduceEqDiff, reduceIte, qv_pick, pk_and, pk_or, Bool.false_eq_true, Bool.true_eq_false, eq_self, if_true, if_false, true_and, and_true, false_and, and_false, k2_f7, k3_f7, k4_f7, k6_f7, k7_f7, hB1.cell, hB2.cell, hB7.cell, hB10.cell]; rfl) ?_
      refine WL.qq (by simp only [ev_tmp, ev_const, ev_func, set_get, Nat.reduceEqDiff, reduceIte, qv_move, k2_f7, k3_f7, k4_f7, k6_f7, k7_f7, hB1.cell, hB2.cell, hB7.cell, hB10.cell]; rfl) ?_
      refine WL.cq (gd_at (t := 60) rfl (by simp only [ev_tmp, ev_const, ev_func, set_get, Nat.reduceEqDiff, reduceIte, k2_f7, k3_f7, k4_f7, k6_f7, k7_f7, hB1.cell, hB2.cell, hB7.cell, hB10.cell]; rfl)) (fun hg11_9 => by simp only [ev_tmp, ev_const, ev_func, set_get, Nat.reduceEqDiff, reduceIte, qv_move, k2_f7, k3_f7, k4_f7, k6_f7, k7_f7, hB1.cell, hB2.cell, hB7.cell, hB10.cell, hg11_9, Bool.false_eq_true, Bool.true_eq_false, eq_self, if_true, if_false, true_and, and_true, false_and, and_false]; rfl) ?_
      refine WL.cq (gd_at (t := 60) rfl (by simp only [ev_tmp, ev_const, ev_func, set_get, Nat.reduceEqDiff, reduceIte, k2_f7, k3_f7, k4_f7, k6_f7, k7_f7, hB1.cell, hB2.cell, hB7.cell, hB10.cell]; rfl)) (fun hg11_10 => by simp only [ev_tmp, ev_const, ev_func, set_get, Nat.reduceEqDiff, reduceIte, qv_move, k2_f7, k3_f7, k4_f7, k6_f7, k7_f7, hB1.cell, hB2.cell, hB7.cell, hB10.cell, hg11_10, Bool.false_eq_true, Bool.true_eq_false, eq_self, if_true, if_false, true_and, and_true, false_and, and_false]; rfl) ?_
      refine WL.cq (gd_at (t := 60) rfl (by simp only [ev_tmp, ev_const, ev_func, set_get, Nat.reduceEqDiff, reduceIte, k2_f7, k3_f7, k4_f7, k6_f7, k7_f7, hB1.cell, hB2.cell, hB7.cell, hB10.cell]; rfl)) (fun hg11_11 => by simp only [ev_tmp, ev_const, ev_func, set_get, Nat.reduceEqDiff, reduceIte, qv_binOp, binv_eql, eq34, Option.map_some, k2_f7, k3_f7, k4_f7, k6_f7, k7_f7, hB1.cell, hB2.cell, hB7.cell, hB10.cell, hg11_11, Bool.false_eq_true, Bool.true_eq_false, eq_self, if_true, if_false, true_and, and_true, false_and, and_false]; rfl) ?_
      refine WL.qq (by simp only [ev_tmp, ev_const, ev_func, set_get, Nat.reduceEqDiff, reduceIte, qv_pick, pk_and, pk_or, Bool.false_eq_true, Bool.true_eq_false, eq_self, if_true, if_false, true_and, and_true, false_and, and_false, k2_f7, k3_f7, k4_f7, k6_f7, k7_f7, hB1.cell, hB2.cell, hB7.cell, hB10.cell]; rfl) ?_
      refine WL.qq (by simp only [ev_tmp, ev_const, ev_func, set_get, Nat.reduceEqDiff, reduceIte, qv_move, k2_f7, k3_f7, k4_f7, k6_f7, k7_f7, hB1.cell, hB2.cell, hB7.cell, hB10.cell]; rfl) ?_
      refine WL.cq (gd_at (t := 65) rfl (by simp only [ev_tmp, ev_const, ev_func, set_get, Nat.reduceEqDiff, reduceIte, k2_f7, k3_f7, k4_f7, k6_f7, k7_f7, hB1.cell, hB2.cell, hB7.cell, hB10.cell]; rfl)) (fun hg11_14 => by simp only [ev_tmp, ev_const, ev_func, set_get, Nat.reduceEqDiff, reduceIte, qv_move, k2_f7, k3_f7, k4_f7, k6_f7, k7_f7, hB1.cell, hB2.cell, hB7.cell, hB10.cell, hg11_14, Bool.false_eq_true, Bool.true_eq_false, eq_self, if_true, if_false, true_and, and_true, false_and, and_false]; rfl) ?_
      refine WL.cq (gd_at (t := 65) rfl (by simp only [ev_tmp, ev_const, ev_func, set_get, Nat.reduceEqDiff, reduceIte, k2_f7, k3_f7, k4_f7, k6_f7, k7_f7, hB1.cell, hB2.cell, hB7.cell, hB10.cell]; rfl)) (fun hg11_15 => by simp only [ev_tmp, ev_const, ev_func, set_get, Nat.reduceEqDiff, reduceIte, qv_len, ln55, List.getElem?_toArray, List.getElem?_cons_zero, List.getElem?_cons_succ, List.map_toArray, List.map_cons, List.map_nil, Option.map_some, Option.bind_some, k2_f7, k3_f7, k4_f7, k6_f7, k7_f7, hB1.cell, hB2.cell, hB7.cell, hB10.cell, hg11_15, Bool.false_eq_true, Bool.true_eq_false, eq_self, if_true, if_false, true_and, and_true, false_and, and_false]; rfl) ?_
      refine WL.cq (gd_at (t := 65) rfl (by simp only [ev_tmp, ev_const, ev_func, set_get, Nat.reduceEqDiff, reduceIte, k2_f7, k3_f7, k4_f7, k6_f7, k7_f7, hB1.cell, hB2.cell, hB7.cell, hB10.cell]; rfl)) (fun hg11_16 => by simp only [ev_tmp, ev_const, ev_func, set_get, Nat.reduceEqDiff, reduceIte, qv_binOp, binv_eql, eq3, Option.map_some, k2_f7, k3_f7, k4_f7, k6_f7, k7_f7, hB1.cell, hB2.cell, hB7.cell, hB10.cell, hg11_16, Bool.false_eq_true, Bool.true_eq_false, eq_self, if_true, if_false, true_and, and_true, false_and, and_false]; rfl) ?_
      refine WL.qq (by simp only [ev_tmp, ev_const, ev_func, set_get, Nat.reduceEqDiff, reduceIte, qv_pick, pk_and, pk_or, Bool.false_eq_true, Bool.true_eq_false, eq_self, if_true, if_false, true_and, and_true, false_and, and_false, k2_f7, k3_f7, k4_f7, k6_f7, k7_f7, hB1.cell, hB2.cell, hB7.cell, hB10.cell]; rfl) ?_
      refine WL.qq (by simp only [ev_tmp, ev_const, ev_func, set_get, Nat.reduceEqDiff, reduceIte, qv_move, k2_f7, k3_f7, k4_f7, k6_f7, k7_f7, hB1.cell, hB2.cell, hB7.cell, hB10.cell]; rfl) ?_
      refine WL.cq (gd_at (t := 70) rfl (by simp only [ev_tmp, ev_const, ev_func, set_get, Nat.reduceEqDiff, reduceIte, k2_f7, k3_f7, k4_f7, k6_f7, k7_f7, hB1.cell, hB2.cell, hB7.cell, hB10.cell]; rfl)) (fun hg11_19 => by simp only [ev_tmp, ev_const, ev_func, set_get, Nat.reduceEqDiff, reduceIte, qv_move, k2_f7, k3_f7, k4_f7, k6_f7, k7_f7, hB1.cell, hB2.cell, hB7.cell, hB10.cell, hg11_19, Bool.false_eq_true, Bool.true_eq_false, eq_self, if_true, if_false, true_and, and_true, false_and, and_false]; rfl) ?_
      refine WL.cq (gd_at (t := 70) rfl (by simp only [ev_tmp, ev_const, ev_func, set_get, Nat.reduceEqDiff, reduceIte, k2_f7, k3_f7, k4_f7, k6_f7, k7_f7, hB1.cell, hB2.cell, hB7.cell, hB10.cell]; rfl)) (fun hg11_20 => by simp only [ev_tmp, ev_const, ev_func, set_get, Nat.reduceEqDiff, reduceIte, qv_move, k2_f7, k3_f7, k4_f7, k6_f7, k7_f7, hB1.cell, hB2.cell, hB7.cell, hB10.cell, hg11_20, Bool.false_eq_true, Bool.true_eq_false, eq_self, if_true, if_false, true_and, and_true, false_and, and_false]; rfl) ?_
      refine WL.cq (gd_at (t := 70) rfl (by simp only [ev_tmp, ev_const, ev_func, set_get, Nat.reduceEqDiff, reduceIte, k2_f7, k3_f7, k4_f7, k6_f7, k7_f7, hB1.cell, hB2.cell, hB7.cell, hB10.cell]; rfl)) (fun hg11_21 => by simp only [ev_tmp, ev_const, ev_func, set_get, Nat.reduceEqDiff, reduceIte, qv_binOp, binv_eql, eq34, Option.map_some, k2_f7, k3_f7, k4_f7, k6_f7, k7_f7, hB1.cell, hB2.cell, hB7.cell, hB10.cell, hg11_21, Bool.false_eq_true, Bool.true_eq_false, eq_self, if_true, if_false, true_and, and_true, false_and, and_false]; rfl) ?_
      refine WL.qq (by simp only [ev_tmp, ev_const, ev_func, set_get, Nat.reduceEqDiff, reduceIte, qv_pick, pk_and, pk_or, Bool.false_eq_true, Bool.true_eq_false, eq_self, if_true, if_false, true_and, and_true, false_and, and_false, k2_f7, k3_f7, k4_f7, k6_f7, k7_f7, hB1.cell, hB2.cell, hB7.cell, hB10.cell]; rfl) ?_
      refine WL.qq (by simp only [ev_tmp, ev_const, ev_func, set_get, Nat.reduceEqDiff, reduceIte, qv_assign, k2_f7, k3_f7, k4_f7, k6_f7, k7_f7, hB1.cell, hB2.cell, hB7.cell, hB10.cell]; rfl) ?_
      refine WL.nil ?_
      refine th_norm ?_
      refine hx_ret ?_
      refine fin_ret [.tmp 6] rfl rfl (by simp only [ev_tmp, ev_const, ev_func, set_get, Nat.reduceEqDiff, reduceIte, resv, k2_f7, k3_f7, k4_f7, k6_f7, k7_f7, hB1.cell, hB2.cell, hB7.cell, hB10.cell]; rfl) ?_  -- ret 0 r11
      exact ⟨by simp [retOf], ((hx1).trans ((hx2).trans ((hx3).trans ((hXc4).trans ((hx5).trans ((hx6).trans ((hx7).trans ((hx8).trans ((hx9).trans (hx10))))))))))⟩
end GL


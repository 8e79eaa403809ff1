/- Schedule: the laws on Changes, Next and adjoining periods. -/
import Derived.Test.YtnmgdjajmmgaaaaSchK
import Derived.Test.YtnmgdjajmmgaaaaGl21
set_option linter.unusedSimpArgs false
set_option linter.unusedVariables false
set_option linter.unnecessarySimpa false
namespace GL
open Go Go.Proofs
set_option maxRecDepth 8000
theorem val_fail2 {s : List Int} {a : Addr} {cs : List (Int × Int)} : valM s (some a) cs = failM s cs := fail_val.symm
/-- What Changes gives, told by the reference's list. -/
theorem chg_eq {s0 s1 s2 s3 s4 s5 : Int} {a : Addr} {bus : Int → Bool} {x u : Int × Int} (h : failM [s0, s1, s2, s3, s4, s5] [x, u] = 0) (hn : ¬ 400 < u.1 - x.1) :
    chgM [s0, s1, s2, s3, s4, s5] (some a) bus x u = (chgR bus [s0, s1, s2, s3, s4, s5] x u, 0) := by
  have h2 := val_two (fail_val ▸ h : valM _ (some a) [x, u] = 0)
  have hs := val6 h2.2.2
  obtain ⟨N, hN⟩ : ∃ N : Nat, (N : Int) = 73049 := ⟨73049, rfl⟩
  unfold chgM
  rw [val_fail2, h, if_neg (by decide), if_neg hn, begs_K hs hN h2.1 h2.2.1, chgR_K hs hN ⟨h2.1.1, h2.1.2.2⟩ ⟨by omega, h2.2.1.2⟩ (by omega)]
theorem w_cases {no x w : Int} (hww : w = if no = 0 ∧ 400 < x then 8 else no) : (w ≠ 0 → (no = 0 ∧ 400 < x ∧ w = 8) ∨ (no ≠ 0 ∧ w = no)) ∧ (w = 0 → no = 0 ∧ ¬ 400 < x) := by
  split at hww
  · exact ⟨fun _ => .inl ⟨by omega, by omega, hww⟩, fun h => by omega⟩
  · exact ⟨fun h => .inr ⟨by omega, hww⟩, fun h => by omega⟩
theorem rnext_false {L : List Chg} (h : (rnextM L).2 = false) : rnextM L = ((0, 0, 0), false) := by
  unfold rnextM at h ⊢
  cases hq : L[0]? with
  | none => rfl
  | some z => rw [hq] at h; cases h
theorem rnext_true {L : List Chg} (h : (rnextM L).2 = true) : ∃ z, L[0]? = some z ∧ rnextM L = (z, true) := by
  unfold rnextM at h ⊢
  cases hq : L[0]? with
  | none => rw [hq] at h; cases h
  | some z => exact ⟨z, rfl, rfl⟩
theorem l_changes (s0 s1 s2 s3 s4 s5 d m d' m' : Int) (bd : ∀ x ∈ [d, m, d', m'], (-9223372036854775808 ≤ x ∧ x ≤ 9223372036854775807)) (wk hol : List Int) (a a' : Option Addr) (c c' : Nat) {h : Heap} (hw : SlI h a wk) (hh : SlI h a' hol) (lw : wk.length ≤ 9223372036854775807) (lh : hol.length ≤ 9223372036854775807) :
    HCalls Try.prog 6 #[sch s0 s1 s2 s3 s4 s5, .agg #[.slice a wk.length c, .slice a' hol.length c'], .agg #[.int .i64 d, .int .i64 m, .int .i64 d', .int .i64 m']] h (Grow (.bool true) h) := by
  refine hcalls2 Try.func6 rfl (by decide +kernel) (by simp only [Try.ntmps6]; exact of_decide_eq_true rfl) ?_
  intro e hin
  have e0 := hin 0 _ rfl
  have e1 := hin 1 _ rfl
  have e2 := hin 2 _ rfl
  obtain ⟨no, hno⟩ : ∃ no, failM [s0, s1, s2, s3, s4, s5] [(d, m), (d', m')] = no := ⟨_, rfl⟩
  have bds : (∀ x ∈ [d, d'], (-9223372036854775808 ≤ x ∧ x ≤ 9223372036854775807)) := fun x hx => bd x (by simp at hx ⊢; rcases hx with rfl | rfl <;> simp)
  refine hx_seq ?_
  refine hx_region ?_
  refine WL.box2 (by simp only [ev_tmp, ev_const, ev_func, set_get, Nat.reduceEqDiff, reduceIte, Value.cells, e0, e1, e2]; rfl) ?_
  intro h1 B1 hx1 hlt1 hB1
  replace hw := hw.ext hx1
  replace hh := hh.ext hx1
  refine WL.box2 (by simp only [ev_tmp, ev_const, ev_func, set_get, Nat.reduceEqDiff, reduceIte, Value.cells, e0, e1, e2, hB1.cell]; rfl) ?_
  intro h2 B2 hx2 hlt2 hB2
  replace hw := hw.ext hx2
  replace hh := hh.ext hx2
  replace hB1 := hB1.ext hx2
  refine WL.box2 (by simp only [ev_tmp, ev_const, ev_func, set_get, Nat.reduceEqDiff, reduceIte, Value.cells, e0, e1, e2, hB1.cell, hB2.cell]; rfl) ?_
  intro h3 B3 hx3 hlt3 hB3
  replace hw := hw.ext hx3
  replace hh := hh.ext hx3
  replace hB1 := hB1.ext hx3
  replace hB2 := hB2.ext hx3
  refine WL.qq (by simp only [ev_tmp, ev_const, ev_func, set_get, Nat.reduceEqDiff, reduceIte, qv_assign, e0, e1, e2, hB1.cell, hB2.cell, hB3.cell]; rfl) ?_
  refine WL.nil ?_
  refine th_norm ?_
  refine hx_seq ?_
  refine hx_region ?_
  refine WL.qq (by simp only [ev_tmp, ev_const, ev_func, set_get, Nat.reduceEqDiff, reduceIte, qv_load, ld27, readN, List.getElem?_toArray, List.getElem?_cons_zero, List.getElem?_cons_succ, List.map_toArray, List.map_cons, List.map_nil, Option.map_some, Option.bind_some, Nat.zero_add, Nat.reduceAdd, e0, e1, e2, hB1.cell, hB2.cell, hB3.cell]; rfl) ?_
  refine WL.ce Try.call12 (by simp only [ev_tmp, ev_const, ev_func, set_get, Nat.reduceEqDiff, reduceIte, List.getElem?_toArray, List.getElem?_cons_zero, List.getElem?_cons_succ, List.map_toArray, List.map_cons, List.map_nil, Option.map_some, Option.bind_some, e0, e1, e2, hB1.cell, hB2.cell, hB3.cell]; exact c_made wk hol c c' hw hh lw) ?_
  rintro _ h4 ⟨hx4, q, b, rfl, hq⟩
  replace hw := hw.ext hx4
  replace hh := hh.ext hx4
  replace hB1 := hB1.ext hx4
  replace hB2 := hB2.ext hx4
  replace hB3 := hB3.ext hx4
  simp only [put_some]
  refine WL.qq (by simp only [ev_tmp, ev_const, ev_func, set_get, Nat.reduceEqDiff, reduceIte, qv_move, e0, e1, e2, hB1.cell, hB2.cell, hB3.cell]; rfl) ?_
  refine WL.qq (by simp only [ev_tmp, ev_const, ev_func, set_get, Nat.reduceEqDiff, reduceIte, qv_extract, List.getElem?_toArray, List.getElem?_cons_zero, List.getElem?_cons_succ, List.map_toArray, List.map_cons, List.map_nil, Option.map_some, Option.bind_some, e0, e1, e2, hB1.cell, hB2.cell, hB3.cell]; rfl) ?_
  refine WL.qq (by simp only [ev_tmp, ev_const, ev_func, set_get, Nat.reduceEqDiff, reduceIte, qv_extract, List.getElem?_toArray, List.getElem?_cons_zero, List.getElem?_cons_succ, List.map_toArray, List.map_cons, List.map_nil, Option.map_some, Option.bind_some, e0, e1, e2, hB1.cell, hB2.cell, hB3.cell]; rfl) ?_
  refine WL.qq (by simp only [ev_tmp, ev_const, ev_func, set_get, Nat.reduceEqDiff, reduceIte, qv_assign, e0, e1, e2, hB1.cell, hB2.cell, hB3.cell]; rfl) ?_
  refine WL.qq (by simp only [ev_tmp, ev_const, ev_func, set_get, Nat.reduceEqDiff, reduceIte, qv_assign, e0, e1, e2, hB1.cell, hB2.cell, hB3.cell]; rfl) ?_
  refine WL.nil ?_
  refine th_norm ?_
  refine hx_seq ?_
  refine hx_seq ?_
  refine hx_region ?_
  refine WL.cg Try.call13 (by simp only [ev_tmp, ev_const, ev_func, set_get, Nat.reduceEqDiff, reduceIte, List.getElem?_toArray, List.getElem?_cons_zero, List.getElem?_cons_succ, List.map_toArray, List.map_cons, List.map_nil, Option.map_some, Option.bind_some, e0, e1, e2, hB1.cell, hB2.cell, hB3.cell]; exact c_known47 _) ?_
  intro h5 hx5
  replace hw := hw.ext hx5
  replace hh := hh.ext hx5
  replace hB1 := hB1.ext hx5
  replace hB2 := hB2.ext hx5
  replace hB3 := hB3.ext hx5
  replace hq := hq.ext hx5
  refine WL.qq (by simp only [ev_tmp, ev_const, ev_func, set_get, Nat.reduceEqDiff, reduceIte, qv_unOp, unv_not, e0, e1, e2, hB1.cell, hB2.cell, hB3.cell]; rfl) ?_
  refine WL.qq (by simp only [ev_tmp, ev_const, ev_func, set_get, Nat.reduceEqDiff, reduceIte, qv_move, e0, e1, e2, hB1.cell, hB2.cell, hB3.cell]; rfl) ?_
  refine WL.cq (gd_at (t := 21) rfl (by simp only [ev_tmp, ev_const, ev_func, set_get, Nat.reduceEqDiff, reduceIte, e0, e1, e2, hB1.cell, hB2.cell, hB3.cell]; rfl)) (fun hg2_3 => by simp only [ev_tmp, ev_const, ev_func, set_get, Nat.reduceEqDiff, reduceIte, qv_move, e0, e1, e2, hB1.cell, hB2.cell, hB3.cell, hg2_3, Bool.false_eq_true, Bool.true_eq_false, eq_self, if_true, if_false, true_and, and_true, false_and, and_false]; rfl) ?_
  refine WL.cq (gd_at (t := 21) rfl (by simp only [ev_tmp, ev_const, ev_func, set_get, Nat.reduceEqDiff, reduceIte, e0, e1, e2, hB1.cell, hB2.cell, hB3.cell]; rfl)) (fun hg2_4 => by simp only [ev_tmp, ev_const, ev_func, set_get, Nat.reduceEqDiff, reduceIte, qv_unOp, unv_not, e0, e1, e2, hB1.cell, hB2.cell, hB3.cell, hg2_4, Bool.false_eq_true, Bool.true_eq_false, eq_self, if_true, if_false, true_and, and_true, false_and, and_false]; rfl) ?_
  refine WL.qq (by simp only [ev_tmp, ev_const, ev_func, set_get, Nat.reduceEqDiff, reduceIte, qv_pick, pk_and, pk_or, Bool.false_eq_true, Bool.true_eq_false, eq_self, if_true, if_false, true_and, and_true, false_and, and_false, e0, e1, e2, hB1.cell, hB2.cell, hB3.cell]; rfl) ?_
  refine WL.nil ?_
  refine th_norm ?_
  refine hx_cond (by simp only [ev_tmp, ev_const, ev_func, set_get, Nat.reduceEqDiff, reduceIte, e0, e1, e2, hB1.cell, hB2.cell, hB3.cell]; rfl) (fun hct24 => ?_) (fun hct24 => ?_)
  ·
    try simp only [decide_eq_true_eq, decide_eq_false_iff_not, Bool.and_eq_true, Bool.and_eq_false_iff, Bool.or_eq_true, Bool.or_eq_false_iff, Bool.not_eq_true', Bool.not_eq_false', Bool.not_eq_true, Bool.not_eq_false] at hct24
    refine hx_seq ?_
    refine hx_region ?_
    refine WL.cg Try.call13 (by simp only [ev_tmp, ev_const, ev_func, set_get, Nat.reduceEqDiff, reduceIte, List.getElem?_toArray, List.getElem?_cons_zero, List.getElem?_cons_succ, List.map_toArray, List.map_cons, List.map_nil, Option.map_some, Option.bind_some, e0, e1, e2, hB1.cell, hB2.cell, hB3.cell]; exact c_known47 _) ?_
    intro h6 hx6
    replace hw := hw.ext hx6
    replace hh := hh.ext hx6
    replace hB1 := hB1.ext hx6
    replace hB2 := hB2.ext hx6
    replace hB3 := hB3.ext hx6
    replace hq := hq.ext hx6
    refine WL.qq (by simp only [ev_tmp, ev_const, ev_func, set_get, Nat.reduceEqDiff, reduceIte, qv_assign, e0, e1, e2, hB1.cell, hB2.cell, hB3.cell]; rfl) ?_
    refine WL.nil ?_
    refine th_norm ?_
    refine hx_ret ?_
    refine th_ret ?_
    refine fin_ret [.tmp 6] rfl rfl (by simp only [ev_tmp, ev_const, ev_func, set_get, Nat.reduceEqDiff, reduceIte, resv, e0, e1, e2, hB1.cell, hB2.cell, hB3.cell]; rfl) ?_  -- ret 0 r3
    exact ⟨rfl, ((hx1).trans ((hx2).trans ((hx3).trans ((hx4).trans ((hx5).trans (hx6))))))⟩
  ·
    try simp only [decide_eq_true_eq, decide_eq_false_iff_not, Bool.and_eq_true, Bool.and_eq_false_iff, Bool.or_eq_true, Bool.or_eq_false_iff, Bool.not_eq_true', Bool.not_eq_false', Bool.not_eq_true, Bool.not_eq_false] at hct24
    have hb : b = true := by simpa using hct24
    obtain ⟨p, rfl, hc⟩ := hq hb
    obtain ⟨M, ce, hM⟩ : ∃ M ce, chgM [s0, s1, s2, s3, s4, s5] (some ⟨p, 0, none⟩) (busM wk (srt hol)) (d, m) (d', m') = (M, ce) := ⟨_, _, rfl⟩
    obtain ⟨w, hww⟩ : ∃ w : Int, w = if no = 0 ∧ 400 < d' - d then 8 else no := ⟨_, rfl⟩
    have hMn : (no ≠ 0 → M = [] ∧ ce = no) ∧ (no = 0 → 400 < d' - d → M = [] ∧ ce = 8) := by have hM2 := hM; simp only [chgM, val_fail2, hno] at hM2; refine ⟨fun hz => ?_, fun hz hl => ?_⟩; (rw [if_pos hz] at hM2; cases hM2; exact ⟨rfl, rfl⟩); (rw [if_neg (fun hh => hh hz), if_pos hl] at hM2; cases hM2; exact ⟨rfl, rfl⟩)
    refine hx_skip ?_
    refine th_norm ?_
    refine hx_seq ?_
    refine hx_region ?_
    refine WL.qq (by simp only [ev_tmp, ev_const, ev_func, set_get, Nat.reduceEqDiff, reduceIte, qv_load, ld24, readN, List.getElem?_toArray, List.getElem?_cons_zero, List.getElem?_cons_succ, List.map_toArray, List.map_cons, List.map_nil, Option.map_some, Option.bind_some, Nat.zero_add, Nat.reduceAdd, e0, e1, e2, hB1.cell, hB2.cell, hB3.cell]; rfl) ?_
    refine WL.qq (by simp only [ev_tmp, ev_const, ev_func, set_get, Nat.reduceEqDiff, reduceIte, qv_indexAddr, e0, e1, e2, hB1.cell, hB2.cell, hB3.cell]; (try simp (disch := omega) only [ix54, Int.toNat_natCast]); rfl) ?_
    refine WL.qq (by simp only [ev_tmp, ev_const, ev_func, set_get, Nat.reduceEqDiff, reduceIte, qv_load, ld29, readN, List.getElem?_toArray, List.getElem?_cons_zero, List.getElem?_cons_succ, List.map_toArray, List.map_cons, List.map_nil, Option.map_some, Option.bind_some, Nat.zero_add, Nat.reduceAdd, e0, e1, e2, hB1.cell, hB2.cell, hB3.cell]; rfl) ?_
    refine WL.qq (by simp only [ev_tmp, ev_const, ev_func, set_get, Nat.reduceEqDiff, reduceIte, qv_indexAddr, e0, e1, e2, hB1.cell, hB2.cell, hB3.cell]; (try simp (disch := omega) only [ix54, Int.toNat_natCast]); rfl) ?_
    refine WL.qq (by simp only [ev_tmp, ev_const, ev_func, set_get, Nat.reduceEqDiff, reduceIte, qv_load, ld29, readN, List.getElem?_toArray, List.getElem?_cons_zero, List.getElem?_cons_succ, List.map_toArray, List.map_cons, List.map_nil, Option.map_some, Option.bind_some, Nat.zero_add, Nat.reduceAdd, e0, e1, e2, hB1.cell, hB2.cell, hB3.cell]; rfl) ?_
    refine WL.qq (by simp only [ev_tmp, ev_const, ev_func, set_get, Nat.reduceEqDiff, reduceIte, qv_move, e0, e1, e2, hB1.cell, hB2.cell, hB3.cell]; rfl) ?_
    refine WL.ce Try.call25 (by simp only [ev_tmp, ev_const, ev_func, set_get, Nat.reduceEqDiff, reduceIte, List.getElem?_toArray, List.getElem?_cons_zero, List.getElem?_cons_succ, List.map_toArray, List.map_cons, List.map_nil, Option.map_some, Option.bind_some, e0, e1, e2, hB1.cell, hB2.cell, hB3.cell]; exact c_changesG s0 s1 s2 s3 s4 s5 d m d' m' _ wk (srt hol) hM (QCal.some hc)) ?_
    rintro _ h7 ⟨hx7, al, cp, rfl, hsl, hsn, hsc⟩
    replace hw := hw.ext hx7
    replace hh := hh.ext hx7
    replace hB1 := hB1.ext hx7
    replace hB2 := hB2.ext hx7
    replace hB3 := hB3.ext hx7
    replace hq := hq.ext hx7
    simp only [put_some]
    refine WL.qq (by simp only [ev_tmp, ev_const, ev_func, set_get, Nat.reduceEqDiff, reduceIte, qv_move, e0, e1, e2, hB1.cell, hB2.cell, hB3.cell]; rfl) ?_
    refine WL.qq (by simp only [ev_tmp, ev_const, ev_func, set_get, Nat.reduceEqDiff, reduceIte, qv_extract, List.getElem?_toArray, List.getElem?_cons_zero, List.getElem?_cons_succ, List.map_toArray, List.map_cons, List.map_nil, Option.map_some, Option.bind_some, e0, e1, e2, hB1.cell, hB2.cell, hB3.cell]; rfl) ?_
    refine WL.qq (by simp only [ev_tmp, ev_const, ev_func, set_get, Nat.reduceEqDiff, reduceIte, qv_extract, List.getElem?_toArray, List.getElem?_cons_zero, List.getElem?_cons_succ, List.map_toArray, List.map_cons, List.map_nil, Option.map_some, Option.bind_some, e0, e1, e2, hB1.cell, hB2.cell, hB3.cell]; rfl) ?_
    refine WL.qq (by simp only [ev_tmp, ev_const, ev_func, set_get, Nat.reduceEqDiff, reduceIte, qv_assign, e0, e1, e2, hB1.cell, hB2.cell, hB3.cell]; rfl) ?_
    refine WL.qq (by simp only [ev_tmp, ev_const, ev_func, set_get, Nat.reduceEqDiff, reduceIte, qv_assign, e0, e1, e2, hB1.cell, hB2.cell, hB3.cell]; rfl) ?_
    refine WL.nil ?_
    refine th_norm ?_
    refine hx_seq ?_
    refine hx_region ?_
    refine WL.qq (by simp only [ev_tmp, ev_const, ev_func, set_get, Nat.reduceEqDiff, reduceIte, qv_load, ld24, readN, List.getElem?_toArray, List.getElem?_cons_zero, List.getElem?_cons_succ, List.map_toArray, List.map_cons, List.map_nil, Option.map_some, Option.bind_some, Nat.zero_add, Nat.reduceAdd, e0, e1, e2, hB1.cell, hB2.cell, hB3.cell]; rfl) ?_
    refine WL.qq (by simp only [ev_tmp, ev_const, ev_func, set_get, Nat.reduceEqDiff, reduceIte, qv_indexAddr, e0, e1, e2, hB1.cell, hB2.cell, hB3.cell]; (try simp (disch := omega) only [ix54, Int.toNat_natCast]); rfl) ?_
    refine WL.qq (by simp only [ev_tmp, ev_const, ev_func, set_get, Nat.reduceEqDiff, reduceIte, qv_load, ld29, readN, List.getElem?_toArray, List.getElem?_cons_zero, List.getElem?_cons_succ, List.map_toArray, List.map_cons, List.map_nil, Option.map_some, Option.bind_some, Nat.zero_add, Nat.reduceAdd, e0, e1, e2, hB1.cell, hB2.cell, hB3.cell]; rfl) ?_
    refine WL.qq (by simp only [ev_tmp, ev_const, ev_func, set_get, Nat.reduceEqDiff, reduceIte, qv_indexAddr, e0, e1, e2, hB1.cell, hB2.cell, hB3.cell]; (try simp (disch := omega) only [ix54, Int.toNat_natCast]); rfl) ?_
    refine WL.qq (by simp only [ev_tmp, ev_const, ev_func, set_get, Nat.reduceEqDiff, reduceIte, qv_load, ld29, readN, List.getElem?_toArray, List.getElem?_cons_zero, List.getElem?_cons_succ, List.map_toArray, List.map_cons, List.map_nil, Option.map_some, Option.bind_some, Nat.zero_add, Nat.reduceAdd, e0, e1, e2, hB1.cell, hB2.cell, hB3.cell]; rfl) ?_
    refine WL.lit2 #[(.int .i64 0), (.int .i64 0), (.int .i64 0), (.int .i64 0)] Try.underlying84 sz29 zr29 (by decide) (by kernel_rfl) ⟨_, (by simp only [ev_tmp, ev_const, ev_func, set_get, Nat.reduceEqDiff, reduceIte, List.getElem?_toArray, List.getElem?_cons_zero, List.getElem?_cons_succ, List.map_toArray, List.map_cons, List.map_nil, Option.map_some, Option.bind_some, e0, e1, e2, hB1.cell, hB2.cell, hB3.cell]; simp [Instr.fill, Value.cells]; rfl), rfl⟩ ?_
    intro h8 B8 hx8 hlt8 hB8
    replace hw := hw.ext hx8
    replace hh := hh.ext hx8
    replace hB1 := hB1.ext hx8
    replace hB2 := hB2.ext hx8
    replace hB3 := hB3.ext hx8
    replace hq := hq.ext hx8
    replace hsl := hsl.ext hx8
    refine WL.cg Try.call15 (by simp only [ev_tmp, ev_const, ev_func, set_get, Nat.reduceEqDiff, reduceIte, List.getElem?_toArray, List.getElem?_cons_zero, List.getElem?_cons_succ, List.map_toArray, List.map_cons, List.map_nil, Option.map_some, Option.bind_some, e0, e1, e2, hB1.cell, hB2.cell, hB3.cell, hB8.cell]; exact HCalls.gv (by rw [hno]) (c_fails s0 s1 s2 s3 s4 s5 _ [(d, m), (d', m')] 2 (by simp) (SlC.two hB8))) ?_
    intro h9 hx9
    replace hw := hw.ext hx9
    replace hh := hh.ext hx9
    replace hB1 := hB1.ext hx9
    replace hB2 := hB2.ext hx9
    replace hB3 := hB3.ext hx9
    replace hq := hq.ext hx9
    replace hsl := hsl.ext hx9
    replace hB8 := hB8.ext hx9
    refine WL.qq (by simp only [ev_tmp, ev_const, ev_func, set_get, Nat.reduceEqDiff, reduceIte, qv_assign, e0, e1, e2, hB1.cell, hB2.cell, hB3.cell, hB8.cell]; rfl) ?_
    refine WL.nil ?_
    refine th_norm ?_
    refine hx_cutS [11, 43, 44, 45, 46, 47, 48, 49, 50, 51, 52, 53, 54] (fun e => e 11 = .int .i64 w) ?_ ?_
    ·
      refine hx_seq ?_
      refine hx_region ?_
      refine WL.qq (by simp only [ev_tmp, ev_const, ev_func, set_get, Nat.reduceEqDiff, reduceIte, qv_move, e0, e1, e2, hB1.cell, hB2.cell, hB3.cell, hB8.cell]; rfl) ?_
      refine WL.qq (by simp only [ev_tmp, ev_const, ev_func, set_get, Nat.reduceEqDiff, reduceIte, qv_binOp, binv_eql, eq3, Option.map_some, e0, e1, e2, hB1.cell, hB2.cell, hB3.cell, hB8.cell]; rfl) ?_
      refine WL.qq (by simp only [ev_tmp, ev_const, ev_func, set_get, Nat.reduceEqDiff, reduceIte, qv_move, e0, e1, e2, hB1.cell, hB2.cell, hB3.cell, hB8.cell]; rfl) ?_
      refine WL.cq (gd_at (t := 45) rfl (by simp only [ev_tmp, ev_const, ev_func, set_get, Nat.reduceEqDiff, reduceIte, e0, e1, e2, hB1.cell, hB2.cell, hB3.cell, hB8.cell]; rfl)) (fun hg6_3 => by have hq0 := hg6_3; (try simp only [decide_eq_true_eq, decide_eq_false_iff_not, Bool.and_eq_true, Bool.and_eq_false_iff, Bool.or_eq_true, Bool.or_eq_false_iff, Bool.not_eq_true', Bool.not_eq_false', Bool.not_eq_true, Bool.not_eq_false] at hq0); simp only [ev_tmp, ev_const, ev_func, set_get, Nat.reduceEqDiff, reduceIte, qv_indexAddr, e0, e1, e2, hB1.cell, hB2.cell, hB3.cell, hB8.cell, hg6_3, Bool.false_eq_true, Bool.true_eq_false, eq_self, if_true, if_false, true_and, and_true, false_and, and_false]; (try simp (disch := omega) only [ix54, Int.toNat_natCast]); rfl) ?_
      refine WL.cq (gd_at (t := 45) rfl (by simp only [ev_tmp, ev_const, ev_func, set_get, Nat.reduceEqDiff, reduceIte, e0, e1, e2, hB1.cell, hB2.cell, hB3.cell, hB8.cell]; rfl)) (fun hg6_4 => by simp only [ev_tmp, ev_const, ev_func, set_get, Nat.reduceEqDiff, reduceIte, qv_fieldAddr, fa29_0, Nat.zero_add, Nat.reduceAdd, e0, e1, e2, hB1.cell, hB2.cell, hB3.cell, hB8.cell, hg6_4, Bool.false_eq_true, Bool.true_eq_false, eq_self, if_true, if_false, true_and, and_true, false_and, and_false]; rfl) ?_
      refine WL.cq (gd_at (t := 45) rfl (by simp only [ev_tmp, ev_const, ev_func, set_get, Nat.reduceEqDiff, reduceIte, e0, e1, e2, hB1.cell, hB2.cell, hB3.cell, hB8.cell]; rfl)) (fun hg6_5 => by simp only [ev_tmp, ev_const, ev_func, set_get, Nat.reduceEqDiff, reduceIte, qv_load, ld3, readN, List.getElem?_toArray, List.getElem?_cons_zero, List.getElem?_cons_succ, List.map_toArray, List.map_cons, List.map_nil, Option.map_some, Option.bind_some, Nat.zero_add, Nat.reduceAdd, e0, e1, e2, hB1.cell, hB2.cell, hB3.cell, hB8.cell, hg6_5, Bool.false_eq_true, Bool.true_eq_false, eq_self, if_true, if_false, true_and, and_true, false_and, and_false]; rfl) ?_
      refine WL.cq (gd_at (t := 45) rfl (by simp only [ev_tmp, ev_const, ev_func, set_get, Nat.reduceEqDiff, reduceIte, e0, e1, e2, hB1.cell, hB2.cell, hB3.cell, hB8.cell]; rfl)) (fun hg6_6 => by have hq0 := hg6_6; (try simp only [decide_eq_true_eq, decide_eq_false_iff_not, Bool.and_eq_true, Bool.and_eq_false_iff, Bool.or_eq_true, Bool.or_eq_false_iff, Bool.not_eq_true', Bool.not_eq_false', Bool.not_eq_true, Bool.not_eq_false] at hq0); simp only [ev_tmp, ev_const, ev_func, set_get, Nat.reduceEqDiff, reduceIte, qv_indexAddr, e0, e1, e2, hB1.cell, hB2.cell, hB3.cell, hB8.cell, hg6_6, Bool.false_eq_true, Bool.true_eq_false, eq_self, if_true, if_false, true_and, and_true, false_and, and_false]; (try simp (disch := omega) only [ix54, Int.toNat_natCast]); rfl) ?_
      refine WL.cq (gd_at (t := 45) rfl (by simp only [ev_tmp, ev_const, ev_func, set_get, Nat.reduceEqDiff, reduceIte, e0, e1, e2, hB1.cell, hB2.cell, hB3.cell, hB8.cell]; rfl)) (fun hg6_7 => by simp only [ev_tmp, ev_const, ev_func, set_get, Nat.reduceEqDiff, reduceIte, qv_fieldAddr, fa29_0, Nat.zero_add, Nat.reduceAdd, e0, e1, e2, hB1.cell, hB2.cell, hB3.cell, hB8.cell, hg6_7, Bool.false_eq_true, Bool.true_eq_false, eq_self, if_true, if_false, true_and, and_true, false_and, and_false]; rfl) ?_
      refine WL.cq (gd_at (t := 45) rfl (by simp only [ev_tmp, ev_const, ev_func, set_get, Nat.reduceEqDiff, reduceIte, e0, e1, e2, hB1.cell, hB2.cell, hB3.cell, hB8.cell]; rfl)) (fun hg6_8 => by simp only [ev_tmp, ev_const, ev_func, set_get, Nat.reduceEqDiff, reduceIte, qv_load, ld3, readN, List.getElem?_toArray, List.getElem?_cons_zero, List.getElem?_cons_succ, List.map_toArray, List.map_cons, List.map_nil, Option.map_some, Option.bind_some, Nat.zero_add, Nat.reduceAdd, e0, e1, e2, hB1.cell, hB2.cell, hB3.cell, hB8.cell, hg6_8, Bool.false_eq_true, Bool.true_eq_false, eq_self, if_true, if_false, true_and, and_true, false_and, and_false]; rfl) ?_
      refine WL.cq (gd_at (t := 45) rfl (by simp only [ev_tmp, ev_const, ev_func, set_get, Nat.reduceEqDiff, reduceIte, e0, e1, e2, hB1.cell, hB2.cell, hB3.cell, hB8.cell]; rfl)) (fun hg6_9 => by have hn0 : no = 0 := (by simpa using hg6_9); have h2 := val_two (q := some ⟨p, 0, none⟩) (val_fail2.trans (hno.trans hn0)); simp only at h2; simp only [ev_tmp, ev_const, ev_func, set_get, Nat.reduceEqDiff, reduceIte, e0, e1, e2, hB1.cell, hB2.cell, hB3.cell, hB8.cell, qv_binOp, binv_sub, Bool.false_eq_true, Bool.true_eq_false, eq_self, if_true, if_false, true_and, and_true, false_and, and_false, hg6_9]; rw [w64 (by omega) (by omega)]) ?_
      refine WL.cq (gd_at (t := 45) rfl (by simp only [ev_tmp, ev_const, ev_func, set_get, Nat.reduceEqDiff, reduceIte, e0, e1, e2, hB1.cell, hB2.cell, hB3.cell, hB8.cell]; rfl)) (fun hg6_10 => by simp only [ev_tmp, ev_const, ev_func, set_get, Nat.reduceEqDiff, reduceIte, qv_binOp, binv_gtr, e0, e1, e2, hB1.cell, hB2.cell, hB3.cell, hB8.cell, hg6_10, Bool.false_eq_true, Bool.true_eq_false, eq_self, if_true, if_false, true_and, and_true, false_and, and_false]; rfl) ?_
      refine WL.qq (by simp only [ev_tmp, ev_const, ev_func, set_get, Nat.reduceEqDiff, reduceIte, qv_pick, pk_and, pk_or, Bool.false_eq_true, Bool.true_eq_false, eq_self, if_true, if_false, true_and, and_true, false_and, and_false, e0, e1, e2, hB1.cell, hB2.cell, hB3.cell, hB8.cell]; rfl) ?_
      refine WL.nil ?_
      refine th_norm ?_
      refine hx_cond (by simp only [ev_tmp, ev_const, ev_func, set_get, Nat.reduceEqDiff, reduceIte, e0, e1, e2, hB1.cell, hB2.cell, hB3.cell, hB8.cell]; rfl) (fun hct54 => ?_) (fun hct54 => ?_)
      ·
        try simp only [decide_eq_true_eq, decide_eq_false_iff_not, Bool.and_eq_true, Bool.and_eq_false_iff, Bool.or_eq_true, Bool.or_eq_false_iff, Bool.not_eq_true', Bool.not_eq_false', Bool.not_eq_true, Bool.not_eq_false] at hct54
        refine hx_region ?_
        refine WL.qq (by simp only [ev_tmp, ev_const, ev_func, set_get, Nat.reduceEqDiff, reduceIte, qv_assign, e0, e1, e2, hB1.cell, hB2.cell, hB3.cell, hB8.cell]; rfl) ?_
        refine WL.nil ?_
        refine th_norm ?_
        refine ⟨rfl, rfl, ?_, ?_⟩  -- meet 0 of cut 6
        · (repeat (first | exact Fr.refl _ _ | refine Fr.set rfl ?_ | refine Fr.put rfl ?_ | refine Fr.put0 ?_ | refine Fr.trans ?_ (Fr.of hfc6 rfl)))
        · simp only [ev_tmp, ev_const, ev_func, set_get, Nat.reduceEqDiff, reduceIte, e0, e1, e2, hB1.cell, hB2.cell, hB3.cell, hB8.cell] <;> first | (rw [hww, if_pos hct54]) | (rw [hww, if_neg (by omega)])
      ·
        try simp only [decide_eq_true_eq, decide_eq_false_iff_not, Bool.and_eq_true, Bool.and_eq_false_iff, Bool.or_eq_true, Bool.or_eq_false_iff, Bool.not_eq_true', Bool.not_eq_false', Bool.not_eq_true, Bool.not_eq_false] at hct54
        refine hx_skip ?_
        refine th_norm ?_
        refine ⟨rfl, rfl, ?_, ?_⟩  -- meet 1 of cut 6
        · (repeat (first | exact Fr.refl _ _ | refine Fr.set rfl ?_ | refine Fr.put rfl ?_ | refine Fr.put0 ?_ | refine Fr.trans ?_ (Fr.of hfc6 rfl)))
        · simp only [ev_tmp, ev_const, ev_func, set_get, Nat.reduceEqDiff, reduceIte, e0, e1, e2, hB1.cell, hB2.cell, hB3.cell, hB8.cell] <;> first | (rw [hww, if_pos hct54]) | (rw [hww, if_neg (by omega)])
    ·
      rintro ec6 hfc6 i11_c6
      have k3_c6 := hfc6 3 rfl; simp only [ev_tmp, ev_const, ev_func, set_get, Nat.reduceEqDiff, reduceIte, e0, e1, e2, hB1.cell, hB2.cell, hB3.cell, hB8.cell] at k3_c6
      have k4_c6 := hfc6 4 rfl; simp only [ev_tmp, ev_const, ev_func, set_get, Nat.reduceEqDiff, reduceIte, e0, e1, e2, hB1.cell, hB2.cell, hB3.cell, hB8.cell] at k4_c6
      have k5_c6 := hfc6 5 rfl; simp only [ev_tmp, ev_const, ev_func, set_get, Nat.reduceEqDiff, reduceIte, e0, e1, e2, hB1.cell, hB2.cell, hB3.cell, hB8.cell] at k5_c6
      have k6_c6 := hfc6 6 rfl; simp only [ev_tmp, ev_const, ev_func, set_get, Nat.reduceEqDiff, reduceIte, e0, e1, e2, hB1.cell, hB2.cell, hB3.cell, hB8.cell] at k6_c6
      have k9_c6 := hfc6 9 rfl; simp only [ev_tmp, ev_const, ev_func, set_get, Nat.reduceEqDiff, reduceIte, e0, e1, e2, hB1.cell, hB2.cell, hB3.cell, hB8.cell] at k9_c6
      have k10_c6 := hfc6 10 rfl; simp only [ev_tmp, ev_const, ev_func, set_get, Nat.reduceEqDiff, reduceIte, e0, e1, e2, hB1.cell, hB2.cell, hB3.cell, hB8.cell] at k10_c6
      refine hx_seq ?_
      refine hx_seq ?_
      refine hx_region ?_
      refine WL.qq (by simp only [ev_tmp, ev_const, ev_func, set_get, Nat.reduceEqDiff, reduceIte, qv_move, k3_c6, k4_c6, k5_c6, k6_c6, k9_c6, k10_c6, i11_c6, hB1.cell, hB2.cell, hB3.cell, hB8.cell]; rfl) ?_
      refine WL.qq (by simp only [ev_tmp, ev_const, ev_func, set_get, Nat.reduceEqDiff, reduceIte, qv_binOp, binv_neq, eq3, Option.map_some, k3_c6, k4_c6, k5_c6, k6_c6, k9_c6, k10_c6, i11_c6, hB1.cell, hB2.cell, hB3.cell, hB8.cell]; rfl) ?_
      refine WL.nil ?_
      refine th_norm ?_
      refine hx_cond (by simp only [ev_tmp, ev_const, ev_func, set_get, Nat.reduceEqDiff, reduceIte, k3_c6, k4_c6, k5_c6, k6_c6, k9_c6, k10_c6, i11_c6, hB1.cell, hB2.cell, hB3.cell, hB8.cell]; rfl) (fun hct56 => ?_) (fun hct56 => ?_)
      ·
        try simp only [decide_eq_true_eq, decide_eq_false_iff_not, Bool.and_eq_true, Bool.and_eq_false_iff, Bool.or_eq_true, Bool.or_eq_false_iff, Bool.not_eq_true', Bool.not_eq_false', Bool.not_eq_true, Bool.not_eq_false] at hct56
        obtain ⟨rfl, rfl⟩ : M = [] ∧ ce = w := by rcases (w_cases hww).1 hct56 with ⟨h7, h8, h9⟩ | ⟨h7, h8⟩; (rw [h9]; exact hMn.2 h7 h8); (rw [h8]; exact hMn.1 h7)
        refine hx_seq ?_
        refine hx_region ?_
        refine WL.qq (by simp only [ev_tmp, ev_const, ev_func, set_get, Nat.reduceEqDiff, reduceIte, qv_move, k3_c6, k4_c6, k5_c6, k6_c6, k9_c6, k10_c6, i11_c6, hB1.cell, hB2.cell, hB3.cell, hB8.cell]; rfl) ?_
        refine WL.qq (by simp only [ev_tmp, ev_const, ev_func, set_get, Nat.reduceEqDiff, reduceIte, qv_move, k3_c6, k4_c6, k5_c6, k6_c6, k9_c6, k10_c6, i11_c6, hB1.cell, hB2.cell, hB3.cell, hB8.cell]; rfl) ?_
        refine WL.qq (by simp only [ev_tmp, ev_const, ev_func, set_get, Nat.reduceEqDiff, reduceIte, qv_binOp, binv_eql, eq3, Option.map_some, k3_c6, k4_c6, k5_c6, k6_c6, k9_c6, k10_c6, i11_c6, hB1.cell, hB2.cell, hB3.cell, hB8.cell]; rfl) ?_
        refine WL.qq (by simp only [ev_tmp, ev_const, ev_func, set_get, Nat.reduceEqDiff, reduceIte, qv_move, k3_c6, k4_c6, k5_c6, k6_c6, k9_c6, k10_c6, i11_c6, hB1.cell, hB2.cell, hB3.cell, hB8.cell]; rfl) ?_
        refine WL.cq (gd_at (t := 60) rfl (by simp only [ev_tmp, ev_const, ev_func, set_get, Nat.reduceEqDiff, reduceIte, k3_c6, k4_c6, k5_c6, k6_c6, k9_c6, k10_c6, i11_c6, hB1.cell, hB2.cell, hB3.cell, hB8.cell]; rfl)) (fun hg9_4 => by simp only [ev_tmp, ev_const, ev_func, set_get, Nat.reduceEqDiff, reduceIte, qv_move, k3_c6, k4_c6, k5_c6, k6_c6, k9_c6, k10_c6, i11_c6, hB1.cell, hB2.cell, hB3.cell, hB8.cell, hg9_4, Bool.false_eq_true, Bool.true_eq_false, eq_self, if_true, if_false, true_and, and_true, false_and, and_false]; rfl) ?_
        refine WL.cq (gd_at (t := 60) rfl (by simp only [ev_tmp, ev_const, ev_func, set_get, Nat.reduceEqDiff, reduceIte, k3_c6, k4_c6, k5_c6, k6_c6, k9_c6, k10_c6, i11_c6, hB1.cell, hB2.cell, hB3.cell, hB8.cell]; rfl)) (fun hg9_5 => by simp only [ev_tmp, ev_const, ev_func, set_get, Nat.reduceEqDiff, reduceIte, qv_len, ln55, List.getElem?_toArray, List.getElem?_cons_zero, List.getElem?_cons_succ, List.map_toArray, List.map_cons, List.map_nil, Option.map_some, Option.bind_some, k3_c6, k4_c6, k5_c6, k6_c6, k9_c6, k10_c6, i11_c6, hB1.cell, hB2.cell, hB3.cell, hB8.cell, hg9_5, Bool.false_eq_true, Bool.true_eq_false, eq_self, if_true, if_false, true_and, and_true, false_and, and_false]; rfl) ?_
        refine WL.cq (gd_at (t := 60) rfl (by simp only [ev_tmp, ev_const, ev_func, set_get, Nat.reduceEqDiff, reduceIte, k3_c6, k4_c6, k5_c6, k6_c6, k9_c6, k10_c6, i11_c6, hB1.cell, hB2.cell, hB3.cell, hB8.cell]; rfl)) (fun hg9_6 => by simp only [ev_tmp, ev_const, ev_func, set_get, Nat.reduceEqDiff, reduceIte, qv_binOp, binv_eql, eq3, Option.map_some, k3_c6, k4_c6, k5_c6, k6_c6, k9_c6, k10_c6, i11_c6, hB1.cell, hB2.cell, hB3.cell, hB8.cell, hg9_6, Bool.false_eq_true, Bool.true_eq_false, eq_self, if_true, if_false, true_and, and_true, false_and, and_false]; rfl) ?_
        refine WL.qq (by simp only [ev_tmp, ev_const, ev_func, set_get, Nat.reduceEqDiff, reduceIte, qv_pick, pk_and, pk_or, Bool.false_eq_true, Bool.true_eq_false, eq_self, if_true, if_false, true_and, and_true, false_and, and_false, k3_c6, k4_c6, k5_c6, k6_c6, k9_c6, k10_c6, i11_c6, hB1.cell, hB2.cell, hB3.cell, hB8.cell]; rfl) ?_
        refine WL.qq (by simp only [ev_tmp, ev_const, ev_func, set_get, Nat.reduceEqDiff, reduceIte, qv_assign, k3_c6, k4_c6, k5_c6, k6_c6, k9_c6, k10_c6, i11_c6, hB1.cell, hB2.cell, hB3.cell, hB8.cell]; rfl) ?_
        refine WL.nil ?_
        refine th_norm ?_
        refine hx_ret ?_
        refine th_ret ?_
        refine fin_ret [.tmp 6] rfl rfl (by simp only [ev_tmp, ev_const, ev_func, set_get, Nat.reduceEqDiff, reduceIte, resv, k3_c6, k4_c6, k5_c6, k6_c6, k9_c6, k10_c6, i11_c6, hB1.cell, hB2.cell, hB3.cell, hB8.cell]; rfl) ?_  -- ret 1 r9
        exact ⟨by simp [retOf], ((hx1).trans ((hx2).trans ((hx3).trans ((hx4).trans ((hx5).trans ((hx7).trans ((hx8).trans (hx9))))))))⟩
      ·
        try simp only [decide_eq_true_eq, decide_eq_false_iff_not, Bool.and_eq_true, Bool.and_eq_false_iff, Bool.or_eq_true, Bool.or_eq_false_iff, Bool.not_eq_true', Bool.not_eq_false', Bool.not_eq_true, Bool.not_eq_false] at hct56
        obtain ⟨hn0, hnl⟩ := (w_cases hww).2 hct56
        have hq9 := chg_eq (a := ⟨p, 0, none⟩) (bus := busM wk (srt hol)) (hno.trans hn0) hnl
        rw [hM, busM_srt] at hq9
        obtain ⟨hMR, rfl⟩ : M = chgR (busM wk hol) [s0, s1, s2, s3, s4, s5] (d, m) (d', m') ∧ ce = 0 := by cases hq9; exact ⟨rfl, rfl⟩
        have h2 := val_two (q := some ⟨p, 0, none⟩) (val_fail2.trans (hno.trans hn0)); simp only at h2
        refine hx_skip ?_
        refine th_norm ?_
        refine hx_seq ?_
        apply hx_draw2 Rel.grows [9, 10] [4, 7] [(4, Spec.is _), (7, Spec.is _)] rfl (by decide +kernel) rfl
        refine LD.qq rfl rfl (by simp only [ev_tmp, ev_const, ev_func, set_get, Nat.reduceEqDiff, reduceIte, qv_fieldAddr, fa24_0, Nat.zero_add, Nat.reduceAdd, k3_c6, k4_c6, k5_c6, k6_c6, k9_c6, k10_c6, i11_c6, hB1.cell, hB2.cell, hB3.cell, hB8.cell]; rfl) ?_
        refine LD.qq rfl rfl (by simp only [ev_tmp, ev_const, ev_func, set_get, Nat.reduceEqDiff, reduceIte, qv_load, ld22, readN, List.getElem?_toArray, List.getElem?_cons_zero, List.getElem?_cons_succ, List.map_toArray, List.map_cons, List.map_nil, Option.map_some, Option.bind_some, Nat.zero_add, Nat.reduceAdd, k3_c6, k4_c6, k5_c6, k6_c6, k9_c6, k10_c6, i11_c6, hB1.cell, hB2.cell, hB3.cell, hB8.cell]; rfl) ?_
        refine LD.qq rfl rfl (by simp only [ev_tmp, ev_const, ev_func, set_get, Nat.reduceEqDiff, reduceIte, qv_indexAddr, k3_c6, k4_c6, k5_c6, k6_c6, k9_c6, k10_c6, i11_c6, hB1.cell, hB2.cell, hB3.cell, hB8.cell]; (try simp (disch := omega) only [ix54, Int.toNat_natCast]); rfl) ?_
        refine LD.qq rfl rfl (by simp only [ev_tmp, ev_const, ev_func, set_get, Nat.reduceEqDiff, reduceIte, qv_load, ld29, readN, List.getElem?_toArray, List.getElem?_cons_zero, List.getElem?_cons_succ, List.map_toArray, List.map_cons, List.map_nil, Option.map_some, Option.bind_some, Nat.zero_add, Nat.reduceAdd, k3_c6, k4_c6, k5_c6, k6_c6, k9_c6, k10_c6, i11_c6, hB1.cell, hB2.cell, hB3.cell, hB8.cell]; rfl) ?_
        refine LD.ck rfl rfl Try.call19 (by intro hD hr; have hx : Ext _ _ := hr; have hw := hw.ext hx; have hh := hh.ext hx; have hB1 := hB1.ext hx; have hB2 := hB2.ext hx; have hB3 := hB3.ext hx; have hq := hq.ext hx; have hsl := hsl.ext hx; have hB8 := hB8.ext hx; simp only [ev_tmp, ev_const, ev_func, set_get, Nat.reduceEqDiff, reduceIte, List.getElem?_toArray, List.getElem?_cons_zero, List.getElem?_cons_succ, List.map_toArray, List.map_cons, List.map_nil, Option.map_some, Option.bind_some, k3_c6, k4_c6, k5_c6, k6_c6, k9_c6, k10_c6, i11_c6, hB1.cell, hB2.cell, hB3.cell, hB8.cell]; exact c_to _ _ _) ?_
        refine LD.qq rfl rfl (by simp only [ev_tmp, ev_const, ev_func, set_get, Nat.reduceEqDiff, reduceIte, qv_indexAddr, k3_c6, k4_c6, k5_c6, k6_c6, k9_c6, k10_c6, i11_c6, hB1.cell, hB2.cell, hB3.cell, hB8.cell]; (try simp (disch := omega) only [ix54, Int.toNat_natCast]); rfl) ?_
        refine LD.qq rfl rfl (by simp only [ev_tmp, ev_const, ev_func, set_get, Nat.reduceEqDiff, reduceIte, qv_load, ld29, readN, List.getElem?_toArray, List.getElem?_cons_zero, List.getElem?_cons_succ, List.map_toArray, List.map_cons, List.map_nil, Option.map_some, Option.bind_some, Nat.zero_add, Nat.reduceAdd, k3_c6, k4_c6, k5_c6, k6_c6, k9_c6, k10_c6, i11_c6, hB1.cell, hB2.cell, hB3.cell, hB8.cell]; rfl) ?_
        refine LD.ck rfl rfl Try.call19 (by intro hD hr; have hx : Ext _ _ := hr; have hw := hw.ext hx; have hh := hh.ext hx; have hB1 := hB1.ext hx; have hB2 := hB2.ext hx; have hB3 := hB3.ext hx; have hq := hq.ext hx; have hsl := hsl.ext hx; have hB8 := hB8.ext hx; simp only [ev_tmp, ev_const, ev_func, set_get, Nat.reduceEqDiff, reduceIte, List.getElem?_toArray, List.getElem?_cons_zero, List.getElem?_cons_succ, List.map_toArray, List.map_cons, List.map_nil, Option.map_some, Option.bind_some, k3_c6, k4_c6, k5_c6, k6_c6, k9_c6, k10_c6, i11_c6, hB1.cell, hB2.cell, hB3.cell, hB8.cell]; exact c_to _ _ _) ?_
        refine LD.qq rfl rfl (by simp only [ev_tmp, ev_const, ev_func, set_get, Nat.reduceEqDiff, reduceIte, qv_load, ld27, readN, List.getElem?_toArray, List.getElem?_cons_zero, List.getElem?_cons_succ, List.map_toArray, List.map_cons, List.map_nil, Option.map_some, Option.bind_some, Nat.zero_add, Nat.reduceAdd, k3_c6, k4_c6, k5_c6, k6_c6, k9_c6, k10_c6, i11_c6, hB1.cell, hB2.cell, hB3.cell, hB8.cell]; rfl) ?_
        refine LD.skip rfl ?_
        refine LD.skip rfl ?_
        refine LD.nil ?_
        rintro h10 hx10 hF10
        replace hx10 : Ext _ _ := hx10
        replace hw := hw.ext hx10
        replace hh := hh.ext hx10
        replace hB1 := hB1.ext hx10
        replace hB2 := hB2.ext hx10
        replace hB3 := hB3.ext hx10
        replace hq := hq.ext hx10
        replace hsl := hsl.ext hx10
        replace hB8 := hB8.ext hx10
        refine WL.ce Try.call26 (by simp only [ev_tmp, ev_const, ev_func, set_get, Nat.reduceEqDiff, reduceIte, List.getElem?_toArray, List.getElem?_cons_zero, List.getElem?_cons_succ, List.map_toArray, List.map_cons, List.map_nil, Option.map_some, Option.bind_some, k3_c6, k4_c6, k5_c6, k6_c6, k9_c6, k10_c6, i11_c6, hB1.cell, hB2.cell, hB3.cell, hB8.cell]; exact c_rchangesG s0 s1 s2 s3 s4 s5 d m d' m' (by omega) (by omega) (by omega) (by omega) wk hol _ _ _ _ hMR.symm hw hh lw lh) ?_
        rintro _ h11 ⟨hx11, al2, cp2, rfl, hsl2, hRl⟩
        replace hw := hw.ext hx11
        replace hh := hh.ext hx11
        replace hB1 := hB1.ext hx11
        replace hB2 := hB2.ext hx11
        replace hB3 := hB3.ext hx11
        replace hq := hq.ext hx11
        replace hsl := hsl.ext hx11
        replace hB8 := hB8.ext hx11
        simp only [put_some]
        refine WL.qq (by simp only [ev_tmp, ev_const, ev_func, set_get, Nat.reduceEqDiff, reduceIte, qv_assign, k3_c6, k4_c6, k5_c6, k6_c6, k9_c6, k10_c6, i11_c6, hB1.cell, hB2.cell, hB3.cell, hB8.cell]; rfl) ?_
        refine WL.nil ?_
        refine th_norm ?_
        refine hx_seq ?_
        refine hx_seq ?_
        refine hx_region ?_
        refine WL.qq (by simp only [ev_tmp, ev_const, ev_func, set_get, Nat.reduceEqDiff, reduceIte, qv_move, k3_c6, k4_c6, k5_c6, k6_c6, k9_c6, k10_c6, i11_c6, hB1.cell, hB2.cell, hB3.cell, hB8.cell]; rfl) ?_
        refine WL.qq (by simp only [ev_tmp, ev_const, ev_func, set_get, Nat.reduceEqDiff, reduceIte, qv_binOp, binv_neq, eq34, Option.map_some, k3_c6, k4_c6, k5_c6, k6_c6, k9_c6, k10_c6, i11_c6, hB1.cell, hB2.cell, hB3.cell, hB8.cell]; rfl) ?_
        refine WL.qq (by simp only [ev_tmp, ev_const, ev_func, set_get, Nat.reduceEqDiff, reduceIte, qv_move, k3_c6, k4_c6, k5_c6, k6_c6, k9_c6, k10_c6, i11_c6, hB1.cell, hB2.cell, hB3.cell, hB8.cell]; rfl) ?_
        refine WL.cq (gd_at (t := 77) rfl (by simp only [ev_tmp, ev_const, ev_func, set_get, Nat.reduceEqDiff, reduceIte, k3_c6, k4_c6, k5_c6, k6_c6, k9_c6, k10_c6, i11_c6, hB1.cell, hB2.cell, hB3.cell, hB8.cell]; rfl)) (fun hg11_3 => by simp only [ev_tmp, ev_const, ev_func, set_get, Nat.reduceEqDiff, reduceIte, qv_move, k3_c6, k4_c6, k5_c6, k6_c6, k9_c6, k10_c6, i11_c6, hB1.cell, hB2.cell, hB3.cell, hB8.cell, hg11_3, Bool.false_eq_true, Bool.true_eq_false, eq_self, if_true, if_false, true_and, and_true, false_and, and_false]; rfl) ?_
        refine WL.cq (gd_at (t := 77) rfl (by simp only [ev_tmp, ev_const, ev_func, set_get, Nat.reduceEqDiff, reduceIte, k3_c6, k4_c6, k5_c6, k6_c6, k9_c6, k10_c6, i11_c6, hB1.cell, hB2.cell, hB3.cell, hB8.cell]; rfl)) (fun hg11_4 => by simp only [ev_tmp, ev_const, ev_func, set_get, Nat.reduceEqDiff, reduceIte, qv_len, ln55, List.getElem?_toArray, List.getElem?_cons_zero, List.getElem?_cons_succ, List.map_toArray, List.map_cons, List.map_nil, Option.map_some, Option.bind_some, k3_c6, k4_c6, k5_c6, k6_c6, k9_c6, k10_c6, i11_c6, hB1.cell, hB2.cell, hB3.cell, hB8.cell, hg11_4, Bool.false_eq_true, Bool.true_eq_false, eq_self, if_true, if_false, true_and, and_true, false_and, and_false]; rfl) ?_
        refine WL.cq (gd_at (t := 77) rfl (by simp only [ev_tmp, ev_const, ev_func, set_get, Nat.reduceEqDiff, reduceIte, k3_c6, k4_c6, k5_c6, k6_c6, k9_c6, k10_c6, i11_c6, hB1.cell, hB2.cell, hB3.cell, hB8.cell]; rfl)) (fun hg11_5 => by simp only [ev_tmp, ev_const, ev_func, set_get, Nat.reduceEqDiff, reduceIte, qv_move, k3_c6, k4_c6, k5_c6, k6_c6, k9_c6, k10_c6, i11_c6, hB1.cell, hB2.cell, hB3.cell, hB8.cell, hg11_5, Bool.false_eq_true, Bool.true_eq_false, eq_self, if_true, if_false, true_and, and_true, false_and, and_false]; rfl) ?_
        refine WL.cq (gd_at (t := 77) rfl (by simp only [ev_tmp, ev_const, ev_func, set_get, Nat.reduceEqDiff, reduceIte, k3_c6, k4_c6, k5_c6, k6_c6, k9_c6, k10_c6, i11_c6, hB1.cell, hB2.cell, hB3.cell, hB8.cell]; rfl)) (fun hg11_6 => by simp only [ev_tmp, ev_const, ev_func, set_get, Nat.reduceEqDiff, reduceIte, qv_len, ln58, List.getElem?_toArray, List.getElem?_cons_zero, List.getElem?_cons_succ, List.map_toArray, List.map_cons, List.map_nil, Option.map_some, Option.bind_some, k3_c6, k4_c6, k5_c6, k6_c6, k9_c6, k10_c6, i11_c6, hB1.cell, hB2.cell, hB3.cell, hB8.cell, hg11_6, Bool.false_eq_true, Bool.true_eq_false, eq_self, if_true, if_false, true_and, and_true, false_and, and_false]; rfl) ?_
        refine WL.cq (gd_at (t := 77) rfl (by simp only [ev_tmp, ev_const, ev_func, set_get, Nat.reduceEqDiff, reduceIte, k3_c6, k4_c6, k5_c6, k6_c6, k9_c6, k10_c6, i11_c6, hB1.cell, hB2.cell, hB3.cell, hB8.cell]; rfl)) (fun hg11_7 => by simp only [ev_tmp, ev_const, ev_func, set_get, Nat.reduceEqDiff, reduceIte, qv_binOp, binv_neq, eq3, Option.map_some, k3_c6, k4_c6, k5_c6, k6_c6, k9_c6, k10_c6, i11_c6, hB1.cell, hB2.cell, hB3.cell, hB8.cell, hg11_7, Bool.false_eq_true, Bool.true_eq_false, eq_self, if_true, if_false, true_and, and_true, false_and, and_false]; rfl) ?_
        refine WL.qq (by simp only [ev_tmp, ev_const, ev_func, set_get, Nat.reduceEqDiff, reduceIte, qv_pick, pk_and, pk_or, Bool.false_eq_true, Bool.true_eq_false, eq_self, if_true, if_false, true_and, and_true, false_and, and_false, k3_c6, k4_c6, k5_c6, k6_c6, k9_c6, k10_c6, i11_c6, hB1.cell, hB2.cell, hB3.cell, hB8.cell]; rfl) ?_
        refine WL.nil ?_
        refine th_norm ?_
        refine hx_cond (by simp only [ev_tmp, ev_const, ev_func, set_get, Nat.reduceEqDiff, reduceIte, k3_c6, k4_c6, k5_c6, k6_c6, k9_c6, k10_c6, i11_c6, hB1.cell, hB2.cell, hB3.cell, hB8.cell]; rfl) (fun hct83 => ?_) (fun hct83 => ?_)
        ·
          simp at hct83
        ·
          try simp only [decide_eq_true_eq, decide_eq_false_iff_not, Bool.and_eq_true, Bool.and_eq_false_iff, Bool.or_eq_true, Bool.or_eq_false_iff, Bool.not_eq_true', Bool.not_eq_false', Bool.not_eq_true, Bool.not_eq_false] at hct83
          refine hx_skip ?_
          refine th_norm ?_
          refine hx_seq ?_
          refine hx_seq ?_
          refine hx_region ?_
          refine WL.qq (by simp only [ev_tmp, ev_const, ev_func, set_get, Nat.reduceEqDiff, reduceIte, qv_assign, k3_c6, k4_c6, k5_c6, k6_c6, k9_c6, k10_c6, i11_c6, hB1.cell, hB2.cell, hB3.cell, hB8.cell]; rfl) ?_
          refine WL.nil ?_
          refine th_norm ?_
          refine hx_block ?_
          refine hx_loopX [6, 13, 84, 85, 86, 87, 88, 89, 90, 91, 92, 93, 94, 95, 96, 97, 98, 99] (fun k e => ∃ (i : Nat), M.length - i = k ∧ (i ≤ M.length) ∧ e 13 = .int .i64 i) _ ⟨0, rfl, ?_, ?_⟩ ?_
          · omega
          · simp only [ev_tmp, ev_const, ev_func, set_get, Nat.reduceEqDiff, reduceIte, k3_c6, k4_c6, k5_c6, k6_c6, k9_c6, k10_c6, i11_c6, hB1.cell, hB2.cell, hB3.cell, hB8.cell] <;> rfl
          ·
            rintro k e0L hL0 hX0 hfr0 ⟨i, rfl, hi, i13_0⟩
            replace hw := hw.ext hX0
            replace hh := hh.ext hX0
            replace hB1 := hB1.ext hX0
            replace hB2 := hB2.ext hX0
            replace hB3 := hB3.ext hX0
            replace hq := hq.ext hX0
            replace hsl := hsl.ext hX0
            replace hB8 := hB8.ext hX0
            replace hsl2 := hsl2.ext hX0
            have k9_0 := hfr0 9 rfl; simp only [ev_tmp, ev_const, ev_func, set_get, Nat.reduceEqDiff, reduceIte, k3_c6, k4_c6, k5_c6, k6_c6, k9_c6, k10_c6, i11_c6, hB1.cell, hB2.cell, hB3.cell, hB8.cell] at k9_0
            have k12_0 := hfr0 12 rfl; simp only [ev_tmp, ev_const, ev_func, set_get, Nat.reduceEqDiff, reduceIte, k3_c6, k4_c6, k5_c6, k6_c6, k9_c6, k10_c6, i11_c6, hB1.cell, hB2.cell, hB3.cell, hB8.cell] at k12_0
            refine hx_seq ?_
            refine hx_seq ?_
            refine hx_region ?_
            refine WL.qq (by simp only [ev_tmp, ev_const, ev_func, set_get, Nat.reduceEqDiff, reduceIte, qv_move, k9_0, k12_0, i13_0, hB1.cell, hB2.cell, hB3.cell, hB8.cell]; rfl) ?_
            refine WL.qq (by simp only [ev_tmp, ev_const, ev_func, set_get, Nat.reduceEqDiff, reduceIte, qv_move, k9_0, k12_0, i13_0, hB1.cell, hB2.cell, hB3.cell, hB8.cell]; rfl) ?_
            refine WL.qq (by simp only [ev_tmp, ev_const, ev_func, set_get, Nat.reduceEqDiff, reduceIte, qv_len, ln55, List.getElem?_toArray, List.getElem?_cons_zero, List.getElem?_cons_succ, List.map_toArray, List.map_cons, List.map_nil, Option.map_some, Option.bind_some, k9_0, k12_0, i13_0, hB1.cell, hB2.cell, hB3.cell, hB8.cell]; rfl) ?_
            refine WL.qq (by simp only [ev_tmp, ev_const, ev_func, set_get, Nat.reduceEqDiff, reduceIte, qv_binOp, binv_lss, k9_0, k12_0, i13_0, hB1.cell, hB2.cell, hB3.cell, hB8.cell]; rfl) ?_
            refine WL.nil ?_
            refine th_norm ?_
            refine hx_cond (by simp only [ev_tmp, ev_const, ev_func, set_get, Nat.reduceEqDiff, reduceIte, k9_0, k12_0, i13_0, hB1.cell, hB2.cell, hB3.cell, hB8.cell]; rfl) (fun hct87 => ?_) (fun hct87 => ?_)
            ·
              try simp only [decide_eq_true_eq, decide_eq_false_iff_not, Bool.and_eq_true, Bool.and_eq_false_iff, Bool.or_eq_true, Bool.or_eq_false_iff, Bool.not_eq_true', Bool.not_eq_false', Bool.not_eq_true, Bool.not_eq_false] at hct87
              obtain ⟨y, hy⟩ : ∃ y, M[i]? = some y := ⟨M[i]'(by omega), by simp⟩
              obtain ⟨b1, o1, rfl, hr1⟩ := hsl i y hy
              obtain ⟨b2, o2, rfl, hr2⟩ := hsl2 i y hy
              refine hx_skip ?_
              refine th_norm ?_
              refine hx_seq ?_
              refine hx_block ?_
              refine hx_seq ?_
              apply hx_draw2 Rel.grows [] [8] [(8, Spec.is _)] rfl (by decide +kernel) rfl
              refine LD.qq rfl rfl (by simp only [ev_tmp, ev_const, ev_func, set_get, Nat.reduceEqDiff, reduceIte, qv_move, k9_0, k12_0, i13_0, hB1.cell, hB2.cell, hB3.cell, hB8.cell]; rfl) ?_
              refine LD.qq rfl rfl (by simp only [ev_tmp, ev_const, ev_func, set_get, Nat.reduceEqDiff, reduceIte, qv_move, k9_0, k12_0, i13_0, hB1.cell, hB2.cell, hB3.cell, hB8.cell]; rfl) ?_
              refine LD.qq rfl rfl (by simp only [ev_tmp, ev_const, ev_func, set_get, Nat.reduceEqDiff, reduceIte, qv_indexAddr, k9_0, k12_0, i13_0, hB1.cell, hB2.cell, hB3.cell, hB8.cell]; (try simp (disch := omega) only [ix55, Int.toNat_natCast]); rfl) ?_
              refine LD.qq rfl rfl (by simp only [ev_tmp, ev_const, ev_func, set_get, Nat.reduceEqDiff, reduceIte, k9_0, k12_0, i13_0, hB1.cell, hB2.cell, hB3.cell, hB8.cell, qv_load, ld61, Int.toNat_natCast, hr1]; rfl) ?_
              refine LD.qq rfl rfl (by simp only [ev_tmp, ev_const, ev_func, set_get, Nat.reduceEqDiff, reduceIte, qv_move, k9_0, k12_0, i13_0, hB1.cell, hB2.cell, hB3.cell, hB8.cell]; rfl) ?_
              refine LD.qq rfl rfl (by simp only [ev_tmp, ev_const, ev_func, set_get, Nat.reduceEqDiff, reduceIte, qv_move, k9_0, k12_0, i13_0, hB1.cell, hB2.cell, hB3.cell, hB8.cell]; rfl) ?_
              refine LD.qq rfl rfl (by simp only [ev_tmp, ev_const, ev_func, set_get, Nat.reduceEqDiff, reduceIte, qv_indexAddr, k9_0, k12_0, i13_0, hB1.cell, hB2.cell, hB3.cell, hB8.cell]; (try simp (disch := omega) only [ix58, Int.toNat_natCast]); rfl) ?_
              refine LD.qq rfl rfl (by simp only [ev_tmp, ev_const, ev_func, set_get, Nat.reduceEqDiff, reduceIte, k9_0, k12_0, i13_0, hB1.cell, hB2.cell, hB3.cell, hB8.cell, qv_load, ld64, Int.toNat_natCast, hr2]; rfl) ?_
              refine LD.ck rfl rfl Try.call27 (by intro hD hr; have hx : Ext _ _ := hr; have hw := hw.ext hx; have hh := hh.ext hx; have hB1 := hB1.ext hx; have hB2 := hB2.ext hx; have hB3 := hB3.ext hx; have hq := hq.ext hx; have hsl := hsl.ext hx; have hB8 := hB8.ext hx; have hsl2 := hsl2.ext hx; simp only [ev_tmp, ev_const, ev_func, set_get, Nat.reduceEqDiff, reduceIte, List.getElem?_toArray, List.getElem?_cons_zero, List.getElem?_cons_succ, List.map_toArray, List.map_cons, List.map_nil, Option.map_some, Option.bind_some, k9_0, k12_0, i13_0, hB1.cell, hB2.cell, hB3.cell, hB8.cell]; exact c_change y _) ?_
              refine LD.qq rfl rfl (by simp only [ev_tmp, ev_const, ev_func, set_get, Nat.reduceEqDiff, reduceIte, qv_binOp, binv_neq, eqs61, Option.map_some, k9_0, k12_0, i13_0, hB1.cell, hB2.cell, hB3.cell, hB8.cell]; rfl) ?_
              refine LD.nil ?_
              rintro h12 hx12 hF16
              replace hx12 : Ext _ _ := hx12
              replace hw := hw.ext hx12
              replace hh := hh.ext hx12
              replace hB1 := hB1.ext hx12
              replace hB2 := hB2.ext hx12
              replace hB3 := hB3.ext hx12
              replace hq := hq.ext hx12
              replace hsl := hsl.ext hx12
              replace hB8 := hB8.ext hx12
              replace hsl2 := hsl2.ext hx12
              refine WL.nil ?_
              refine th_norm ?_
              refine hx_cond (by simp only [ev_tmp, ev_const, ev_func, set_get, Nat.reduceEqDiff, reduceIte, k9_0, k12_0, i13_0, hB1.cell, hB2.cell, hB3.cell, hB8.cell]; rfl) (fun hct99 => ?_) (fun hct99 => ?_)
              ·
                simp at hct99
              ·
                try simp only [decide_eq_true_eq, decide_eq_false_iff_not, Bool.and_eq_true, Bool.and_eq_false_iff, Bool.or_eq_true, Bool.or_eq_false_iff, Bool.not_eq_true', Bool.not_eq_false', Bool.not_eq_true, Bool.not_eq_false] at hct99
                refine hx_skip ?_
                refine bl_norm ?_
                refine th_norm ?_
                refine hx_region ?_
                refine WL.qq (by simp only [ev_tmp, ev_const, ev_func, set_get, Nat.reduceEqDiff, reduceIte, qv_move, k9_0, k12_0, i13_0, hB1.cell, hB2.cell, hB3.cell, hB8.cell]; rfl) ?_
                refine WL.qq (by simp only [ev_tmp, ev_const, ev_func, set_get, Nat.reduceEqDiff, reduceIte, qv_binOp, binv_add, k9_0, k12_0, i13_0, hB1.cell, hB2.cell, hB3.cell, hB8.cell]; (try simp (disch := omega) only [w64, w8, wu64]); rfl) ?_
                refine WL.qq (by simp only [ev_tmp, ev_const, ev_func, set_get, Nat.reduceEqDiff, reduceIte, qv_assign, k9_0, k12_0, i13_0, hB1.cell, hB2.cell, hB3.cell, hB8.cell]; rfl) ?_
                refine WL.nil ?_
                refine th_norm ?_
                refine ⟨rfl, ?_, ?_, _, ?_, i + 1, rfl, ?_, ?_⟩  -- again 0 of loop 0
                · exact hx12
                · (repeat (first | exact Fr.refl _ _ | refine Fr.set rfl ?_ | refine Fr.put rfl ?_ | refine Fr.put0 ?_ | refine Fr.trans ?_ (Fr.of hfc6 rfl)))
                · omega
                · omega
                · simp only [ev_tmp, ev_const, ev_func, set_get, Nat.reduceEqDiff, reduceIte, k9_0, k12_0, i13_0, hB1.cell, hB2.cell, hB3.cell, hB8.cell] <;> first | rfl | (congr 1; omega)
            ·
              try simp only [decide_eq_true_eq, decide_eq_false_iff_not, Bool.and_eq_true, Bool.and_eq_false_iff, Bool.or_eq_true, Bool.or_eq_false_iff, Bool.not_eq_true', Bool.not_eq_false', Bool.not_eq_true, Bool.not_eq_false] at hct87
              refine hx_exit ?_
              refine th_exit ?_
              refine th_exit ?_
              refine bl_hit ?_
              refine th_norm ?_
              refine hx_seq ?_
              refine hx_region ?_
              refine WL.qq (by simp only [ev_tmp, ev_const, ev_func, set_get, Nat.reduceEqDiff, reduceIte, qv_assign, k9_0, k12_0, i13_0, hB1.cell, hB2.cell, hB3.cell, hB8.cell]; rfl) ?_
              refine WL.nil ?_
              refine th_norm ?_
              refine hx_ret ?_
              refine fin_ret [.tmp 6] rfl rfl (by simp only [ev_tmp, ev_const, ev_func, set_get, Nat.reduceEqDiff, reduceIte, resv, k9_0, k12_0, i13_0, hB1.cell, hB2.cell, hB3.cell, hB8.cell]; rfl) ?_  -- ret 2 r18
              exact ⟨rfl, ((hx1).trans ((hx2).trans ((hx3).trans ((hx4).trans ((hx5).trans ((hx7).trans ((hx8).trans ((hx9).trans ((hx10).trans ((hx11).trans (hX0)))))))))))⟩
theorem next_no {s : List Int} {a : Addr} {bus : Int → Bool} {x : Int × Int} {no : Int} (hn : failM s [x] = no) : (no ≠ 0 → nextM s (some a) bus x = ((0, 0, 0), no)) ∧ (no = 0 → nextM s (some a) bus x = ((rnextM (begs bus s x)).1, if (rnextM (begs bus s x)).2 = true then 0 else 28)) := by
  unfold nextM rnextM
  rw [val_fail2, hn]
  refine ⟨fun h => by rw [if_pos h], fun h => ?_⟩
  rw [if_neg (fun hh => hh h)]
  cases (begs bus s x)[0]? <;> rfl
theorem l_next (s0 s1 s2 s3 s4 s5 d m : Int) (bd : ∀ x ∈ [d, m], (-9223372036854775808 ≤ x ∧ x ≤ 9223372036854775807)) (wk hol : List Int) (a a' : Option Addr) (c c' : Nat) {h : Heap} (hw : SlI h a wk) (hh : SlI h a' hol) (lw : wk.length ≤ 9223372036854775807) (lh : hol.length ≤ 9223372036854775807) :
    HCalls Try.prog 7 #[sch s0 s1 s2 s3 s4 s5, .agg #[.slice a wk.length c, .slice a' hol.length c'], .agg #[.int .i64 d, .int .i64 m]] h (Grow (.bool true) h) := by
  refine hcalls2 Try.func7 rfl (by decide +kernel) (by simp only [Try.ntmps7]; exact of_decide_eq_true rfl) ?_
  intro e hin
  have e0 := hin 0 _ rfl
  have e1 := hin 1 _ rfl
  have e2 := hin 2 _ rfl
  have hE : Ext h h := Ext.refl h
  obtain ⟨no, hno⟩ : ∃ no, failM [s0, s1, s2, s3, s4, s5] [(d, m)] = no := ⟨_, rfl⟩
  refine hx_seq ?_
  refine hx_region ?_
  refine WL.box2 (by simp only [ev_tmp, ev_const, ev_func, set_get, Nat.reduceEqDiff, reduceIte, Value.cells, e0, e1, e2, decide_true, Bool.and_self, Bool.true_and, Bool.and_true]; rfl) ?_
  intro h1 B1 hx1 hlt1 hB1
  replace hE := hE.trans hx1
  replace hw := hw.ext hx1
  replace hh := hh.ext hx1
  refine WL.box2 (by simp only [ev_tmp, ev_const, ev_func, set_get, Nat.reduceEqDiff, reduceIte, Value.cells, e0, e1, e2, decide_true, Bool.and_self, Bool.true_and, Bool.and_true, hB1.cell]; rfl) ?_
  intro h2 B2 hx2 hlt2 hB2
  replace hE := hE.trans hx2
  replace hw := hw.ext hx2
  replace hh := hh.ext hx2
  replace hB1 := hB1.ext hx2
  refine WL.box2 (by simp only [ev_tmp, ev_const, ev_func, set_get, Nat.reduceEqDiff, reduceIte, Value.cells, e0, e1, e2, decide_true, Bool.and_self, Bool.true_and, Bool.and_true, hB1.cell, hB2.cell]; rfl) ?_
  intro h3 B3 hx3 hlt3 hB3
  replace hE := hE.trans hx3
  replace hw := hw.ext hx3
  replace hh := hh.ext hx3
  replace hB1 := hB1.ext hx3
  replace hB2 := hB2.ext hx3
  refine WL.qq (by simp only [ev_tmp, ev_const, ev_func, set_get, Nat.reduceEqDiff, reduceIte, qv_assign, e0, e1, e2, decide_true, Bool.and_self, Bool.true_and, Bool.and_true, hB1.cell, hB2.cell, hB3.cell]; rfl) ?_
  refine WL.nil ?_
  refine th_norm ?_
  refine hx_seq ?_
  refine hx_region ?_
  refine WL.qq (by simp only [ev_tmp, ev_const, ev_func, set_get, Nat.reduceEqDiff, reduceIte, qv_load, ld27, readN, List.getElem?_toArray, List.getElem?_cons_zero, List.getElem?_cons_succ, List.map_toArray, List.map_cons, List.map_nil, Option.map_some, Option.bind_some, Nat.zero_add, Nat.reduceAdd, e0, e1, e2, decide_true, Bool.and_self, Bool.true_and, Bool.and_true, hB1.cell, hB2.cell, hB3.cell]; rfl) ?_
  refine WL.ce Try.call12 (by simp only [ev_tmp, ev_const, ev_func, set_get, Nat.reduceEqDiff, reduceIte, List.getElem?_toArray, List.getElem?_cons_zero, List.getElem?_cons_succ, List.map_toArray, List.map_cons, List.map_nil, Option.map_some, Option.bind_some, e0, e1, e2, decide_true, Bool.and_self, Bool.true_and, Bool.and_true, hB1.cell, hB2.cell, hB3.cell]; exact c_made wk hol c c' hw hh lw) ?_
  rintro _ h4 ⟨hx4, q, b, rfl, hq⟩
  replace hE := hE.trans hx4
  replace hw := hw.ext hx4
  replace hh := hh.ext hx4
  replace hB1 := hB1.ext hx4
  replace hB2 := hB2.ext hx4
  replace hB3 := hB3.ext hx4
  simp only [put_some]
  refine WL.qq (by simp only [ev_tmp, ev_const, ev_func, set_get, Nat.reduceEqDiff, reduceIte, qv_move, e0, e1, e2, decide_true, Bool.and_self, Bool.true_and, Bool.and_true, hB1.cell, hB2.cell, hB3.cell]; rfl) ?_
  refine WL.qq (by simp only [ev_tmp, ev_const, ev_func, set_get, Nat.reduceEqDiff, reduceIte, qv_extract, List.getElem?_toArray, List.getElem?_cons_zero, List.getElem?_cons_succ, List.map_toArray, List.map_cons, List.map_nil, Option.map_some, Option.bind_some, e0, e1, e2, decide_true, Bool.and_self, Bool.true_and, Bool.and_true, hB1.cell, hB2.cell, hB3.cell]; rfl) ?_
  refine WL.qq (by simp only [ev_tmp, ev_const, ev_func, set_get, Nat.reduceEqDiff, reduceIte, qv_extract, List.getElem?_toArray, List.getElem?_cons_zero, List.getElem?_cons_succ, List.map_toArray, List.map_cons, List.map_nil, Option.map_some, Option.bind_some, e0, e1, e2, decide_true, Bool.and_self, Bool.true_and, Bool.and_true, hB1.cell, hB2.cell, hB3.cell]; rfl) ?_
  refine WL.qq (by simp only [ev_tmp, ev_const, ev_func, set_get, Nat.reduceEqDiff, reduceIte, qv_assign, e0, e1, e2, decide_true, Bool.and_self, Bool.true_and, Bool.and_true, hB1.cell, hB2.cell, hB3.cell]; rfl) ?_
  refine WL.qq (by simp only [ev_tmp, ev_const, ev_func, set_get, Nat.reduceEqDiff, reduceIte, qv_assign, e0, e1, e2, decide_true, Bool.and_self, Bool.true_and, Bool.and_true, hB1.cell, hB2.cell, hB3.cell]; rfl) ?_
  refine WL.nil ?_
  refine th_norm ?_
  refine hx_seq ?_
  refine hx_seq ?_
  refine hx_region ?_
  refine WL.cg Try.call13 (by simp only [ev_tmp, ev_const, ev_func, set_get, Nat.reduceEqDiff, reduceIte, List.getElem?_toArray, List.getElem?_cons_zero, List.getElem?_cons_succ, List.map_toArray, List.map_cons, List.map_nil, Option.map_some, Option.bind_some, e0, e1, e2, decide_true, Bool.and_self, Bool.true_and, Bool.and_true, hB1.cell, hB2.cell, hB3.cell]; exact c_known47 _) ?_
  intro h5 hx5
  replace hE := hE.trans hx5
  replace hw := hw.ext hx5
  replace hh := hh.ext hx5
  replace hB1 := hB1.ext hx5
  replace hB2 := hB2.ext hx5
  replace hB3 := hB3.ext hx5
  replace hq := hq.ext hx5
  refine WL.qq (by simp only [ev_tmp, ev_const, ev_func, set_get, Nat.reduceEqDiff, reduceIte, qv_unOp, unv_not, e0, e1, e2, decide_true, Bool.and_self, Bool.true_and, Bool.and_true, hB1.cell, hB2.cell, hB3.cell]; rfl) ?_
  refine WL.qq (by simp only [ev_tmp, ev_const, ev_func, set_get, Nat.reduceEqDiff, reduceIte, qv_move, e0, e1, e2, decide_true, Bool.and_self, Bool.true_and, Bool.and_true, hB1.cell, hB2.cell, hB3.cell]; rfl) ?_
  refine WL.cq (gd_at (t := 23) rfl (by simp only [ev_tmp, ev_const, ev_func, set_get, Nat.reduceEqDiff, reduceIte, e0, e1, e2, decide_true, Bool.and_self, Bool.true_and, Bool.and_true, hB1.cell, hB2.cell, hB3.cell]; rfl)) (fun hg2_3 => by simp only [ev_tmp, ev_const, ev_func, set_get, Nat.reduceEqDiff, reduceIte, qv_move, e0, e1, e2, decide_true, Bool.and_self, Bool.true_and, Bool.and_true, hB1.cell, hB2.cell, hB3.cell, hg2_3, Bool.false_eq_true, Bool.true_eq_false, eq_self, if_true, if_false, true_and, and_true, false_and, and_false]; rfl) ?_
  refine WL.cq (gd_at (t := 23) rfl (by simp only [ev_tmp, ev_const, ev_func, set_get, Nat.reduceEqDiff, reduceIte, e0, e1, e2, decide_true, Bool.and_self, Bool.true_and, Bool.and_true, hB1.cell, hB2.cell, hB3.cell]; rfl)) (fun hg2_4 => by simp only [ev_tmp, ev_const, ev_func, set_get, Nat.reduceEqDiff, reduceIte, qv_unOp, unv_not, e0, e1, e2, decide_true, Bool.and_self, Bool.true_and, Bool.and_true, hB1.cell, hB2.cell, hB3.cell, hg2_4, Bool.false_eq_true, Bool.true_eq_false, eq_self, if_true, if_false, true_and, and_true, false_and, and_false]; rfl) ?_
  refine WL.qq (by simp only [ev_tmp, ev_const, ev_func, set_get, Nat.reduceEqDiff, reduceIte, qv_pick, pk_and, pk_or, Bool.false_eq_true, Bool.true_eq_false, eq_self, if_true, if_false, true_and, and_true, false_and, and_false, e0, e1, e2, decide_true, Bool.and_self, Bool.true_and, Bool.and_true, hB1.cell, hB2.cell, hB3.cell]; rfl) ?_
  refine WL.nil ?_
  refine th_norm ?_
  refine hx_cond (by simp only [ev_tmp, ev_const, ev_func, set_get, Nat.reduceEqDiff, reduceIte, e0, e1, e2, decide_true, Bool.and_self, Bool.true_and, Bool.and_true, hB1.cell, hB2.cell, hB3.cell]; rfl) (fun hct26 => ?_) (fun hct26 => ?_)
  ·
    try simp only [decide_eq_true_eq, decide_eq_false_iff_not, Bool.and_eq_true, Bool.and_eq_false_iff, Bool.or_eq_true, Bool.or_eq_false_iff, Bool.not_eq_true', Bool.not_eq_false', Bool.not_eq_true, Bool.not_eq_false] at hct26
    refine hx_seq ?_
    refine hx_region ?_
    refine WL.cg Try.call13 (by simp only [ev_tmp, ev_const, ev_func, set_get, Nat.reduceEqDiff, reduceIte, List.getElem?_toArray, List.getElem?_cons_zero, List.getElem?_cons_succ, List.map_toArray, List.map_cons, List.map_nil, Option.map_some, Option.bind_some, e0, e1, e2, decide_true, Bool.and_self, Bool.true_and, Bool.and_true, hB1.cell, hB2.cell, hB3.cell]; exact c_known47 _) ?_
    intro h6 hx6
    replace hE := hE.trans hx6
    replace hw := hw.ext hx6
    replace hh := hh.ext hx6
    replace hB1 := hB1.ext hx6
    replace hB2 := hB2.ext hx6
    replace hB3 := hB3.ext hx6
    replace hq := hq.ext hx6
    refine WL.qq (by simp only [ev_tmp, ev_const, ev_func, set_get, Nat.reduceEqDiff, reduceIte, qv_assign, e0, e1, e2, decide_true, Bool.and_self, Bool.true_and, Bool.and_true, hB1.cell, hB2.cell, hB3.cell]; rfl) ?_
    refine WL.nil ?_
    refine th_norm ?_
    refine hx_ret ?_
    refine th_ret ?_
    refine fin_ret [.tmp 6] rfl rfl (by simp only [ev_tmp, ev_const, ev_func, set_get, Nat.reduceEqDiff, reduceIte, resv, e0, e1, e2, decide_true, Bool.and_self, Bool.true_and, Bool.and_true, hB1.cell, hB2.cell, hB3.cell]; rfl) ?_  -- ret 0 r3
    exact ⟨rfl, hE⟩
  ·
    try simp only [decide_eq_true_eq, decide_eq_false_iff_not, Bool.and_eq_true, Bool.and_eq_false_iff, Bool.or_eq_true, Bool.or_eq_false_iff, Bool.not_eq_true', Bool.not_eq_false', Bool.not_eq_true, Bool.not_eq_false] at hct26
    have hb : b = true := by simpa using hct26
    obtain ⟨p, rfl, hc⟩ := hq hb
    obtain ⟨n, ne, hN⟩ : ∃ n ne, nextM [s0, s1, s2, s3, s4, s5] (some ⟨p, 0, none⟩) (busM wk (srt hol)) (d, m) = (n, ne) := ⟨_, _, rfl⟩
    have hN2 := next_no (a := ⟨p, 0, none⟩) (bus := busM wk (srt hol)) hno; rw [hN] at hN2
    refine hx_skip ?_
    refine th_norm ?_
    refine hx_seq ?_
    refine hx_region ?_
    refine WL.qq (by simp only [ev_tmp, ev_const, ev_func, set_get, Nat.reduceEqDiff, reduceIte, qv_load, ld24, readN, List.getElem?_toArray, List.getElem?_cons_zero, List.getElem?_cons_succ, List.map_toArray, List.map_cons, List.map_nil, Option.map_some, Option.bind_some, Nat.zero_add, Nat.reduceAdd, e0, e1, e2, decide_true, Bool.and_self, Bool.true_and, Bool.and_true, hB1.cell, hB2.cell, hB3.cell]; rfl) ?_
    refine WL.qq (by simp only [ev_tmp, ev_const, ev_func, set_get, Nat.reduceEqDiff, reduceIte, qv_load, ld29, readN, List.getElem?_toArray, List.getElem?_cons_zero, List.getElem?_cons_succ, List.map_toArray, List.map_cons, List.map_nil, Option.map_some, Option.bind_some, Nat.zero_add, Nat.reduceAdd, e0, e1, e2, decide_true, Bool.and_self, Bool.true_and, Bool.and_true, hB1.cell, hB2.cell, hB3.cell]; rfl) ?_
    refine WL.qq (by simp only [ev_tmp, ev_const, ev_func, set_get, Nat.reduceEqDiff, reduceIte, qv_move, e0, e1, e2, decide_true, Bool.and_self, Bool.true_and, Bool.and_true, hB1.cell, hB2.cell, hB3.cell]; rfl) ?_
    refine WL.cg Try.call28 (by simp only [ev_tmp, ev_const, ev_func, set_get, Nat.reduceEqDiff, reduceIte, List.getElem?_toArray, List.getElem?_cons_zero, List.getElem?_cons_succ, List.map_toArray, List.map_cons, List.map_nil, Option.map_some, Option.bind_some, e0, e1, e2, decide_true, Bool.and_self, Bool.true_and, Bool.and_true, hB1.cell, hB2.cell, hB3.cell]; exact c_snext s0 s1 s2 s3 s4 s5 d m _ wk (srt hol) hN (QCal.some hc)) ?_
    intro h7 hx7
    replace hE := hE.trans hx7
    replace hw := hw.ext hx7
    replace hh := hh.ext hx7
    replace hB1 := hB1.ext hx7
    replace hB2 := hB2.ext hx7
    replace hB3 := hB3.ext hx7
    replace hq := hq.ext hx7
    refine WL.qq (by simp only [ev_tmp, ev_const, ev_func, set_get, Nat.reduceEqDiff, reduceIte, qv_move, e0, e1, e2, decide_true, Bool.and_self, Bool.true_and, Bool.and_true, hB1.cell, hB2.cell, hB3.cell]; rfl) ?_
    refine WL.qq (by simp only [ev_tmp, ev_const, ev_func, set_get, Nat.reduceEqDiff, reduceIte, qv_extract, List.getElem?_toArray, List.getElem?_cons_zero, List.getElem?_cons_succ, List.map_toArray, List.map_cons, List.map_nil, Option.map_some, Option.bind_some, e0, e1, e2, decide_true, Bool.and_self, Bool.true_and, Bool.and_true, hB1.cell, hB2.cell, hB3.cell]; rfl) ?_
    refine WL.qq (by simp only [ev_tmp, ev_const, ev_func, set_get, Nat.reduceEqDiff, reduceIte, qv_extract, List.getElem?_toArray, List.getElem?_cons_zero, List.getElem?_cons_succ, List.map_toArray, List.map_cons, List.map_nil, Option.map_some, Option.bind_some, e0, e1, e2, decide_true, Bool.and_self, Bool.true_and, Bool.and_true, hB1.cell, hB2.cell, hB3.cell]; rfl) ?_
    refine WL.allocSt zr61 sz61 (fun u => by simp only [ev_tmp, ev_const, ev_func, set_get, Nat.reduceEqDiff, reduceIte, Value.cells, e0, e1, e2, decide_true, Bool.and_self, Bool.true_and, Bool.and_true, hB1.cell, hB2.cell, hB3.cell]; rfl) ⟨rfl, rfl⟩ (by simp [Value.oneCell']) ?_
    intro h8 B8 hx8 hlt8 hB8
    replace hE := hE.trans hx8
    replace hw := hw.ext hx8
    replace hh := hh.ext hx8
    replace hB1 := hB1.ext hx8
    replace hB2 := hB2.ext hx8
    replace hB3 := hB3.ext hx8
    replace hq := hq.ext hx8
    refine WL.qq (by simp only [ev_tmp, ev_const, ev_func, set_get, Nat.reduceEqDiff, reduceIte, qv_assign, e0, e1, e2, decide_true, Bool.and_self, Bool.true_and, Bool.and_true, hB1.cell, hB2.cell, hB3.cell, hB8.cell]; rfl) ?_
    refine WL.nil ?_
    refine th_norm ?_
    refine hx_seq ?_
    refine hx_seq ?_
    refine hx_region ?_
    refine WL.qq (by simp only [ev_tmp, ev_const, ev_func, set_get, Nat.reduceEqDiff, reduceIte, qv_load, ld24, readN, List.getElem?_toArray, List.getElem?_cons_zero, List.getElem?_cons_succ, List.map_toArray, List.map_cons, List.map_nil, Option.map_some, Option.bind_some, Nat.zero_add, Nat.reduceAdd, e0, e1, e2, decide_true, Bool.and_self, Bool.true_and, Bool.and_true, hB1.cell, hB2.cell, hB3.cell, hB8.cell]; rfl) ?_
    refine WL.qq (by simp only [ev_tmp, ev_const, ev_func, set_get, Nat.reduceEqDiff, reduceIte, qv_load, ld29, readN, List.getElem?_toArray, List.getElem?_cons_zero, List.getElem?_cons_succ, List.map_toArray, List.map_cons, List.map_nil, Option.map_some, Option.bind_some, Nat.zero_add, Nat.reduceAdd, e0, e1, e2, decide_true, Bool.and_self, Bool.true_and, Bool.and_true, hB1.cell, hB2.cell, hB3.cell, hB8.cell]; rfl) ?_
    refine WL.lit2 #[(.int .i64 0), (.int .i64 0)] Try.underlying84 sz29 zr29 (by decide) (by kernel_rfl) ⟨_, (by simp only [ev_tmp, ev_const, ev_func, set_get, Nat.reduceEqDiff, reduceIte, List.getElem?_toArray, List.getElem?_cons_zero, List.getElem?_cons_succ, List.map_toArray, List.map_cons, List.map_nil, Option.map_some, Option.bind_some, e0, e1, e2, decide_true, Bool.and_self, Bool.true_and, Bool.and_true, hB1.cell, hB2.cell, hB3.cell, hB8.cell]; simp [Instr.fill, Value.cells]; rfl), rfl⟩ ?_
    intro h9 B9 hx9 hlt9 hB9
    replace hE := hE.trans hx9
    replace hw := hw.ext hx9
    replace hh := hh.ext hx9
    replace hB1 := hB1.ext hx9
    replace hB2 := hB2.ext hx9
    replace hB3 := hB3.ext hx9
    replace hq := hq.ext hx9
    replace hB8 := hB8.ext hx9
    refine WL.cg Try.call15 (by simp only [ev_tmp, ev_const, ev_func, set_get, Nat.reduceEqDiff, reduceIte, List.getElem?_toArray, List.getElem?_cons_zero, List.getElem?_cons_succ, List.map_toArray, List.map_cons, List.map_nil, Option.map_some, Option.bind_some, e0, e1, e2, decide_true, Bool.and_self, Bool.true_and, Bool.and_true, hB1.cell, hB2.cell, hB3.cell, hB8.cell, hB9.cell]; exact HCalls.gv (by rw [hno]) (c_fails s0 s1 s2 s3 s4 s5 _ [(d, m)] 1 (by simp) (SlC.one hB9))) ?_
    intro h10 hx10
    replace hE := hE.trans hx10
    replace hw := hw.ext hx10
    replace hh := hh.ext hx10
    replace hB1 := hB1.ext hx10
    replace hB2 := hB2.ext hx10
    replace hB3 := hB3.ext hx10
    replace hq := hq.ext hx10
    replace hB8 := hB8.ext hx10
    replace hB9 := hB9.ext hx10
    refine WL.qq (by simp only [ev_tmp, ev_const, ev_func, set_get, Nat.reduceEqDiff, reduceIte, qv_assign, e0, e1, e2, decide_true, Bool.and_self, Bool.true_and, Bool.and_true, hB1.cell, hB2.cell, hB3.cell, hB8.cell, hB9.cell]; rfl) ?_
    refine WL.nil ?_
    refine th_norm ?_
    refine hx_seq ?_
    refine hx_region ?_
    refine WL.qq (by simp only [ev_tmp, ev_const, ev_func, set_get, Nat.reduceEqDiff, reduceIte, qv_move, e0, e1, e2, decide_true, Bool.and_self, Bool.true_and, Bool.and_true, hB1.cell, hB2.cell, hB3.cell, hB8.cell, hB9.cell]; rfl) ?_
    refine WL.qq (by simp only [ev_tmp, ev_const, ev_func, set_get, Nat.reduceEqDiff, reduceIte, qv_binOp, binv_neq, eq3, Option.map_some, e0, e1, e2, decide_true, Bool.and_self, Bool.true_and, Bool.and_true, hB1.cell, hB2.cell, hB3.cell, hB8.cell, hB9.cell]; rfl) ?_
    refine WL.nil ?_
    refine th_norm ?_
    refine hx_cond (by simp only [ev_tmp, ev_const, ev_func, set_get, Nat.reduceEqDiff, reduceIte, e0, e1, e2, decide_true, Bool.and_self, Bool.true_and, Bool.and_true, hB1.cell, hB2.cell, hB3.cell, hB8.cell, hB9.cell]; rfl) (fun hct40 => ?_) (fun hct40 => ?_)
    ·
      try simp only [decide_eq_true_eq, decide_eq_false_iff_not, Bool.and_eq_true, Bool.and_eq_false_iff, Bool.or_eq_true, Bool.or_eq_false_iff, Bool.not_eq_true', Bool.not_eq_false', Bool.not_eq_true, Bool.not_eq_false] at hct40
      have h9 := hN2.1 hct40; cases h9
      refine hx_seq ?_
      refine hx_region ?_
      refine WL.qq (by simp only [ev_tmp, ev_const, ev_func, set_get, Nat.reduceEqDiff, reduceIte, qv_move, e0, e1, e2, decide_true, Bool.and_self, Bool.true_and, Bool.and_true, hB1.cell, hB2.cell, hB3.cell, hB8.cell, hB9.cell]; rfl) ?_
      refine WL.qq (by simp only [ev_tmp, ev_const, ev_func, set_get, Nat.reduceEqDiff, reduceIte, qv_move, e0, e1, e2, decide_true, Bool.and_self, Bool.true_and, Bool.and_true, hB1.cell, hB2.cell, hB3.cell, hB8.cell, hB9.cell]; rfl) ?_
      refine WL.qq (by simp only [ev_tmp, ev_const, ev_func, set_get, Nat.reduceEqDiff, reduceIte, qv_binOp, binv_eql, eq3, Option.map_some, e0, e1, e2, decide_true, Bool.and_self, Bool.true_and, Bool.and_true, hB1.cell, hB2.cell, hB3.cell, hB8.cell, hB9.cell]; rfl) ?_
      refine WL.qq (by simp only [ev_tmp, ev_const, ev_func, set_get, Nat.reduceEqDiff, reduceIte, qv_move, e0, e1, e2, decide_true, Bool.and_self, Bool.true_and, Bool.and_true, hB1.cell, hB2.cell, hB3.cell, hB8.cell, hB9.cell]; rfl) ?_
      refine WL.cq (gd_at (t := 44) rfl (by simp only [ev_tmp, ev_const, ev_func, set_get, Nat.reduceEqDiff, reduceIte, e0, e1, e2, decide_true, Bool.and_self, Bool.true_and, Bool.and_true, hB1.cell, hB2.cell, hB3.cell, hB8.cell, hB9.cell]; rfl)) (fun hg7_4 => by simp only [ev_tmp, ev_const, ev_func, set_get, Nat.reduceEqDiff, reduceIte, qv_load, ld61, readN, List.getElem?_toArray, List.getElem?_cons_zero, List.getElem?_cons_succ, List.map_toArray, List.map_cons, List.map_nil, Option.map_some, Option.bind_some, Nat.zero_add, Nat.reduceAdd, e0, e1, e2, decide_true, Bool.and_self, Bool.true_and, Bool.and_true, hB1.cell, hB2.cell, hB3.cell, hB8.cell, hB9.cell, hg7_4, Bool.false_eq_true, Bool.true_eq_false, eq_self, if_true, if_false, true_and, and_true, false_and, and_false]; rfl) ?_
      refine WL.cq (gd_at (t := 44) rfl (by simp only [ev_tmp, ev_const, ev_func, set_get, Nat.reduceEqDiff, reduceIte, e0, e1, e2, decide_true, Bool.and_self, Bool.true_and, Bool.and_true, hB1.cell, hB2.cell, hB3.cell, hB8.cell, hB9.cell]; rfl)) (fun hg7_5 => by refine qv_bld (by simp only [ev_tmp, ev_const, ev_func, set_get, Nat.reduceEqDiff, reduceIte, List.getElem?_toArray, List.getElem?_cons_zero, List.getElem?_cons_succ, List.map_toArray, List.map_cons, List.map_nil, Option.map_some, Option.bind_some, e0, e1, e2, decide_true, Bool.and_self, Bool.true_and, Bool.and_true, hB1.cell, hB2.cell, hB3.cell, hB8.cell, hB9.cell, hg7_5, Bool.false_eq_true, Bool.true_eq_false, eq_self, if_true, if_false, true_and, and_true, false_and, and_false] <;> rfl) (by rw [bl61]; simp [Instr.fill, Value.cells]; rfl)) ?_
      refine WL.cq (gd_at (t := 44) rfl (by simp only [ev_tmp, ev_const, ev_func, set_get, Nat.reduceEqDiff, reduceIte, e0, e1, e2, decide_true, Bool.and_self, Bool.true_and, Bool.and_true, hB1.cell, hB2.cell, hB3.cell, hB8.cell, hB9.cell]; rfl)) (fun hg7_6 => by simp only [ev_tmp, ev_const, ev_func, set_get, Nat.reduceEqDiff, reduceIte, qv_binOp, binv_eql, eqs61, Option.map_some, e0, e1, e2, decide_true, Bool.and_self, Bool.true_and, Bool.and_true, hB1.cell, hB2.cell, hB3.cell, hB8.cell, hB9.cell, hg7_6, Bool.false_eq_true, Bool.true_eq_false, eq_self, if_true, if_false, true_and, and_true, false_and, and_false]; rfl) ?_
      refine WL.qq (by simp only [ev_tmp, ev_const, ev_func, set_get, Nat.reduceEqDiff, reduceIte, qv_pick, pk_and, pk_or, Bool.false_eq_true, Bool.true_eq_false, eq_self, if_true, if_false, true_and, and_true, false_and, and_false, e0, e1, e2, decide_true, Bool.and_self, Bool.true_and, Bool.and_true, hB1.cell, hB2.cell, hB3.cell, hB8.cell, hB9.cell]; rfl) ?_
      refine WL.qq (by simp only [ev_tmp, ev_const, ev_func, set_get, Nat.reduceEqDiff, reduceIte, qv_assign, e0, e1, e2, decide_true, Bool.and_self, Bool.true_and, Bool.and_true, hB1.cell, hB2.cell, hB3.cell, hB8.cell, hB9.cell]; rfl) ?_
      refine WL.nil ?_
      refine th_norm ?_
      refine hx_ret ?_
      refine th_ret ?_
      refine fin_ret [.tmp 6] rfl rfl (by simp only [ev_tmp, ev_const, ev_func, set_get, Nat.reduceEqDiff, reduceIte, resv, e0, e1, e2, decide_true, Bool.and_self, Bool.true_and, Bool.and_true, hB1.cell, hB2.cell, hB3.cell, hB8.cell, hB9.cell]; rfl) ?_  -- ret 1 r7
      exact ⟨by simp [retOf], hE⟩
    ·
      try simp only [decide_eq_true_eq, decide_eq_false_iff_not, Bool.and_eq_true, Bool.and_eq_false_iff, Bool.or_eq_true, Bool.or_eq_false_iff, Bool.not_eq_true', Bool.not_eq_false', Bool.not_eq_true, Bool.not_eq_false] at hct40
      have hN3 := hN2.2 hct40
      obtain ⟨L, hL⟩ : ∃ L, begs (busM wk hol) [s0, s1, s2, s3, s4, s5] (d, m) = L := ⟨_, rfl⟩
      rw [busM_srt, hL] at hN3
      have h2 := val_one (q := some ⟨p, 0, none⟩) (val_fail2.trans (hno.trans hct40)); simp only at h2
      have hv6 := val6 h2.2
      refine hx_skip ?_
      refine th_norm ?_
      refine hx_seq ?_
      apply hx_draw2 Rel.grows [10, 11] [3, 5, 9] [(3, Spec.is _), (5, Spec.is _), (9, Spec.blk _ _ 64)] rfl (by decide +kernel) rfl
      refine LD.qq rfl rfl (by simp only [ev_tmp, ev_const, ev_func, set_get, Nat.reduceEqDiff, reduceIte, qv_fieldAddr, fa24_0, Nat.zero_add, Nat.reduceAdd, e0, e1, e2, decide_true, Bool.and_self, Bool.true_and, Bool.and_true, hB1.cell, hB2.cell, hB3.cell, hB8.cell, hB9.cell]; rfl) ?_
      refine LD.qq rfl rfl (by simp only [ev_tmp, ev_const, ev_func, set_get, Nat.reduceEqDiff, reduceIte, qv_load, ld22, readN, List.getElem?_toArray, List.getElem?_cons_zero, List.getElem?_cons_succ, List.map_toArray, List.map_cons, List.map_nil, Option.map_some, Option.bind_some, Nat.zero_add, Nat.reduceAdd, e0, e1, e2, decide_true, Bool.and_self, Bool.true_and, Bool.and_true, hB1.cell, hB2.cell, hB3.cell, hB8.cell, hB9.cell]; rfl) ?_
      refine LD.qq rfl rfl (by simp only [ev_tmp, ev_const, ev_func, set_get, Nat.reduceEqDiff, reduceIte, qv_load, ld29, readN, List.getElem?_toArray, List.getElem?_cons_zero, List.getElem?_cons_succ, List.map_toArray, List.map_cons, List.map_nil, Option.map_some, Option.bind_some, Nat.zero_add, Nat.reduceAdd, e0, e1, e2, decide_true, Bool.and_self, Bool.true_and, Bool.and_true, hB1.cell, hB2.cell, hB3.cell, hB8.cell, hB9.cell]; rfl) ?_
      refine LD.ck rfl rfl Try.call19 (by intro hD hr; have hx : Ext _ _ := hr; have hw := hw.ext hx; have hh := hh.ext hx; have hB1 := hB1.ext hx; have hB2 := hB2.ext hx; have hB3 := hB3.ext hx; have hq := hq.ext hx; have hB8 := hB8.ext hx; have hB9 := hB9.ext hx; simp only [ev_tmp, ev_const, ev_func, set_get, Nat.reduceEqDiff, reduceIte, List.getElem?_toArray, List.getElem?_cons_zero, List.getElem?_cons_succ, List.map_toArray, List.map_cons, List.map_nil, Option.map_some, Option.bind_some, e0, e1, e2, decide_true, Bool.and_self, Bool.true_and, Bool.and_true, hB1.cell, hB2.cell, hB3.cell, hB8.cell, hB9.cell]; exact c_to _ _ _) ?_
      refine LD.qq rfl rfl (by simp only [ev_tmp, ev_const, ev_func, set_get, Nat.reduceEqDiff, reduceIte, qv_load, ld27, readN, List.getElem?_toArray, List.getElem?_cons_zero, List.getElem?_cons_succ, List.map_toArray, List.map_cons, List.map_nil, Option.map_some, Option.bind_some, Nat.zero_add, Nat.reduceAdd, e0, e1, e2, decide_true, Bool.and_self, Bool.true_and, Bool.and_true, hB1.cell, hB2.cell, hB3.cell, hB8.cell, hB9.cell]; rfl) ?_
      refine LD.ck rfl rfl Try.call29 (by intro hD hr; have hx : Ext _ _ := hr; have hw := hw.ext hx; have hh := hh.ext hx; have hB1 := hB1.ext hx; have hB2 := hB2.ext hx; have hB3 := hB3.ext hx; have hq := hq.ext hx; have hB8 := hB8.ext hx; have hB9 := hB9.ext hx; simp only [ev_tmp, ev_const, ev_func, set_get, Nat.reduceEqDiff, reduceIte, List.getElem?_toArray, List.getElem?_cons_zero, List.getElem?_cons_succ, List.map_toArray, List.map_cons, List.map_nil, Option.map_some, Option.bind_some, e0, e1, e2, decide_true, Bool.and_self, Bool.true_and, Bool.and_true, hB1.cell, hB2.cell, hB3.cell, hB8.cell, hB9.cell]; exact c_rnext s0 s1 s2 s3 s4 s5 d m hv6 h2.1 wk hol _ _ _ _ hL hw hh lw lh) ?_
      refine LD.qq rfl rfl (by simp only [ev_tmp, ev_const, ev_func, set_get, Nat.reduceEqDiff, reduceIte, qv_move, e0, e1, e2, decide_true, Bool.and_self, Bool.true_and, Bool.and_true, hB1.cell, hB2.cell, hB3.cell, hB8.cell, hB9.cell]; rfl) ?_
      refine LD.qq rfl rfl (by simp only [ev_tmp, ev_const, ev_func, set_get, Nat.reduceEqDiff, reduceIte, qv_extract, List.getElem?_toArray, List.getElem?_cons_zero, List.getElem?_cons_succ, List.map_toArray, List.map_cons, List.map_nil, Option.map_some, Option.bind_some, e0, e1, e2, decide_true, Bool.and_self, Bool.true_and, Bool.and_true, hB1.cell, hB2.cell, hB3.cell, hB8.cell, hB9.cell]; rfl) ?_
      refine LD.qq rfl rfl (by simp only [ev_tmp, ev_const, ev_func, set_get, Nat.reduceEqDiff, reduceIte, qv_extract, List.getElem?_toArray, List.getElem?_cons_zero, List.getElem?_cons_succ, List.map_toArray, List.map_cons, List.map_nil, Option.map_some, Option.bind_some, e0, e1, e2, decide_true, Bool.and_self, Bool.true_and, Bool.and_true, hB1.cell, hB2.cell, hB3.cell, hB8.cell, hB9.cell]; rfl) ?_
      refine LD.al rfl rfl zr64 (Nat.le_refl _) ?_
      intro B11 hlt11
      refine LD.skip rfl ?_
      refine LD.skip rfl ?_
      refine LD.nil ?_
      rintro h12 hx12 hF8
      replace hx12 : Ext _ _ := hx12
      have hne1_11 : B11 ≠ B1 := by have := (Array.getElem?_eq_some_iff.1 hB1).1; omega
      have hne2_11 : B11 ≠ B2 := by have := (Array.getElem?_eq_some_iff.1 hB2).1; omega
      have hne3_11 : B11 ≠ B3 := by have := (Array.getElem?_eq_some_iff.1 hB3).1; omega
      have hne8_11 : B11 ≠ B8 := by have := (Array.getElem?_eq_some_iff.1 hB8).1; omega
      have hb0_11 := Nat.le_trans hE.size hlt11
      have hw_s11 := hw
      have hh_s11 := hh
      have hB1_s11 := hB1
      have hB2_s11 := hB2
      have hB3_s11 := hB3
      have hq_s11 := hq
      have hB8_s11 := hB8
      have hB9_s11 := hB9
      replace hE := hE.trans hx12
      replace hw := hw.ext hx12
      replace hh := hh.ext hx12
      replace hB1 := hB1.ext hx12
      replace hB2 := hB2.ext hx12
      replace hB3 := hB3.ext hx12
      replace hq := hq.ext hx12
      replace hB8 := hB8.ext hx12
      replace hB9 := hB9.ext hx12
      have hEo11 := hx12
      have hB11 := hF8 (9, .pointer (some ⟨B11, 0, none⟩)) (by simp) _ rfl B11 rfl
      simp only [Value.cells] at hB11
      refine WL.store (by simp only [ev_tmp, ev_const, ev_func, set_get, Nat.reduceEqDiff, reduceIte, e0, e1, e2, decide_true, Bool.and_self, Bool.true_and, Bool.and_true, hB1.cell, hB2.cell, hB3.cell, hB8.cell, hB9.cell, hB11.cell] <;> rfl) sz64 (by simp only [ev_tmp, ev_const, ev_func, set_get, Nat.reduceEqDiff, reduceIte, Value.cells, e0, e1, e2, decide_true, Bool.and_self, Bool.true_and, Bool.and_true, hB1.cell, hB2.cell, hB3.cell, hB8.cell, hB9.cell, hB11.cell] <;> rfl) rfl hB11 (by first | decide | (simp; done) | (simp; omega)) (by simp [Value.oneCell']) ?_
      intro h13 hw13
      replace hE := hw13.ext hE hb0_11
      replace hEo11 := hw13.ext hEo11 hlt11
      replace hw := hw_s11.ext hEo11
      replace hh := hh_s11.ext hEo11
      replace hB1 := hB1_s11.ext hEo11
      replace hB2 := hB2_s11.ext hEo11
      replace hB3 := hB3_s11.ext hEo11
      replace hq := hq_s11.ext hEo11
      replace hB8 := hB8_s11.ext hEo11
      replace hB9 := hB9_s11.ext hEo11
      replace hB11 := hw13.at_
      try simp only [splc, List.take_succ_cons, List.take_zero, List.take_nil, List.drop_succ_cons, List.drop_zero, List.drop_nil, List.cons_append, List.nil_append, List.length_cons, List.length_nil, Nat.zero_add, Nat.add_zero, Nat.reduceAdd, List.append_nil] at hB11
      refine WL.qq (by simp only [ev_tmp, ev_const, ev_func, set_get, Nat.reduceEqDiff, reduceIte, qv_assign, e0, e1, e2, decide_true, Bool.and_self, Bool.true_and, Bool.and_true, hB1.cell, hB2.cell, hB3.cell, hB8.cell, hB9.cell, hB11.cell]; rfl) ?_
      refine WL.nil ?_
      refine th_norm ?_
      refine hx_seq ?_
      refine hx_seq ?_
      refine hx_region ?_
      refine WL.qq (by simp only [ev_tmp, ev_const, ev_func, set_get, Nat.reduceEqDiff, reduceIte, qv_move, e0, e1, e2, decide_true, Bool.and_self, Bool.true_and, Bool.and_true, hB1.cell, hB2.cell, hB3.cell, hB8.cell, hB9.cell, hB11.cell]; rfl) ?_
      refine WL.qq (by simp only [ev_tmp, ev_const, ev_func, set_get, Nat.reduceEqDiff, reduceIte, qv_unOp, unv_not, e0, e1, e2, decide_true, Bool.and_self, Bool.true_and, Bool.and_true, hB1.cell, hB2.cell, hB3.cell, hB8.cell, hB9.cell, hB11.cell]; rfl) ?_
      refine WL.nil ?_
      refine th_norm ?_
      refine hx_cond (by simp only [ev_tmp, ev_const, ev_func, set_get, Nat.reduceEqDiff, reduceIte, e0, e1, e2, decide_true, Bool.and_self, Bool.true_and, Bool.and_true, hB1.cell, hB2.cell, hB3.cell, hB8.cell, hB9.cell, hB11.cell]; rfl) (fun hct59 => ?_) (fun hct59 => ?_)
      ·
        try simp only [decide_eq_true_eq, decide_eq_false_iff_not, Bool.and_eq_true, Bool.and_eq_false_iff, Bool.or_eq_true, Bool.or_eq_false_iff, Bool.not_eq_true', Bool.not_eq_false', Bool.not_eq_true, Bool.not_eq_false] at hct59
        have hNn : n = (0, 0, 0) ∧ ne = 28 := by rw [rnext_false hct59] at hN3; cases hN3; exact ⟨rfl, rfl⟩
        obtain ⟨rfl, rfl⟩ := hNn
        refine hx_seq ?_
        refine hx_region ?_
        refine WL.qq (by simp only [ev_tmp, ev_const, ev_func, set_get, Nat.reduceEqDiff, reduceIte, qv_move, e0, e1, e2, decide_true, Bool.and_self, Bool.true_and, Bool.and_true, hB1.cell, hB2.cell, hB3.cell, hB8.cell, hB9.cell, hB11.cell]; rfl) ?_
        refine WL.qq (by simp only [ev_tmp, ev_const, ev_func, set_get, Nat.reduceEqDiff, reduceIte, qv_binOp, binv_eql, eq34, Option.map_some, e0, e1, e2, decide_true, Bool.and_self, Bool.true_and, Bool.and_true, hB1.cell, hB2.cell, hB3.cell, hB8.cell, hB9.cell, hB11.cell]; rfl) ?_
        refine WL.qq (by simp only [ev_tmp, ev_const, ev_func, set_get, Nat.reduceEqDiff, reduceIte, qv_move, e0, e1, e2, decide_true, Bool.and_self, Bool.true_and, Bool.and_true, hB1.cell, hB2.cell, hB3.cell, hB8.cell, hB9.cell, hB11.cell]; rfl) ?_
        refine WL.cq (gd_at (t := 62) rfl (by simp only [ev_tmp, ev_const, ev_func, set_get, Nat.reduceEqDiff, reduceIte, e0, e1, e2, decide_true, Bool.and_self, Bool.true_and, Bool.and_true, hB1.cell, hB2.cell, hB3.cell, hB8.cell, hB9.cell, hB11.cell]; rfl)) (fun hg10_3 => by simp only [ev_tmp, ev_const, ev_func, set_get, Nat.reduceEqDiff, reduceIte, qv_load, ld61, readN, List.getElem?_toArray, List.getElem?_cons_zero, List.getElem?_cons_succ, List.map_toArray, List.map_cons, List.map_nil, Option.map_some, Option.bind_some, Nat.zero_add, Nat.reduceAdd, e0, e1, e2, decide_true, Bool.and_self, Bool.true_and, Bool.and_true, hB1.cell, hB2.cell, hB3.cell, hB8.cell, hB9.cell, hB11.cell, hg10_3, Bool.false_eq_true, Bool.true_eq_false, eq_self, if_true, if_false, true_and, and_true, false_and, and_false]; rfl) ?_
        refine WL.cq (gd_at (t := 62) rfl (by simp only [ev_tmp, ev_const, ev_func, set_get, Nat.reduceEqDiff, reduceIte, e0, e1, e2, decide_true, Bool.and_self, Bool.true_and, Bool.and_true, hB1.cell, hB2.cell, hB3.cell, hB8.cell, hB9.cell, hB11.cell]; rfl)) (fun hg10_4 => by refine qv_bld (by simp only [ev_tmp, ev_const, ev_func, set_get, Nat.reduceEqDiff, reduceIte, List.getElem?_toArray, List.getElem?_cons_zero, List.getElem?_cons_succ, List.map_toArray, List.map_cons, List.map_nil, Option.map_some, Option.bind_some, e0, e1, e2, decide_true, Bool.and_self, Bool.true_and, Bool.and_true, hB1.cell, hB2.cell, hB3.cell, hB8.cell, hB9.cell, hB11.cell, hg10_4, Bool.false_eq_true, Bool.true_eq_false, eq_self, if_true, if_false, true_and, and_true, false_and, and_false] <;> rfl) (by rw [bl61]; simp [Instr.fill, Value.cells]; rfl)) ?_
        refine WL.cq (gd_at (t := 62) rfl (by simp only [ev_tmp, ev_const, ev_func, set_get, Nat.reduceEqDiff, reduceIte, e0, e1, e2, decide_true, Bool.and_self, Bool.true_and, Bool.and_true, hB1.cell, hB2.cell, hB3.cell, hB8.cell, hB9.cell, hB11.cell]; rfl)) (fun hg10_5 => by simp only [ev_tmp, ev_const, ev_func, set_get, Nat.reduceEqDiff, reduceIte, qv_binOp, binv_eql, eqs61, Option.map_some, e0, e1, e2, decide_true, Bool.and_self, Bool.true_and, Bool.and_true, hB1.cell, hB2.cell, hB3.cell, hB8.cell, hB9.cell, hB11.cell, hg10_5, Bool.false_eq_true, Bool.true_eq_false, eq_self, if_true, if_false, true_and, and_true, false_and, and_false]; rfl) ?_
        refine WL.qq (by simp only [ev_tmp, ev_const, ev_func, set_get, Nat.reduceEqDiff, reduceIte, qv_pick, pk_and, pk_or, Bool.false_eq_true, Bool.true_eq_false, eq_self, if_true, if_false, true_and, and_true, false_and, and_false, e0, e1, e2, decide_true, Bool.and_self, Bool.true_and, Bool.and_true, hB1.cell, hB2.cell, hB3.cell, hB8.cell, hB9.cell, hB11.cell]; rfl) ?_
        refine WL.qq (by simp only [ev_tmp, ev_const, ev_func, set_get, Nat.reduceEqDiff, reduceIte, qv_assign, e0, e1, e2, decide_true, Bool.and_self, Bool.true_and, Bool.and_true, hB1.cell, hB2.cell, hB3.cell, hB8.cell, hB9.cell, hB11.cell]; rfl) ?_
        refine WL.nil ?_
        refine th_norm ?_
        refine hx_ret ?_
        refine th_ret ?_
        refine fin_ret [.tmp 6] rfl rfl (by simp only [ev_tmp, ev_const, ev_func, set_get, Nat.reduceEqDiff, reduceIte, resv, e0, e1, e2, decide_true, Bool.and_self, Bool.true_and, Bool.and_true, hB1.cell, hB2.cell, hB3.cell, hB8.cell, hB9.cell, hB11.cell]; rfl) ?_  -- ret 2 r10
        exact ⟨by simp [retOf], hE⟩
      ·
        try simp only [decide_eq_true_eq, decide_eq_false_iff_not, Bool.and_eq_true, Bool.and_eq_false_iff, Bool.or_eq_true, Bool.or_eq_false_iff, Bool.not_eq_true', Bool.not_eq_false', Bool.not_eq_true, Bool.not_eq_false] at hct59
        obtain ⟨z, hz, hrz⟩ := rnext_true hct59
        rw [hrz] at hN3
        simp only [hrz] at hB11
        obtain ⟨rfl, rfl⟩ : n = z ∧ ne = 0 := by cases hN3; exact ⟨rfl, rfl⟩
        obtain ⟨N, hNN⟩ : ∃ N : Nat, (N : Int) = 73049 := ⟨73049, rfl⟩
        have hbf := begs_first (bus := busM wk hol) (a := (d, m)) (n := n) hv6 hNN h2.1 (by rw [hL]; exact hz)
        obtain ⟨M, ce, hM⟩ : ∃ M ce, chgM [s0, s1, s2, s3, s4, s5] (some ⟨p, 0, none⟩) (busM wk (srt hol)) (d, m) (n.1, n.2.1) = (M, ce) := ⟨_, _, rfl⟩
        have hf0 : failM [s0, s1, s2, s3, s4, s5] [(d, m), (n.1, n.2.1)] = 0 := by have h3 := fail_cases (hno.trans hct40); unfold failM; rw [if_neg (fun hh => hh h3.1), if_pos]; have h4 := h3.2; simp only [List.all_cons, List.all_nil, Bool.and_true, Bool.and_eq_true, clockOk, validM, decide_eq_true_eq] at h4 ⊢; exact ⟨h4, by omega, by omega⟩
        have hMM : ¬ 400 < n.1 - d → M = [n] ∧ ce = 0 := by intro hl; simp only [chgM, val_fail2, hf0] at hM; rw [if_neg (by decide), if_neg hl, busM_srt, hbf.2] at hM; cases hM; exact ⟨rfl, rfl⟩
        obtain ⟨p2, hp2, hc⟩ := hq hb; cases hp2
        refine hx_skip ?_
        refine th_norm ?_
        refine hx_seq ?_
        refine hx_region ?_
        refine WL.qq (by simp only [ev_tmp, ev_const, ev_func, set_get, Nat.reduceEqDiff, reduceIte, qv_load, ld24, readN, List.getElem?_toArray, List.getElem?_cons_zero, List.getElem?_cons_succ, List.map_toArray, List.map_cons, List.map_nil, Option.map_some, Option.bind_some, Nat.zero_add, Nat.reduceAdd, e0, e1, e2, decide_true, Bool.and_self, Bool.true_and, Bool.and_true, hB1.cell, hB2.cell, hB3.cell, hB8.cell, hB9.cell, hB11.cell]; rfl) ?_
        refine WL.qq (by simp only [ev_tmp, ev_const, ev_func, set_get, Nat.reduceEqDiff, reduceIte, qv_load, ld29, readN, List.getElem?_toArray, List.getElem?_cons_zero, List.getElem?_cons_succ, List.map_toArray, List.map_cons, List.map_nil, Option.map_some, Option.bind_some, Nat.zero_add, Nat.reduceAdd, e0, e1, e2, decide_true, Bool.and_self, Bool.true_and, Bool.and_true, hB1.cell, hB2.cell, hB3.cell, hB8.cell, hB9.cell, hB11.cell]; rfl) ?_
        refine WL.qq (by simp only [ev_tmp, ev_const, ev_func, set_get, Nat.reduceEqDiff, reduceIte, qv_fieldAddr, fa61_0, Nat.zero_add, Nat.reduceAdd, e0, e1, e2, decide_true, Bool.and_self, Bool.true_and, Bool.and_true, hB1.cell, hB2.cell, hB3.cell, hB8.cell, hB9.cell, hB11.cell]; rfl) ?_
        refine WL.qq (by simp only [ev_tmp, ev_const, ev_func, set_get, Nat.reduceEqDiff, reduceIte, qv_load, ld29, readN, List.getElem?_toArray, List.getElem?_cons_zero, List.getElem?_cons_succ, List.map_toArray, List.map_cons, List.map_nil, Option.map_some, Option.bind_some, Nat.zero_add, Nat.reduceAdd, e0, e1, e2, decide_true, Bool.and_self, Bool.true_and, Bool.and_true, hB1.cell, hB2.cell, hB3.cell, hB8.cell, hB9.cell, hB11.cell]; rfl) ?_
        refine WL.qq (by simp only [ev_tmp, ev_const, ev_func, set_get, Nat.reduceEqDiff, reduceIte, qv_move, e0, e1, e2, decide_true, Bool.and_self, Bool.true_and, Bool.and_true, hB1.cell, hB2.cell, hB3.cell, hB8.cell, hB9.cell, hB11.cell]; rfl) ?_
        refine WL.ce Try.call25 (by simp only [ev_tmp, ev_const, ev_func, set_get, Nat.reduceEqDiff, reduceIte, List.getElem?_toArray, List.getElem?_cons_zero, List.getElem?_cons_succ, List.map_toArray, List.map_cons, List.map_nil, Option.map_some, Option.bind_some, e0, e1, e2, decide_true, Bool.and_self, Bool.true_and, Bool.and_true, hB1.cell, hB2.cell, hB3.cell, hB8.cell, hB9.cell, hB11.cell]; exact c_changesG s0 s1 s2 s3 s4 s5 d m n.1 n.2.1 _ wk (srt hol) hM (QCal.some hc)) ?_
        rintro _ h14 ⟨hx14, al, cp, rfl, hsl, hsn, hsc⟩
        replace hE := hE.trans hx14
        replace hEo11 := hEo11.trans hx14
        replace hw := hw.ext hx14
        replace hh := hh.ext hx14
        replace hB1 := hB1.ext hx14
        replace hB2 := hB2.ext hx14
        replace hB3 := hB3.ext hx14
        replace hq := hq.ext hx14
        replace hB8 := hB8.ext hx14
        replace hB9 := hB9.ext hx14
        replace hB11 := hB11.ext hx14
        simp only [put_some]
        refine WL.qq (by simp only [ev_tmp, ev_const, ev_func, set_get, Nat.reduceEqDiff, reduceIte, qv_move, e0, e1, e2, decide_true, Bool.and_self, Bool.true_and, Bool.and_true, hB1.cell, hB2.cell, hB3.cell, hB8.cell, hB9.cell, hB11.cell]; rfl) ?_
        refine WL.qq (by simp only [ev_tmp, ev_const, ev_func, set_get, Nat.reduceEqDiff, reduceIte, qv_extract, List.getElem?_toArray, List.getElem?_cons_zero, List.getElem?_cons_succ, List.map_toArray, List.map_cons, List.map_nil, Option.map_some, Option.bind_some, e0, e1, e2, decide_true, Bool.and_self, Bool.true_and, Bool.and_true, hB1.cell, hB2.cell, hB3.cell, hB8.cell, hB9.cell, hB11.cell]; rfl) ?_
        refine WL.qq (by simp only [ev_tmp, ev_const, ev_func, set_get, Nat.reduceEqDiff, reduceIte, qv_extract, List.getElem?_toArray, List.getElem?_cons_zero, List.getElem?_cons_succ, List.map_toArray, List.map_cons, List.map_nil, Option.map_some, Option.bind_some, e0, e1, e2, decide_true, Bool.and_self, Bool.true_and, Bool.and_true, hB1.cell, hB2.cell, hB3.cell, hB8.cell, hB9.cell, hB11.cell]; rfl) ?_
        refine WL.qq (by simp only [ev_tmp, ev_const, ev_func, set_get, Nat.reduceEqDiff, reduceIte, qv_assign, e0, e1, e2, decide_true, Bool.and_self, Bool.true_and, Bool.and_true, hB1.cell, hB2.cell, hB3.cell, hB8.cell, hB9.cell, hB11.cell]; rfl) ?_
        refine WL.qq (by simp only [ev_tmp, ev_const, ev_func, set_get, Nat.reduceEqDiff, reduceIte, qv_assign, e0, e1, e2, decide_true, Bool.and_self, Bool.true_and, Bool.and_true, hB1.cell, hB2.cell, hB3.cell, hB8.cell, hB9.cell, hB11.cell]; rfl) ?_
        refine WL.nil ?_
        refine th_norm ?_
        refine hx_seq ?_
        refine hx_fresh (fun eF12 hfcf12 => ?_)
        have k5_f12 := hfcf12 5 rfl; simp only [ev_tmp, ev_const, ev_func, set_get, Nat.reduceEqDiff, reduceIte, e0, e1, e2, decide_true, Bool.and_self, Bool.true_and, Bool.and_true, hB1.cell, hB2.cell, hB3.cell, hB8.cell, hB9.cell, hB11.cell] at k5_f12
        have k6_f12 := hfcf12 6 rfl; simp only [ev_tmp, ev_const, ev_func, set_get, Nat.reduceEqDiff, reduceIte, e0, e1, e2, decide_true, Bool.and_self, Bool.true_and, Bool.and_true, hB1.cell, hB2.cell, hB3.cell, hB8.cell, hB9.cell, hB11.cell] at k6_f12
        have k9_f12 := hfcf12 9 rfl; simp only [ev_tmp, ev_const, ev_func, set_get, Nat.reduceEqDiff, reduceIte, e0, e1, e2, decide_true, Bool.and_self, Bool.true_and, Bool.and_true, hB1.cell, hB2.cell, hB3.cell, hB8.cell, hB9.cell, hB11.cell] at k9_f12
        have k10_f12 := hfcf12 10 rfl; simp only [ev_tmp, ev_const, ev_func, set_get, Nat.reduceEqDiff, reduceIte, e0, e1, e2, decide_true, Bool.and_self, Bool.true_and, Bool.and_true, hB1.cell, hB2.cell, hB3.cell, hB8.cell, hB9.cell, hB11.cell] at k10_f12
        have k12_f12 := hfcf12 12 rfl; simp only [ev_tmp, ev_const, ev_func, set_get, Nat.reduceEqDiff, reduceIte, e0, e1, e2, decide_true, Bool.and_self, Bool.true_and, Bool.and_true, hB1.cell, hB2.cell, hB3.cell, hB8.cell, hB9.cell, hB11.cell] at k12_f12
        have k14_f12 := hfcf12 14 rfl; simp only [ev_tmp, ev_const, ev_func, set_get, Nat.reduceEqDiff, reduceIte, e0, e1, e2, decide_true, Bool.and_self, Bool.true_and, Bool.and_true, hB1.cell, hB2.cell, hB3.cell, hB8.cell, hB9.cell, hB11.cell] at k14_f12
        have k15_f12 := hfcf12 15 rfl; simp only [ev_tmp, ev_const, ev_func, set_get, Nat.reduceEqDiff, reduceIte, e0, e1, e2, decide_true, Bool.and_self, Bool.true_and, Bool.and_true, hB1.cell, hB2.cell, hB3.cell, hB8.cell, hB9.cell, hB11.cell] at k15_f12
        apply hx_draw2 Rel.grows [] [5] [(5, Spec.is _)] rfl (by decide +kernel) rfl
        obtain ⟨bq, oq, hone⟩ : ∃ b o, ¬ 400 < n.1 - d → al = some ⟨b, o, none⟩ ∧ readN h14 b (o + 0 * 3) 3 = some (chgL n) := by by_cases hl : 400 < n.1 - d; exact ⟨0, 0, fun hh => absurd hl hh⟩; obtain ⟨b, o, ha, hr⟩ := hsl 0 n (by rw [(hMM hl).1]; rfl); exact ⟨b, o, fun _ => ⟨ha, hr⟩⟩
        refine LD.qq rfl rfl (by simp only [ev_tmp, ev_const, ev_func, set_get, Nat.reduceEqDiff, reduceIte, qv_move, k5_f12, k6_f12, k9_f12, k10_f12, k12_f12, k14_f12, k15_f12, decide_true, Bool.and_self, Bool.true_and, Bool.and_true, hB1.cell, hB2.cell, hB3.cell, hB8.cell, hB9.cell, hB11.cell]; rfl) ?_
        refine LD.qq rfl rfl (by simp only [ev_tmp, ev_const, ev_func, set_get, Nat.reduceEqDiff, reduceIte, qv_binOp, binv_eql, eq34, Option.map_some, k5_f12, k6_f12, k9_f12, k10_f12, k12_f12, k14_f12, k15_f12, decide_true, Bool.and_self, Bool.true_and, Bool.and_true, hB1.cell, hB2.cell, hB3.cell, hB8.cell, hB9.cell, hB11.cell]; rfl) ?_
        refine LD.qq rfl rfl (by simp only [ev_tmp, ev_const, ev_func, set_get, Nat.reduceEqDiff, reduceIte, qv_move, k5_f12, k6_f12, k9_f12, k10_f12, k12_f12, k14_f12, k15_f12, decide_true, Bool.and_self, Bool.true_and, Bool.and_true, hB1.cell, hB2.cell, hB3.cell, hB8.cell, hB9.cell, hB11.cell]; rfl) ?_
        refine LD.cq rfl rfl (gd_at (t := 78) rfl (by simp only [ev_tmp, ev_const, ev_func, set_get, Nat.reduceEqDiff, reduceIte, k5_f12, k6_f12, k9_f12, k10_f12, k12_f12, k14_f12, k15_f12, decide_true, Bool.and_self, Bool.true_and, Bool.and_true, hB1.cell, hB2.cell, hB3.cell, hB8.cell, hB9.cell, hB11.cell]; rfl)) (fun hg12_3 => by simp only [ev_tmp, ev_const, ev_func, set_get, Nat.reduceEqDiff, reduceIte, qv_load, ld61, readN, List.getElem?_toArray, List.getElem?_cons_zero, List.getElem?_cons_succ, List.map_toArray, List.map_cons, List.map_nil, Option.map_some, Option.bind_some, Nat.zero_add, Nat.reduceAdd, k5_f12, k6_f12, k9_f12, k10_f12, k12_f12, k14_f12, k15_f12, decide_true, Bool.and_self, Bool.true_and, Bool.and_true, hB1.cell, hB2.cell, hB3.cell, hB8.cell, hB9.cell, hB11.cell, hg12_3, Bool.false_eq_true, Bool.true_eq_false, eq_self, if_true, if_false, true_and, and_true, false_and, and_false]; rfl) ?_
        refine LD.cq rfl rfl (gd_at (t := 78) rfl (by simp only [ev_tmp, ev_const, ev_func, set_get, Nat.reduceEqDiff, reduceIte, k5_f12, k6_f12, k9_f12, k10_f12, k12_f12, k14_f12, k15_f12, decide_true, Bool.and_self, Bool.true_and, Bool.and_true, hB1.cell, hB2.cell, hB3.cell, hB8.cell, hB9.cell, hB11.cell]; rfl)) (fun hg12_4 => by simp only [ev_tmp, ev_const, ev_func, set_get, Nat.reduceEqDiff, reduceIte, qv_load, ld64, readN, List.getElem?_toArray, List.getElem?_cons_zero, List.getElem?_cons_succ, List.map_toArray, List.map_cons, List.map_nil, Option.map_some, Option.bind_some, Nat.zero_add, Nat.reduceAdd, k5_f12, k6_f12, k9_f12, k10_f12, k12_f12, k14_f12, k15_f12, decide_true, Bool.and_self, Bool.true_and, Bool.and_true, hB1.cell, hB2.cell, hB3.cell, hB8.cell, hB9.cell, hB11.cell, hg12_4, Bool.false_eq_true, Bool.true_eq_false, eq_self, if_true, if_false, true_and, and_true, false_and, and_false]; rfl) ?_
        refine LD.cck rfl rfl (gd_at (t := 78) rfl (by simp only [ev_tmp, ev_const, ev_func, set_get, Nat.reduceEqDiff, reduceIte, k5_f12, k6_f12, k9_f12, k10_f12, k12_f12, k14_f12, k15_f12, decide_true, Bool.and_self, Bool.true_and, Bool.and_true, hB1.cell, hB2.cell, hB3.cell, hB8.cell, hB9.cell, hB11.cell]; rfl)) Try.call27 (fun hg12_5 => by intro hD hr; have hx : Ext _ _ := hr; have hw := hw.ext hx; have hh := hh.ext hx; have hB1 := hB1.ext hx; have hB2 := hB2.ext hx; have hB3 := hB3.ext hx; have hq := hq.ext hx; have hB8 := hB8.ext hx; have hB9 := hB9.ext hx; have hB11 := hB11.ext hx; have hsl := hsl.ext hx; simp only [ev_tmp, ev_const, ev_func, set_get, Nat.reduceEqDiff, reduceIte, List.getElem?_toArray, List.getElem?_cons_zero, List.getElem?_cons_succ, List.map_toArray, List.map_cons, List.map_nil, Option.map_some, Option.bind_some, k5_f12, k6_f12, k9_f12, k10_f12, k12_f12, k14_f12, k15_f12, decide_true, Bool.and_self, Bool.true_and, Bool.and_true, hB1.cell, hB2.cell, hB3.cell, hB8.cell, hB9.cell, hB11.cell, hg12_5, Bool.false_eq_true, Bool.true_eq_false, eq_self, if_true, if_false, true_and, and_true, false_and, and_false]; exact c_change n _) ?_
        refine LD.cq rfl rfl (gd_at (t := 78) rfl (by simp only [ev_tmp, ev_const, ev_func, set_get, Nat.reduceEqDiff, reduceIte, k5_f12, k6_f12, k9_f12, k10_f12, k12_f12, k14_f12, k15_f12, decide_true, Bool.and_self, Bool.true_and, Bool.and_true, hB1.cell, hB2.cell, hB3.cell, hB8.cell, hB9.cell, hB11.cell]; rfl)) (fun hg12_6 => by simp only [ev_tmp, ev_const, ev_func, set_get, Nat.reduceEqDiff, reduceIte, qv_binOp, binv_eql, eqs61, Option.map_some, k5_f12, k6_f12, k9_f12, k10_f12, k12_f12, k14_f12, k15_f12, decide_true, Bool.and_self, Bool.true_and, Bool.and_true, hB1.cell, hB2.cell, hB3.cell, hB8.cell, hB9.cell, hB11.cell, hg12_6, Bool.false_eq_true, Bool.true_eq_false, eq_self, if_true, if_false, true_and, and_true, false_and, and_false]; rfl) ?_
        refine LD.qq rfl rfl (by simp only [ev_tmp, ev_const, ev_func, set_get, Nat.reduceEqDiff, reduceIte, qv_pick, pk_and, pk_or, Bool.false_eq_true, Bool.true_eq_false, eq_self, if_true, if_false, true_and, and_true, false_and, and_false, k5_f12, k6_f12, k9_f12, k10_f12, k12_f12, k14_f12, k15_f12, decide_true, Bool.and_self, Bool.true_and, Bool.and_true, hB1.cell, hB2.cell, hB3.cell, hB8.cell, hB9.cell, hB11.cell]; rfl) ?_
        refine LD.qq rfl rfl (by simp only [ev_tmp, ev_const, ev_func, set_get, Nat.reduceEqDiff, reduceIte, qv_move, k5_f12, k6_f12, k9_f12, k10_f12, k12_f12, k14_f12, k15_f12, decide_true, Bool.and_self, Bool.true_and, Bool.and_true, hB1.cell, hB2.cell, hB3.cell, hB8.cell, hB9.cell, hB11.cell]; rfl) ?_
        refine LD.cq rfl rfl (gd_at (t := 84) rfl (by simp only [ev_tmp, ev_const, ev_func, set_get, Nat.reduceEqDiff, reduceIte, k5_f12, k6_f12, k9_f12, k10_f12, k12_f12, k14_f12, k15_f12, decide_true, Bool.and_self, Bool.true_and, Bool.and_true, hB1.cell, hB2.cell, hB3.cell, hB8.cell, hB9.cell, hB11.cell]; rfl)) (fun hg12_9 => by simp only [ev_tmp, ev_const, ev_func, set_get, Nat.reduceEqDiff, reduceIte, qv_fieldAddr, fa61_0, Nat.zero_add, Nat.reduceAdd, k5_f12, k6_f12, k9_f12, k10_f12, k12_f12, k14_f12, k15_f12, decide_true, Bool.and_self, Bool.true_and, Bool.and_true, hB1.cell, hB2.cell, hB3.cell, hB8.cell, hB9.cell, hB11.cell, hg12_9, Bool.false_eq_true, Bool.true_eq_false, eq_self, if_true, if_false, true_and, and_true, false_and, and_false]; rfl) ?_
        refine LD.cq rfl rfl (gd_at (t := 84) rfl (by simp only [ev_tmp, ev_const, ev_func, set_get, Nat.reduceEqDiff, reduceIte, k5_f12, k6_f12, k9_f12, k10_f12, k12_f12, k14_f12, k15_f12, decide_true, Bool.and_self, Bool.true_and, Bool.and_true, hB1.cell, hB2.cell, hB3.cell, hB8.cell, hB9.cell, hB11.cell]; rfl)) (fun hg12_10 => by simp only [ev_tmp, ev_const, ev_func, set_get, Nat.reduceEqDiff, reduceIte, qv_fieldAddr, fa29_0, Nat.zero_add, Nat.reduceAdd, k5_f12, k6_f12, k9_f12, k10_f12, k12_f12, k14_f12, k15_f12, decide_true, Bool.and_self, Bool.true_and, Bool.and_true, hB1.cell, hB2.cell, hB3.cell, hB8.cell, hB9.cell, hB11.cell, hg12_10, Bool.false_eq_true, Bool.true_eq_false, eq_self, if_true, if_false, true_and, and_true, false_and, and_false]; rfl) ?_
        refine LD.cq rfl rfl (gd_at (t := 84) rfl (by simp only [ev_tmp, ev_const, ev_func, set_get, Nat.reduceEqDiff, reduceIte, k5_f12, k6_f12, k9_f12, k10_f12, k12_f12, k14_f12, k15_f12, decide_true, Bool.and_self, Bool.true_and, Bool.and_true, hB1.cell, hB2.cell, hB3.cell, hB8.cell, hB9.cell, hB11.cell]; rfl)) (fun hg12_11 => by simp only [ev_tmp, ev_const, ev_func, set_get, Nat.reduceEqDiff, reduceIte, qv_load, ld3, readN, List.getElem?_toArray, List.getElem?_cons_zero, List.getElem?_cons_succ, List.map_toArray, List.map_cons, List.map_nil, Option.map_some, Option.bind_some, Nat.zero_add, Nat.reduceAdd, k5_f12, k6_f12, k9_f12, k10_f12, k12_f12, k14_f12, k15_f12, decide_true, Bool.and_self, Bool.true_and, Bool.and_true, hB1.cell, hB2.cell, hB3.cell, hB8.cell, hB9.cell, hB11.cell, hg12_11, Bool.false_eq_true, Bool.true_eq_false, eq_self, if_true, if_false, true_and, and_true, false_and, and_false]; rfl) ?_
        refine LD.cq rfl rfl (gd_at (t := 84) rfl (by simp only [ev_tmp, ev_const, ev_func, set_get, Nat.reduceEqDiff, reduceIte, k5_f12, k6_f12, k9_f12, k10_f12, k12_f12, k14_f12, k15_f12, decide_true, Bool.and_self, Bool.true_and, Bool.and_true, hB1.cell, hB2.cell, hB3.cell, hB8.cell, hB9.cell, hB11.cell]; rfl)) (fun hg12_12 => by simp only [ev_tmp, ev_const, ev_func, set_get, Nat.reduceEqDiff, reduceIte, qv_fieldAddr, fa29_0, Nat.zero_add, Nat.reduceAdd, k5_f12, k6_f12, k9_f12, k10_f12, k12_f12, k14_f12, k15_f12, decide_true, Bool.and_self, Bool.true_and, Bool.and_true, hB1.cell, hB2.cell, hB3.cell, hB8.cell, hB9.cell, hB11.cell, hg12_12, Bool.false_eq_true, Bool.true_eq_false, eq_self, if_true, if_false, true_and, and_true, false_and, and_false]; rfl) ?_
        refine LD.cq rfl rfl (gd_at (t := 84) rfl (by simp only [ev_tmp, ev_const, ev_func, set_get, Nat.reduceEqDiff, reduceIte, k5_f12, k6_f12, k9_f12, k10_f12, k12_f12, k14_f12, k15_f12, decide_true, Bool.and_self, Bool.true_and, Bool.and_true, hB1.cell, hB2.cell, hB3.cell, hB8.cell, hB9.cell, hB11.cell]; rfl)) (fun hg12_13 => by simp only [ev_tmp, ev_const, ev_func, set_get, Nat.reduceEqDiff, reduceIte, qv_load, ld3, readN, List.getElem?_toArray, List.getElem?_cons_zero, List.getElem?_cons_succ, List.map_toArray, List.map_cons, List.map_nil, Option.map_some, Option.bind_some, Nat.zero_add, Nat.reduceAdd, k5_f12, k6_f12, k9_f12, k10_f12, k12_f12, k14_f12, k15_f12, decide_true, Bool.and_self, Bool.true_and, Bool.and_true, hB1.cell, hB2.cell, hB3.cell, hB8.cell, hB9.cell, hB11.cell, hg12_13, Bool.false_eq_true, Bool.true_eq_false, eq_self, if_true, if_false, true_and, and_true, false_and, and_false]; rfl) ?_
        refine LD.cq rfl rfl (gd_at (t := 84) rfl (by simp only [ev_tmp, ev_const, ev_func, set_get, Nat.reduceEqDiff, reduceIte, k5_f12, k6_f12, k9_f12, k10_f12, k12_f12, k14_f12, k15_f12, decide_true, Bool.and_self, Bool.true_and, Bool.and_true, hB1.cell, hB2.cell, hB3.cell, hB8.cell, hB9.cell, hB11.cell]; rfl)) (fun hg12_14 => by have hq0 := hg12_14; (try simp only [decide_eq_true_eq, decide_eq_false_iff_not, Bool.and_eq_true, Bool.and_eq_false_iff, Bool.or_eq_true, Bool.or_eq_false_iff, Bool.not_eq_true', Bool.not_eq_false', Bool.not_eq_true, Bool.not_eq_false] at hq0); simp only [ev_tmp, ev_const, ev_func, set_get, Nat.reduceEqDiff, reduceIte, qv_binOp, binv_sub, k5_f12, k6_f12, k9_f12, k10_f12, k12_f12, k14_f12, k15_f12, decide_true, Bool.and_self, Bool.true_and, Bool.and_true, hB1.cell, hB2.cell, hB3.cell, hB8.cell, hB9.cell, hB11.cell, hg12_14, Bool.false_eq_true, Bool.true_eq_false, eq_self, if_true, if_false, true_and, and_true, false_and, and_false]; (try simp (disch := omega) only [w64, w8, wu64]); rfl) ?_
        refine LD.cq rfl rfl (gd_at (t := 84) rfl (by simp only [ev_tmp, ev_const, ev_func, set_get, Nat.reduceEqDiff, reduceIte, k5_f12, k6_f12, k9_f12, k10_f12, k12_f12, k14_f12, k15_f12, decide_true, Bool.and_self, Bool.true_and, Bool.and_true, hB1.cell, hB2.cell, hB3.cell, hB8.cell, hB9.cell, hB11.cell]; rfl)) (fun hg12_15 => by simp only [ev_tmp, ev_const, ev_func, set_get, Nat.reduceEqDiff, reduceIte, qv_binOp, binv_gtr, k5_f12, k6_f12, k9_f12, k10_f12, k12_f12, k14_f12, k15_f12, decide_true, Bool.and_self, Bool.true_and, Bool.and_true, hB1.cell, hB2.cell, hB3.cell, hB8.cell, hB9.cell, hB11.cell, hg12_15, Bool.false_eq_true, Bool.true_eq_false, eq_self, if_true, if_false, true_and, and_true, false_and, and_false]; rfl) ?_
        refine LD.cq rfl rfl (gd_at (t := 84) rfl (by simp only [ev_tmp, ev_const, ev_func, set_get, Nat.reduceEqDiff, reduceIte, k5_f12, k6_f12, k9_f12, k10_f12, k12_f12, k14_f12, k15_f12, decide_true, Bool.and_self, Bool.true_and, Bool.and_true, hB1.cell, hB2.cell, hB3.cell, hB8.cell, hB9.cell, hB11.cell]; rfl)) (fun hg12_16 => by simp only [ev_tmp, ev_const, ev_func, set_get, Nat.reduceEqDiff, reduceIte, qv_move, k5_f12, k6_f12, k9_f12, k10_f12, k12_f12, k14_f12, k15_f12, decide_true, Bool.and_self, Bool.true_and, Bool.and_true, hB1.cell, hB2.cell, hB3.cell, hB8.cell, hB9.cell, hB11.cell, hg12_16, Bool.false_eq_true, Bool.true_eq_false, eq_self, if_true, if_false, true_and, and_true, false_and, and_false]; rfl) ?_
        refine LD.cq rfl rfl (gd_at (t := 92) rfl (by simp only [ev_tmp, ev_const, ev_func, set_get, Nat.reduceEqDiff, reduceIte, k5_f12, k6_f12, k9_f12, k10_f12, k12_f12, k14_f12, k15_f12, decide_true, Bool.and_self, Bool.true_and, Bool.and_true, hB1.cell, hB2.cell, hB3.cell, hB8.cell, hB9.cell, hB11.cell]; rfl)) (fun hg12_17 => by simp only [ev_tmp, ev_const, ev_func, set_get, Nat.reduceEqDiff, reduceIte, qv_move, k5_f12, k6_f12, k9_f12, k10_f12, k12_f12, k14_f12, k15_f12, decide_true, Bool.and_self, Bool.true_and, Bool.and_true, hB1.cell, hB2.cell, hB3.cell, hB8.cell, hB9.cell, hB11.cell, hg12_17, Bool.false_eq_true, Bool.true_eq_false, eq_self, if_true, if_false, true_and, and_true, false_and, and_false]; rfl) ?_
        refine LD.cq rfl rfl (gd_at (t := 92) rfl (by simp only [ev_tmp, ev_const, ev_func, set_get, Nat.reduceEqDiff, reduceIte, k5_f12, k6_f12, k9_f12, k10_f12, k12_f12, k14_f12, k15_f12, decide_true, Bool.and_self, Bool.true_and, Bool.and_true, hB1.cell, hB2.cell, hB3.cell, hB8.cell, hB9.cell, hB11.cell]; rfl)) (fun hg12_18 => by simp only [ev_tmp, ev_const, ev_func, set_get, Nat.reduceEqDiff, reduceIte, qv_binOp, binv_eql, eq34, Option.map_some, k5_f12, k6_f12, k9_f12, k10_f12, k12_f12, k14_f12, k15_f12, decide_true, Bool.and_self, Bool.true_and, Bool.and_true, hB1.cell, hB2.cell, hB3.cell, hB8.cell, hB9.cell, hB11.cell, hg12_18, Bool.false_eq_true, Bool.true_eq_false, eq_self, if_true, if_false, true_and, and_true, false_and, and_false]; rfl) ?_
        refine LD.cq rfl rfl (gd_at (t := 92) rfl (by simp only [ev_tmp, ev_const, ev_func, set_get, Nat.reduceEqDiff, reduceIte, k5_f12, k6_f12, k9_f12, k10_f12, k12_f12, k14_f12, k15_f12, decide_true, Bool.and_self, Bool.true_and, Bool.and_true, hB1.cell, hB2.cell, hB3.cell, hB8.cell, hB9.cell, hB11.cell]; rfl)) (fun hg12_19 => by simp only [ev_tmp, ev_const, ev_func, set_get, Nat.reduceEqDiff, reduceIte, qv_move, k5_f12, k6_f12, k9_f12, k10_f12, k12_f12, k14_f12, k15_f12, decide_true, Bool.and_self, Bool.true_and, Bool.and_true, hB1.cell, hB2.cell, hB3.cell, hB8.cell, hB9.cell, hB11.cell, hg12_19, Bool.false_eq_true, Bool.true_eq_false, eq_self, if_true, if_false, true_and, and_true, false_and, and_false]; rfl) ?_
        refine LD.cq2 rfl rfl (t := 95) rfl (by simp only [ev_tmp, ev_const, ev_func, set_get, Nat.reduceEqDiff, reduceIte, k5_f12, k6_f12, k9_f12, k10_f12, k12_f12, k14_f12, k15_f12, decide_true, Bool.and_self, Bool.true_and, Bool.and_true, hB1.cell, hB2.cell, hB3.cell, hB8.cell, hB9.cell, hB11.cell]; rfl) (fun hC12_20 hg12_20 => by simp only [ev_tmp, ev_const, ev_func, set_get, Nat.reduceEqDiff, reduceIte, qv_move, k5_f12, k6_f12, k9_f12, k10_f12, k12_f12, k14_f12, k15_f12, decide_true, Bool.and_self, Bool.true_and, Bool.and_true, hB1.cell, hB2.cell, hB3.cell, hB8.cell, hB9.cell, hB11.cell, hC12_20, hg12_20, Bool.false_eq_true, Bool.true_eq_false, eq_self, if_true, if_false, true_and, and_true, false_and, and_false]; rfl) ?_
        refine LD.cq2 rfl rfl (t := 95) rfl (by simp only [ev_tmp, ev_const, ev_func, set_get, Nat.reduceEqDiff, reduceIte, k5_f12, k6_f12, k9_f12, k10_f12, k12_f12, k14_f12, k15_f12, decide_true, Bool.and_self, Bool.true_and, Bool.and_true, hB1.cell, hB2.cell, hB3.cell, hB8.cell, hB9.cell, hB11.cell]; rfl) (fun hC12_21 hg12_21 => by simp only [ev_tmp, ev_const, ev_func, set_get, Nat.reduceEqDiff, reduceIte, qv_len, ln55, List.getElem?_toArray, List.getElem?_cons_zero, List.getElem?_cons_succ, List.map_toArray, List.map_cons, List.map_nil, Option.map_some, Option.bind_some, k5_f12, k6_f12, k9_f12, k10_f12, k12_f12, k14_f12, k15_f12, decide_true, Bool.and_self, Bool.true_and, Bool.and_true, hB1.cell, hB2.cell, hB3.cell, hB8.cell, hB9.cell, hB11.cell, hC12_21, hg12_21, Bool.false_eq_true, Bool.true_eq_false, eq_self, if_true, if_false, true_and, and_true, false_and, and_false]; rfl) ?_
        refine LD.cq2 rfl rfl (t := 95) rfl (by simp only [ev_tmp, ev_const, ev_func, set_get, Nat.reduceEqDiff, reduceIte, k5_f12, k6_f12, k9_f12, k10_f12, k12_f12, k14_f12, k15_f12, decide_true, Bool.and_self, Bool.true_and, Bool.and_true, hB1.cell, hB2.cell, hB3.cell, hB8.cell, hB9.cell, hB11.cell]; rfl) (fun hC12_22 hg12_22 => by simp only [ev_tmp, ev_const, ev_func, set_get, Nat.reduceEqDiff, reduceIte, qv_binOp, binv_eql, eq3, Option.map_some, k5_f12, k6_f12, k9_f12, k10_f12, k12_f12, k14_f12, k15_f12, decide_true, Bool.and_self, Bool.true_and, Bool.and_true, hB1.cell, hB2.cell, hB3.cell, hB8.cell, hB9.cell, hB11.cell, hC12_22, hg12_22, Bool.false_eq_true, Bool.true_eq_false, eq_self, if_true, if_false, true_and, and_true, false_and, and_false]; rfl) ?_
        refine LD.cq rfl rfl (gd_at (t := 92) rfl (by simp only [ev_tmp, ev_const, ev_func, set_get, Nat.reduceEqDiff, reduceIte, k5_f12, k6_f12, k9_f12, k10_f12, k12_f12, k14_f12, k15_f12, decide_true, Bool.and_self, Bool.true_and, Bool.and_true, hB1.cell, hB2.cell, hB3.cell, hB8.cell, hB9.cell, hB11.cell]; rfl)) (fun hg12_23 => by simp only [ev_tmp, ev_const, ev_func, set_get, Nat.reduceEqDiff, reduceIte, qv_pick, pk_and, pk_or, Bool.false_eq_true, Bool.true_eq_false, eq_self, if_true, if_false, true_and, and_true, false_and, and_false, k5_f12, k6_f12, k9_f12, k10_f12, k12_f12, k14_f12, k15_f12, decide_true, Bool.and_self, Bool.true_and, Bool.and_true, hB1.cell, hB2.cell, hB3.cell, hB8.cell, hB9.cell, hB11.cell, hg12_23, Bool.false_eq_true, Bool.true_eq_false, eq_self, if_true, if_false, true_and, and_true, false_and, and_false]; rfl) ?_
        refine LD.cq rfl rfl (gd_at (t := 92) rfl (by simp only [ev_tmp, ev_const, ev_func, set_get, Nat.reduceEqDiff, reduceIte, k5_f12, k6_f12, k9_f12, k10_f12, k12_f12, k14_f12, k15_f12, decide_true, Bool.and_self, Bool.true_and, Bool.and_true, hB1.cell, hB2.cell, hB3.cell, hB8.cell, hB9.cell, hB11.cell]; rfl)) (fun hg12_24 => by simp only [ev_tmp, ev_const, ev_func, set_get, Nat.reduceEqDiff, reduceIte, qv_move, k5_f12, k6_f12, k9_f12, k10_f12, k12_f12, k14_f12, k15_f12, decide_true, Bool.and_self, Bool.true_and, Bool.and_true, hB1.cell, hB2.cell, hB3.cell, hB8.cell, hB9.cell, hB11.cell, hg12_24, Bool.false_eq_true, Bool.true_eq_false, eq_self, if_true, if_false, true_and, and_true, false_and, and_false]; rfl) ?_
        refine LD.cq2 rfl rfl (t := 100) rfl (by simp only [ev_tmp, ev_const, ev_func, set_get, Nat.reduceEqDiff, reduceIte, k5_f12, k6_f12, k9_f12, k10_f12, k12_f12, k14_f12, k15_f12, decide_true, Bool.and_self, Bool.true_and, Bool.and_true, hB1.cell, hB2.cell, hB3.cell, hB8.cell, hB9.cell, hB11.cell]; rfl) (fun hC12_25 hg12_25 => by simp only [ev_tmp, ev_const, ev_func, set_get, Nat.reduceEqDiff, reduceIte, qv_move, k5_f12, k6_f12, k9_f12, k10_f12, k12_f12, k14_f12, k15_f12, decide_true, Bool.and_self, Bool.true_and, Bool.and_true, hB1.cell, hB2.cell, hB3.cell, hB8.cell, hB9.cell, hB11.cell, hC12_25, hg12_25, Bool.false_eq_true, Bool.true_eq_false, eq_self, if_true, if_false, true_and, and_true, false_and, and_false]; rfl) ?_
        refine LD.cq2 rfl rfl (t := 100) rfl (by simp only [ev_tmp, ev_const, ev_func, set_get, Nat.reduceEqDiff, reduceIte, k5_f12, k6_f12, k9_f12, k10_f12, k12_f12, k14_f12, k15_f12, decide_true, Bool.and_self, Bool.true_and, Bool.and_true, hB1.cell, hB2.cell, hB3.cell, hB8.cell, hB9.cell, hB11.cell]; rfl) (fun hC12_26 hg12_26 => by have hl : ¬ 400 < n.1 - d := (by simpa using hC12_26); simp only [ev_tmp, ev_const, ev_func, set_get, Nat.reduceEqDiff, reduceIte, k5_f12, k6_f12, k9_f12, k10_f12, k12_f12, k14_f12, k15_f12, decide_true, Bool.and_self, Bool.true_and, Bool.and_true, hB1.cell, hB2.cell, hB3.cell, hB8.cell, hB9.cell, hB11.cell, qv_indexAddr, Bool.false_eq_true, Bool.true_eq_false, eq_self, if_true, if_false, true_and, and_true, false_and, and_false, hC12_26, hg12_26, (hone hl).1]; exact ix55 _ _ _ _ .i64 0 (by decide) (by rw [(hMM hl).1]; simp)) ?_
        refine LD.cq2 rfl rfl (t := 100) rfl (by simp only [ev_tmp, ev_const, ev_func, set_get, Nat.reduceEqDiff, reduceIte, k5_f12, k6_f12, k9_f12, k10_f12, k12_f12, k14_f12, k15_f12, decide_true, Bool.and_self, Bool.true_and, Bool.and_true, hB1.cell, hB2.cell, hB3.cell, hB8.cell, hB9.cell, hB11.cell]; rfl) (fun hC12_27 hg12_27 => by have hl : ¬ 400 < n.1 - d := (by simpa using hC12_27); simp only [ev_tmp, ev_const, ev_func, set_get, Nat.reduceEqDiff, reduceIte, k5_f12, k6_f12, k9_f12, k10_f12, k12_f12, k14_f12, k15_f12, decide_true, Bool.and_self, Bool.true_and, Bool.and_true, hB1.cell, hB2.cell, hB3.cell, hB8.cell, hB9.cell, hB11.cell, qv_load, ld61, Bool.false_eq_true, Bool.true_eq_false, eq_self, if_true, if_false, true_and, and_true, false_and, and_false, hC12_27, hg12_27, show (0 : Int).toNat = 0 from rfl, (hone hl).2]; rfl) ?_
        refine LD.cq2 rfl rfl (t := 100) rfl (by simp only [ev_tmp, ev_const, ev_func, set_get, Nat.reduceEqDiff, reduceIte, k5_f12, k6_f12, k9_f12, k10_f12, k12_f12, k14_f12, k15_f12, decide_true, Bool.and_self, Bool.true_and, Bool.and_true, hB1.cell, hB2.cell, hB3.cell, hB8.cell, hB9.cell, hB11.cell]; rfl) (fun hC12_28 hg12_28 => by simp only [ev_tmp, ev_const, ev_func, set_get, Nat.reduceEqDiff, reduceIte, qv_load, ld61, readN, List.getElem?_toArray, List.getElem?_cons_zero, List.getElem?_cons_succ, List.map_toArray, List.map_cons, List.map_nil, Option.map_some, Option.bind_some, Nat.zero_add, Nat.reduceAdd, k5_f12, k6_f12, k9_f12, k10_f12, k12_f12, k14_f12, k15_f12, decide_true, Bool.and_self, Bool.true_and, Bool.and_true, hB1.cell, hB2.cell, hB3.cell, hB8.cell, hB9.cell, hB11.cell, hC12_28, hg12_28, Bool.false_eq_true, Bool.true_eq_false, eq_self, if_true, if_false, true_and, and_true, false_and, and_false]; rfl) ?_
        refine LD.cq2 rfl rfl (t := 100) rfl (by simp only [ev_tmp, ev_const, ev_func, set_get, Nat.reduceEqDiff, reduceIte, k5_f12, k6_f12, k9_f12, k10_f12, k12_f12, k14_f12, k15_f12, decide_true, Bool.and_self, Bool.true_and, Bool.and_true, hB1.cell, hB2.cell, hB3.cell, hB8.cell, hB9.cell, hB11.cell]; rfl) (fun hC12_29 hg12_29 => by simp only [ev_tmp, ev_const, ev_func, set_get, Nat.reduceEqDiff, reduceIte, qv_binOp, binv_eql, eqs61, Option.map_some, k5_f12, k6_f12, k9_f12, k10_f12, k12_f12, k14_f12, k15_f12, decide_true, Bool.and_self, Bool.true_and, Bool.and_true, hB1.cell, hB2.cell, hB3.cell, hB8.cell, hB9.cell, hB11.cell, hC12_29, hg12_29, Bool.false_eq_true, Bool.true_eq_false, eq_self, if_true, if_false, true_and, and_true, false_and, and_false]; rfl) ?_
        refine LD.cq rfl rfl (gd_at (t := 92) rfl (by simp only [ev_tmp, ev_const, ev_func, set_get, Nat.reduceEqDiff, reduceIte, k5_f12, k6_f12, k9_f12, k10_f12, k12_f12, k14_f12, k15_f12, decide_true, Bool.and_self, Bool.true_and, Bool.and_true, hB1.cell, hB2.cell, hB3.cell, hB8.cell, hB9.cell, hB11.cell]; rfl)) (fun hg12_30 => by simp only [ev_tmp, ev_const, ev_func, set_get, Nat.reduceEqDiff, reduceIte, k5_f12, k6_f12, k9_f12, k10_f12, k12_f12, k14_f12, k15_f12, decide_true, Bool.and_self, Bool.true_and, Bool.and_true, hB1.cell, hB2.cell, hB3.cell, hB8.cell, hB9.cell, hB11.cell, Bool.false_eq_true, Bool.true_eq_false, eq_self, if_true, if_false, true_and, and_true, false_and, and_false, qv_pick, hg12_30]; exact congrArg some (pk_and (decide (ce = 0) && decide (((M.length : Nat) : Int) = 1)) _ _)) ?_
        refine LD.cq rfl rfl (gd_at (t := 84) rfl (by simp only [ev_tmp, ev_const, ev_func, set_get, Nat.reduceEqDiff, reduceIte, k5_f12, k6_f12, k9_f12, k10_f12, k12_f12, k14_f12, k15_f12, decide_true, Bool.and_self, Bool.true_and, Bool.and_true, hB1.cell, hB2.cell, hB3.cell, hB8.cell, hB9.cell, hB11.cell]; rfl)) (fun hg12_31 => by simp only [ev_tmp, ev_const, ev_func, set_get, Nat.reduceEqDiff, reduceIte, qv_pick, pk_and, pk_or, Bool.false_eq_true, Bool.true_eq_false, eq_self, if_true, if_false, true_and, and_true, false_and, and_false, k5_f12, k6_f12, k9_f12, k10_f12, k12_f12, k14_f12, k15_f12, decide_true, Bool.and_self, Bool.true_and, Bool.and_true, hB1.cell, hB2.cell, hB3.cell, hB8.cell, hB9.cell, hB11.cell, hg12_31, Bool.false_eq_true, Bool.true_eq_false, eq_self, if_true, if_false, true_and, and_true, false_and, and_false]; rfl) ?_
        refine LD.qq rfl rfl (by simp only [ev_tmp, ev_const, ev_func, set_get, Nat.reduceEqDiff, reduceIte, qv_pick, pk_and, pk_or, Bool.false_eq_true, Bool.true_eq_false, eq_self, if_true, if_false, true_and, and_true, false_and, and_false, k5_f12, k6_f12, k9_f12, k10_f12, k12_f12, k14_f12, k15_f12, decide_true, Bool.and_self, Bool.true_and, Bool.and_true, hB1.cell, hB2.cell, hB3.cell, hB8.cell, hB9.cell, hB11.cell]; rfl) ?_
        refine LD.qq rfl rfl (by simp only [ev_tmp, ev_const, ev_func, set_get, Nat.reduceEqDiff, reduceIte, qv_assign, k5_f12, k6_f12, k9_f12, k10_f12, k12_f12, k14_f12, k15_f12, decide_true, Bool.and_self, Bool.true_and, Bool.and_true, hB1.cell, hB2.cell, hB3.cell, hB8.cell, hB9.cell, hB11.cell]; rfl) ?_
        refine LD.nil ?_
        rintro h15 hx15 hF12
        replace hx15 : Ext _ _ := hx15
        replace hE := hE.trans hx15
        replace hEo11 := hEo11.trans hx15
        replace hw := hw.ext hx15
        replace hh := hh.ext hx15
        replace hB1 := hB1.ext hx15
        replace hB2 := hB2.ext hx15
        replace hB3 := hB3.ext hx15
        replace hq := hq.ext hx15
        replace hB8 := hB8.ext hx15
        replace hB9 := hB9.ext hx15
        replace hB11 := hB11.ext hx15
        replace hsl := hsl.ext hx15
        refine WL.nil ?_
        refine th_norm ?_
        refine hx_ret ?_
        refine fin_ret [.tmp 6] rfl rfl (by simp only [ev_tmp, ev_const, ev_func, set_get, Nat.reduceEqDiff, reduceIte, resv, k5_f12, k6_f12, k9_f12, k10_f12, k12_f12, k14_f12, k15_f12, decide_true, Bool.and_self, Bool.true_and, Bool.and_true, hB1.cell, hB2.cell, hB3.cell, hB8.cell, hB9.cell, hB11.cell]; rfl) ?_  -- ret 3 r12
        by_cases hl : 400 < n.1 - d
        exact ⟨by simp [retOf, hl], hE⟩
        exact ⟨by simp [retOf, hl, (hMM hl).1, (hMM hl).2], hE⟩
end GL


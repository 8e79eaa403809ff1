/- Schedule: the laws on Phase, Begin, Changes, Next and adjoining periods. -/
import Derived.Test.YtnmgdjajmmgaaaaSchI
set_option linter.unusedSimpArgs false
set_option linter.unusedVariables false
set_option linter.unnecessarySimpa false
namespace GL
open Go Go.Proofs
set_option maxRecDepth 8000
/-- What made hands back. -/
def QMade (h : Heap) (q : Option Addr) (b : Bool) (wk hol : List Int) : Prop := b = true → ∃ p, q = some ⟨p, 0, none⟩ ∧ IsCal h p wk (srt hol)
theorem QMade.ext {h h' : Heap} {q : Option Addr} {b : Bool} {wk hol : List Int} (hq : QMade h q b wk hol) (hx : Ext h h') : QMade h' q b wk hol := fun hb => by
  obtain ⟨p, h1, h2⟩ := hq hb
  exact ⟨p, h1, h2.ext hx⟩
theorem c_made (wk hol : List Int) {a a' : Option Addr} (c c' : Nat) {h : Heap} (hw : SlI h a wk) (hh : SlI h a' hol) (lw : wk.length ≤ 9223372036854775807) :
    HCalls Try.prog 12 #[.agg #[.slice a wk.length c, .slice a' hol.length c']] h fun v h' => Ext h h' ∧ ∃ q b, v = .tuple #[.pointer q, .bool b] ∧ QMade h' q b wk hol := by
  by_cases h1 : 60 < hol.length ∨ 7 < wk.length ∨ newM wk hol ≠ 0
  · exact (c_made_no h1 c c' hw hh lw).mono fun v h' ⟨hv, hx⟩ => ⟨hx, none, false, hv, fun hb => by cases hb⟩
  · have h2 : newM wk hol = 0 := Classical.byContradiction fun hn => h1 (.inr (.inr hn))
    exact (c_made_ok h2 (Nat.le_of_not_lt fun hn => h1 (.inl hn)) (Nat.le_of_not_lt fun hn => h1 (.inr (.inl hn))) c c' hw hh lw).mono fun v h' ⟨hx, p, hv, hc⟩ => ⟨hx, _, true, hv, fun _ => ⟨p, rfl, hc⟩⟩
theorem phase_no (s : List Int) (a : Addr) (bus : Int → Bool) (d m : Int) : phaseM s (some a) bus d m = (if failM s [(d, m)] = 0 then (if bus d = true then phN s m 6 else 0) else 0, failM s [(d, m)]) := by
  unfold phaseM
  rw [← fail_val]
  by_cases h : failM s [(d, m)] = 0
  · rw [if_pos h, if_pos h, h]
  · rw [if_neg h, if_neg h]
theorem l_phase (s0 s1 s2 s3 s4 s5 d m : Int) (wk hol : List Int) (a a' : Option Addr) (c c' : Nat) {h : Heap} (hw : SlI h a wk) (hh : SlI h a' hol) (lw : wk.length ≤ 9223372036854775807) (lh : hol.length ≤ 9223372036854775807) :
    HCalls Try.prog 3 #[sch s0 s1 s2 s3 s4 s5, .agg #[.slice a wk.length c, .slice a' hol.length c'], .agg #[.int .i64 d, .int .i64 m]] h (Grow (.bool true) h) := by
  refine hcalls2 Try.func3 rfl (by decide +kernel) (by simp only [Try.ntmps3]; exact of_decide_eq_true rfl) ?_
  intro e hin
  have e0 := hin 0 _ rfl
  have e1 := hin 1 _ rfl
  have e2 := hin 2 _ rfl
  obtain ⟨no, hno⟩ : ∃ no, failM [s0, s1, s2, s3, s4, s5] [(d, m)] = no := ⟨_, rfl⟩
  refine hx_seq ?_
  refine hx_region ?_
  refine WL.box2 (by simp only [ev_tmp, ev_const, ev_func, set_get, Nat.reduceEqDiff, reduceIte, Value.cells, e0, e1, e2]; rfl) ?_
  intro h1 B1 hx1 hlt1 hB1
  replace hw := hw.ext hx1
  replace hh := hh.ext hx1
  refine WL.box2 (by simp only [ev_tmp, ev_const, ev_func, set_get, Nat.reduceEqDiff, reduceIte, Value.cells, e0, e1, e2, hB1.cell]; rfl) ?_
  intro h2 B2 hx2 hlt2 hB2
  replace hw := hw.ext hx2
  replace hh := hh.ext hx2
  replace hB1 := hB1.ext hx2
  refine WL.box2 (by simp only [ev_tmp, ev_const, ev_func, set_get, Nat.reduceEqDiff, reduceIte, Value.cells, e0, e1, e2, hB1.cell, hB2.cell]; rfl) ?_
  intro h3 B3 hx3 hlt3 hB3
  replace hw := hw.ext hx3
  replace hh := hh.ext hx3
  replace hB1 := hB1.ext hx3
  replace hB2 := hB2.ext hx3
  refine WL.qq (by simp only [ev_tmp, ev_const, ev_func, set_get, Nat.reduceEqDiff, reduceIte, qv_assign, e0, e1, e2, hB1.cell, hB2.cell, hB3.cell]; rfl) ?_
  refine WL.nil ?_
  refine th_norm ?_
  refine hx_seq ?_
  refine hx_region ?_
  refine WL.qq (by simp only [ev_tmp, ev_const, ev_func, set_get, Nat.reduceEqDiff, reduceIte, qv_load, ld27, readN, List.getElem?_toArray, List.getElem?_cons_zero, List.getElem?_cons_succ, List.map_toArray, List.map_cons, List.map_nil, Option.map_some, Option.bind_some, Nat.zero_add, Nat.reduceAdd, e0, e1, e2, hB1.cell, hB2.cell, hB3.cell]; rfl) ?_
  refine WL.ce Try.call12 (by simp only [ev_tmp, ev_const, ev_func, set_get, Nat.reduceEqDiff, reduceIte, List.getElem?_toArray, List.getElem?_cons_zero, List.getElem?_cons_succ, List.map_toArray, List.map_cons, List.map_nil, Option.map_some, Option.bind_some, e0, e1, e2, hB1.cell, hB2.cell, hB3.cell]; exact c_made wk hol c c' hw hh lw) ?_
  rintro _ h4 ⟨hx4, q, b, rfl, hq⟩
  replace hw := hw.ext hx4
  replace hh := hh.ext hx4
  replace hB1 := hB1.ext hx4
  replace hB2 := hB2.ext hx4
  replace hB3 := hB3.ext hx4
  simp only [put_some]
  refine WL.qq (by simp only [ev_tmp, ev_const, ev_func, set_get, Nat.reduceEqDiff, reduceIte, qv_move, e0, e1, e2, hB1.cell, hB2.cell, hB3.cell]; rfl) ?_
  refine WL.qq (by simp only [ev_tmp, ev_const, ev_func, set_get, Nat.reduceEqDiff, reduceIte, qv_extract, List.getElem?_toArray, List.getElem?_cons_zero, List.getElem?_cons_succ, List.map_toArray, List.map_cons, List.map_nil, Option.map_some, Option.bind_some, e0, e1, e2, hB1.cell, hB2.cell, hB3.cell]; rfl) ?_
  refine WL.qq (by simp only [ev_tmp, ev_const, ev_func, set_get, Nat.reduceEqDiff, reduceIte, qv_extract, List.getElem?_toArray, List.getElem?_cons_zero, List.getElem?_cons_succ, List.map_toArray, List.map_cons, List.map_nil, Option.map_some, Option.bind_some, e0, e1, e2, hB1.cell, hB2.cell, hB3.cell]; rfl) ?_
  refine WL.qq (by simp only [ev_tmp, ev_const, ev_func, set_get, Nat.reduceEqDiff, reduceIte, qv_assign, e0, e1, e2, hB1.cell, hB2.cell, hB3.cell]; rfl) ?_
  refine WL.qq (by simp only [ev_tmp, ev_const, ev_func, set_get, Nat.reduceEqDiff, reduceIte, qv_assign, e0, e1, e2, hB1.cell, hB2.cell, hB3.cell]; rfl) ?_
  refine WL.nil ?_
  refine th_norm ?_
  refine hx_seq ?_
  refine hx_seq ?_
  refine hx_region ?_
  refine WL.cg Try.call13 (by simp only [ev_tmp, ev_const, ev_func, set_get, Nat.reduceEqDiff, reduceIte, List.getElem?_toArray, List.getElem?_cons_zero, List.getElem?_cons_succ, List.map_toArray, List.map_cons, List.map_nil, Option.map_some, Option.bind_some, e0, e1, e2, hB1.cell, hB2.cell, hB3.cell]; exact c_known47 _) ?_
  intro h5 hx5
  replace hw := hw.ext hx5
  replace hh := hh.ext hx5
  replace hB1 := hB1.ext hx5
  replace hB2 := hB2.ext hx5
  replace hB3 := hB3.ext hx5
  replace hq := hq.ext hx5
  refine WL.qq (by simp only [ev_tmp, ev_const, ev_func, set_get, Nat.reduceEqDiff, reduceIte, qv_unOp, unv_not, e0, e1, e2, hB1.cell, hB2.cell, hB3.cell]; rfl) ?_
  refine WL.qq (by simp only [ev_tmp, ev_const, ev_func, set_get, Nat.reduceEqDiff, reduceIte, qv_move, e0, e1, e2, hB1.cell, hB2.cell, hB3.cell]; rfl) ?_
  refine WL.cq (gd_at (t := 19) rfl (by simp only [ev_tmp, ev_const, ev_func, set_get, Nat.reduceEqDiff, reduceIte, e0, e1, e2, hB1.cell, hB2.cell, hB3.cell]; rfl)) (fun hg2_3 => by simp only [ev_tmp, ev_const, ev_func, set_get, Nat.reduceEqDiff, reduceIte, qv_move, e0, e1, e2, hB1.cell, hB2.cell, hB3.cell, hg2_3, Bool.false_eq_true, Bool.true_eq_false, eq_self, if_true, if_false, true_and, and_true, false_and, and_false]; rfl) ?_
  refine WL.cq (gd_at (t := 19) rfl (by simp only [ev_tmp, ev_const, ev_func, set_get, Nat.reduceEqDiff, reduceIte, e0, e1, e2, hB1.cell, hB2.cell, hB3.cell]; rfl)) (fun hg2_4 => by simp only [ev_tmp, ev_const, ev_func, set_get, Nat.reduceEqDiff, reduceIte, qv_unOp, unv_not, e0, e1, e2, hB1.cell, hB2.cell, hB3.cell, hg2_4, Bool.false_eq_true, Bool.true_eq_false, eq_self, if_true, if_false, true_and, and_true, false_and, and_false]; rfl) ?_
  refine WL.qq (by simp only [ev_tmp, ev_const, ev_func, set_get, Nat.reduceEqDiff, reduceIte, qv_pick, pk_and, pk_or, Bool.false_eq_true, Bool.true_eq_false, eq_self, if_true, if_false, true_and, and_true, false_and, and_false, e0, e1, e2, hB1.cell, hB2.cell, hB3.cell]; rfl) ?_
  refine WL.nil ?_
  refine th_norm ?_
  refine hx_cond (by simp only [ev_tmp, ev_const, ev_func, set_get, Nat.reduceEqDiff, reduceIte, e0, e1, e2, hB1.cell, hB2.cell, hB3.cell]; rfl) (fun hct22 => ?_) (fun hct22 => ?_)
  ·
    try simp only [decide_eq_true_eq, decide_eq_false_iff_not, Bool.and_eq_true, Bool.and_eq_false_iff, Bool.or_eq_true, Bool.or_eq_false_iff, Bool.not_eq_true', Bool.not_eq_false', Bool.not_eq_true, Bool.not_eq_false] at hct22
    refine hx_seq ?_
    refine hx_region ?_
    refine WL.cg Try.call13 (by simp only [ev_tmp, ev_const, ev_func, set_get, Nat.reduceEqDiff, reduceIte, List.getElem?_toArray, List.getElem?_cons_zero, List.getElem?_cons_succ, List.map_toArray, List.map_cons, List.map_nil, Option.map_some, Option.bind_some, e0, e1, e2, hB1.cell, hB2.cell, hB3.cell]; exact c_known47 _) ?_
    intro h6 hx6
    replace hw := hw.ext hx6
    replace hh := hh.ext hx6
    replace hB1 := hB1.ext hx6
    replace hB2 := hB2.ext hx6
    replace hB3 := hB3.ext hx6
    replace hq := hq.ext hx6
    refine WL.qq (by simp only [ev_tmp, ev_const, ev_func, set_get, Nat.reduceEqDiff, reduceIte, qv_assign, e0, e1, e2, hB1.cell, hB2.cell, hB3.cell]; rfl) ?_
    refine WL.nil ?_
    refine th_norm ?_
    refine hx_ret ?_
    refine th_ret ?_
    refine fin_ret [.tmp 6] rfl rfl (by simp only [ev_tmp, ev_const, ev_func, set_get, Nat.reduceEqDiff, reduceIte, resv, e0, e1, e2, hB1.cell, hB2.cell, hB3.cell]; rfl) ?_  -- ret 0 r3
    exact ⟨rfl, ((hx1).trans ((hx2).trans ((hx3).trans ((hx4).trans ((hx5).trans (hx6))))))⟩
  ·
    try simp only [decide_eq_true_eq, decide_eq_false_iff_not, Bool.and_eq_true, Bool.and_eq_false_iff, Bool.or_eq_true, Bool.or_eq_false_iff, Bool.not_eq_true', Bool.not_eq_false', Bool.not_eq_true, Bool.not_eq_false] at hct22
    have hb : b = true := by simpa using hct22
    obtain ⟨p, rfl, hc⟩ := hq hb
    refine hx_skip ?_
    refine th_norm ?_
    refine hx_seq ?_
    refine hx_region ?_
    refine WL.qq (by simp only [ev_tmp, ev_const, ev_func, set_get, Nat.reduceEqDiff, reduceIte, qv_load, ld24, readN, List.getElem?_toArray, List.getElem?_cons_zero, List.getElem?_cons_succ, List.map_toArray, List.map_cons, List.map_nil, Option.map_some, Option.bind_some, Nat.zero_add, Nat.reduceAdd, e0, e1, e2, hB1.cell, hB2.cell, hB3.cell]; rfl) ?_
    refine WL.qq (by simp only [ev_tmp, ev_const, ev_func, set_get, Nat.reduceEqDiff, reduceIte, qv_load, ld29, readN, List.getElem?_toArray, List.getElem?_cons_zero, List.getElem?_cons_succ, List.map_toArray, List.map_cons, List.map_nil, Option.map_some, Option.bind_some, Nat.zero_add, Nat.reduceAdd, e0, e1, e2, hB1.cell, hB2.cell, hB3.cell]; rfl) ?_
    refine WL.qq (by simp only [ev_tmp, ev_const, ev_func, set_get, Nat.reduceEqDiff, reduceIte, qv_move, e0, e1, e2, hB1.cell, hB2.cell, hB3.cell]; rfl) ?_
    refine WL.cg Try.call14 (by simp only [ev_tmp, ev_const, ev_func, set_get, Nat.reduceEqDiff, reduceIte, List.getElem?_toArray, List.getElem?_cons_zero, List.getElem?_cons_succ, List.map_toArray, List.map_cons, List.map_nil, Option.map_some, Option.bind_some, e0, e1, e2, hB1.cell, hB2.cell, hB3.cell]; exact HCalls.gv (by rw [phase_no, hno, busM_srt]) (c_phase s0 s1 s2 s3 s4 s5 d m _ wk (srt hol) (QCal.some hc))) ?_
    intro h7 hx7
    replace hw := hw.ext hx7
    replace hh := hh.ext hx7
    replace hB1 := hB1.ext hx7
    replace hB2 := hB2.ext hx7
    replace hB3 := hB3.ext hx7
    replace hq := hq.ext hx7
    refine WL.qq (by simp only [ev_tmp, ev_const, ev_func, set_get, Nat.reduceEqDiff, reduceIte, qv_move, e0, e1, e2, hB1.cell, hB2.cell, hB3.cell]; rfl) ?_
    refine WL.qq (by simp only [ev_tmp, ev_const, ev_func, set_get, Nat.reduceEqDiff, reduceIte, qv_extract, List.getElem?_toArray, List.getElem?_cons_zero, List.getElem?_cons_succ, List.map_toArray, List.map_cons, List.map_nil, Option.map_some, Option.bind_some, e0, e1, e2, hB1.cell, hB2.cell, hB3.cell]; rfl) ?_
    refine WL.qq (by simp only [ev_tmp, ev_const, ev_func, set_get, Nat.reduceEqDiff, reduceIte, qv_extract, List.getElem?_toArray, List.getElem?_cons_zero, List.getElem?_cons_succ, List.map_toArray, List.map_cons, List.map_nil, Option.map_some, Option.bind_some, e0, e1, e2, hB1.cell, hB2.cell, hB3.cell]; rfl) ?_
    refine WL.qq (by simp only [ev_tmp, ev_const, ev_func, set_get, Nat.reduceEqDiff, reduceIte, qv_assign, e0, e1, e2, hB1.cell, hB2.cell, hB3.cell]; rfl) ?_
    refine WL.qq (by simp only [ev_tmp, ev_const, ev_func, set_get, Nat.reduceEqDiff, reduceIte, qv_assign, e0, e1, e2, hB1.cell, hB2.cell, hB3.cell]; rfl) ?_
    refine WL.nil ?_
    refine th_norm ?_
    refine hx_seq ?_
    refine hx_region ?_
    refine WL.qq (by simp only [ev_tmp, ev_const, ev_func, set_get, Nat.reduceEqDiff, reduceIte, qv_load, ld24, readN, List.getElem?_toArray, List.getElem?_cons_zero, List.getElem?_cons_succ, List.map_toArray, List.map_cons, List.map_nil, Option.map_some, Option.bind_some, Nat.zero_add, Nat.reduceAdd, e0, e1, e2, hB1.cell, hB2.cell, hB3.cell]; rfl) ?_
    refine WL.qq (by simp only [ev_tmp, ev_const, ev_func, set_get, Nat.reduceEqDiff, reduceIte, qv_load, ld29, readN, List.getElem?_toArray, List.getElem?_cons_zero, List.getElem?_cons_succ, List.map_toArray, List.map_cons, List.map_nil, Option.map_some, Option.bind_some, Nat.zero_add, Nat.reduceAdd, e0, e1, e2, hB1.cell, hB2.cell, hB3.cell]; rfl) ?_
    refine WL.lit2 #[(.int .i64 0), (.int .i64 0)] Try.underlying84 sz29 zr29 (by decide) (by kernel_rfl) ⟨_, (by simp only [ev_tmp, ev_const, ev_func, set_get, Nat.reduceEqDiff, reduceIte, List.getElem?_toArray, List.getElem?_cons_zero, List.getElem?_cons_succ, List.map_toArray, List.map_cons, List.map_nil, Option.map_some, Option.bind_some, e0, e1, e2, hB1.cell, hB2.cell, hB3.cell]; simp [Instr.fill, Value.cells]; rfl), rfl⟩ ?_
    intro h8 B8 hx8 hlt8 hB8
    replace hw := hw.ext hx8
    replace hh := hh.ext hx8
    replace hB1 := hB1.ext hx8
    replace hB2 := hB2.ext hx8
    replace hB3 := hB3.ext hx8
    replace hq := hq.ext hx8
    refine WL.cg Try.call15 (by simp only [ev_tmp, ev_const, ev_func, set_get, Nat.reduceEqDiff, reduceIte, List.getElem?_toArray, List.getElem?_cons_zero, List.getElem?_cons_succ, List.map_toArray, List.map_cons, List.map_nil, Option.map_some, Option.bind_some, e0, e1, e2, hB1.cell, hB2.cell, hB3.cell, hB8.cell]; exact HCalls.gv (by rw [hno]) (c_fails s0 s1 s2 s3 s4 s5 _ [(d, m)] 1 (by simp) (SlC.one hB8))) ?_
    intro h9 hx9
    replace hw := hw.ext hx9
    replace hh := hh.ext hx9
    replace hB1 := hB1.ext hx9
    replace hB2 := hB2.ext hx9
    replace hB3 := hB3.ext hx9
    replace hq := hq.ext hx9
    replace hB8 := hB8.ext hx9
    refine WL.qq (by simp only [ev_tmp, ev_const, ev_func, set_get, Nat.reduceEqDiff, reduceIte, qv_assign, e0, e1, e2, hB1.cell, hB2.cell, hB3.cell, hB8.cell]; rfl) ?_
    refine WL.nil ?_
    refine th_norm ?_
    refine hx_seq ?_
    refine hx_seq ?_
    apply hx_draw2 Rel.grows [] [1, 4] [(1, Spec.is _), (4, Spec.is _)] rfl (by decide +kernel) rfl
    refine LD.qq rfl rfl (by simp only [ev_tmp, ev_const, ev_func, set_get, Nat.reduceEqDiff, reduceIte, qv_load, ld24, readN, List.getElem?_toArray, List.getElem?_cons_zero, List.getElem?_cons_succ, List.map_toArray, List.map_cons, List.map_nil, Option.map_some, Option.bind_some, Nat.zero_add, Nat.reduceAdd, e0, e1, e2, hB1.cell, hB2.cell, hB3.cell, hB8.cell]; rfl) ?_
    refine LD.ck rfl rfl Try.call16 (by intro hD hr; have hx : Ext _ _ := hr; have hw := hw.ext hx; have hh := hh.ext hx; have hB1 := hB1.ext hx; have hB2 := hB2.ext hx; have hB3 := hB3.ext hx; have hq := hq.ext hx; have hB8 := hB8.ext hx; simp only [ev_tmp, ev_const, ev_func, set_get, Nat.reduceEqDiff, reduceIte, List.getElem?_toArray, List.getElem?_cons_zero, List.getElem?_cons_succ, List.map_toArray, List.map_cons, List.map_nil, Option.map_some, Option.bind_some, e0, e1, e2, hB1.cell, hB2.cell, hB3.cell, hB8.cell]; exact c_check s0 s1 s2 s3 s4 s5 _) ?_
    refine LD.qq rfl rfl (by simp only [ev_tmp, ev_const, ev_func, set_get, Nat.reduceEqDiff, reduceIte, qv_fieldAddr, fa24_0, Nat.zero_add, Nat.reduceAdd, e0, e1, e2, hB1.cell, hB2.cell, hB3.cell, hB8.cell]; rfl) ?_
    refine LD.qq rfl rfl (by simp only [ev_tmp, ev_const, ev_func, set_get, Nat.reduceEqDiff, reduceIte, qv_load, ld22, readN, List.getElem?_toArray, List.getElem?_cons_zero, List.getElem?_cons_succ, List.map_toArray, List.map_cons, List.map_nil, Option.map_some, Option.bind_some, Nat.zero_add, Nat.reduceAdd, e0, e1, e2, hB1.cell, hB2.cell, hB3.cell, hB8.cell]; rfl) ?_
    refine LD.ck rfl rfl Try.call17 (by intro hD hr; have hx : Ext _ _ := hr; have hw := hw.ext hx; have hh := hh.ext hx; have hB1 := hB1.ext hx; have hB2 := hB2.ext hx; have hB3 := hB3.ext hx; have hq := hq.ext hx; have hB8 := hB8.ext hx; simp only [ev_tmp, ev_const, ev_func, set_get, Nat.reduceEqDiff, reduceIte, List.getElem?_toArray, List.getElem?_cons_zero, List.getElem?_cons_succ, List.map_toArray, List.map_cons, List.map_nil, Option.map_some, Option.bind_some, e0, e1, e2, hB1.cell, hB2.cell, hB3.cell, hB8.cell]; exact c_rcheck s0 s1 s2 s3 s4 s5 _) ?_
    refine LD.qq rfl rfl (by simp only [ev_tmp, ev_const, ev_func, set_get, Nat.reduceEqDiff, reduceIte, qv_binOp, binv_neq, eq3, Option.map_some, e0, e1, e2, hB1.cell, hB2.cell, hB3.cell, hB8.cell]; rfl) ?_
    refine LD.qq rfl rfl (by simp only [ev_tmp, ev_const, ev_func, set_get, Nat.reduceEqDiff, reduceIte, qv_move, e0, e1, e2, hB1.cell, hB2.cell, hB3.cell, hB8.cell]; rfl) ?_
    refine LD.cq rfl rfl (gd_at (t := 41) rfl (by simp only [ev_tmp, ev_const, ev_func, set_get, Nat.reduceEqDiff, reduceIte, e0, e1, e2, hB1.cell, hB2.cell, hB3.cell, hB8.cell]; rfl)) (fun hg6_7 => by simp only [ev_tmp, ev_const, ev_func, set_get, Nat.reduceEqDiff, reduceIte, qv_move, e0, e1, e2, hB1.cell, hB2.cell, hB3.cell, hB8.cell, hg6_7, Bool.false_eq_true, Bool.true_eq_false, eq_self, if_true, if_false, true_and, and_true, false_and, and_false]; rfl) ?_
    refine LD.cq rfl rfl (gd_at (t := 41) rfl (by simp only [ev_tmp, ev_const, ev_func, set_get, Nat.reduceEqDiff, reduceIte, e0, e1, e2, hB1.cell, hB2.cell, hB3.cell, hB8.cell]; rfl)) (fun hg6_8 => by simp only [ev_tmp, ev_const, ev_func, set_get, Nat.reduceEqDiff, reduceIte, qv_move, e0, e1, e2, hB1.cell, hB2.cell, hB3.cell, hB8.cell, hg6_8, Bool.false_eq_true, Bool.true_eq_false, eq_self, if_true, if_false, true_and, and_true, false_and, and_false]; rfl) ?_
    refine LD.cq rfl rfl (gd_at (t := 41) rfl (by simp only [ev_tmp, ev_const, ev_func, set_get, Nat.reduceEqDiff, reduceIte, e0, e1, e2, hB1.cell, hB2.cell, hB3.cell, hB8.cell]; rfl)) (fun hg6_9 => by simp only [ev_tmp, ev_const, ev_func, set_get, Nat.reduceEqDiff, reduceIte, qv_binOp, binv_neq, eq3, Option.map_some, e0, e1, e2, hB1.cell, hB2.cell, hB3.cell, hB8.cell, hg6_9, Bool.false_eq_true, Bool.true_eq_false, eq_self, if_true, if_false, true_and, and_true, false_and, and_false]; rfl) ?_
    refine LD.qq rfl rfl (by simp only [ev_tmp, ev_const, ev_func, set_get, Nat.reduceEqDiff, reduceIte, qv_pick, pk_and, pk_or, Bool.false_eq_true, Bool.true_eq_false, eq_self, if_true, if_false, true_and, and_true, false_and, and_false, e0, e1, e2, hB1.cell, hB2.cell, hB3.cell, hB8.cell]; rfl) ?_
    refine LD.nil ?_
    rintro h10 hx10 hF6
    replace hx10 : Ext _ _ := hx10
    replace hw := hw.ext hx10
    replace hh := hh.ext hx10
    replace hB1 := hB1.ext hx10
    replace hB2 := hB2.ext hx10
    replace hB3 := hB3.ext hx10
    replace hq := hq.ext hx10
    replace hB8 := hB8.ext hx10
    refine WL.nil ?_
    refine th_norm ?_
    refine hx_cond (by simp only [ev_tmp, ev_const, ev_func, set_get, Nat.reduceEqDiff, reduceIte, e0, e1, e2, hB1.cell, hB2.cell, hB3.cell, hB8.cell]; rfl) (fun hct45 => ?_) (fun hct45 => ?_)
    ·
      simp at hct45
    ·
      try simp only [decide_eq_true_eq, decide_eq_false_iff_not, Bool.and_eq_true, Bool.and_eq_false_iff, Bool.or_eq_true, Bool.or_eq_false_iff, Bool.not_eq_true', Bool.not_eq_false', Bool.not_eq_true, Bool.not_eq_false] at hct45
      refine hx_skip ?_
      refine th_norm ?_
      refine hx_seq ?_
      refine hx_seq ?_
      refine hx_region ?_
      refine WL.qq (by simp only [ev_tmp, ev_const, ev_func, set_get, Nat.reduceEqDiff, reduceIte, qv_move, e0, e1, e2, hB1.cell, hB2.cell, hB3.cell, hB8.cell]; rfl) ?_
      refine WL.qq (by simp only [ev_tmp, ev_const, ev_func, set_get, Nat.reduceEqDiff, reduceIte, qv_binOp, binv_neq, eq3, Option.map_some, e0, e1, e2, hB1.cell, hB2.cell, hB3.cell, hB8.cell]; rfl) ?_
      refine WL.nil ?_
      refine th_norm ?_
      refine hx_cond (by simp only [ev_tmp, ev_const, ev_func, set_get, Nat.reduceEqDiff, reduceIte, e0, e1, e2, hB1.cell, hB2.cell, hB3.cell, hB8.cell]; rfl) (fun hct47 => ?_) (fun hct47 => ?_)
      ·
        try simp only [decide_eq_true_eq, decide_eq_false_iff_not, Bool.and_eq_true, Bool.and_eq_false_iff, Bool.or_eq_true, Bool.or_eq_false_iff, Bool.not_eq_true', Bool.not_eq_false', Bool.not_eq_true, Bool.not_eq_false] at hct47
        refine hx_seq ?_
        refine hx_region ?_
        refine WL.qq (by simp only [ev_tmp, ev_const, ev_func, set_get, Nat.reduceEqDiff, reduceIte, qv_move, e0, e1, e2, hB1.cell, hB2.cell, hB3.cell, hB8.cell]; rfl) ?_
        refine WL.qq (by simp only [ev_tmp, ev_const, ev_func, set_get, Nat.reduceEqDiff, reduceIte, qv_binOp, binv_eql, eq3, Option.map_some, e0, e1, e2, hB1.cell, hB2.cell, hB3.cell, hB8.cell]; rfl) ?_
        refine WL.qq (by simp only [ev_tmp, ev_const, ev_func, set_get, Nat.reduceEqDiff, reduceIte, qv_assign, e0, e1, e2, hB1.cell, hB2.cell, hB3.cell, hB8.cell]; rfl) ?_
        refine WL.nil ?_
        refine th_norm ?_
        refine hx_ret ?_
        refine th_ret ?_
        refine fin_ret [.tmp 6] rfl rfl (by simp only [ev_tmp, ev_const, ev_func, set_get, Nat.reduceEqDiff, reduceIte, resv, e0, e1, e2, hB1.cell, hB2.cell, hB3.cell, hB8.cell]; rfl) ?_  -- ret 1 r9
        exact ⟨by rw [if_neg hct47]; rfl, ((hx1).trans ((hx2).trans ((hx3).trans ((hx4).trans ((hx5).trans ((hx7).trans ((hx8).trans ((hx9).trans (hx10)))))))))⟩
      ·
        try simp only [decide_eq_true_eq, decide_eq_false_iff_not, Bool.and_eq_true, Bool.and_eq_false_iff, Bool.or_eq_true, Bool.or_eq_false_iff, Bool.not_eq_true', Bool.not_eq_false', Bool.not_eq_true, Bool.not_eq_false] at hct47
        refine hx_skip ?_
        refine th_norm ?_
        refine hx_seq ?_
        apply hx_draw2 Rel.grows [] [4, 6] [(4, Spec.is _), (6, Spec.is _)] rfl (by decide +kernel) rfl
        refine LD.qq rfl rfl (by simp only [ev_tmp, ev_const, ev_func, set_get, Nat.reduceEqDiff, reduceIte, qv_move, e0, e1, e2, hB1.cell, hB2.cell, hB3.cell, hB8.cell]; rfl) ?_
        refine LD.qq rfl rfl (by simp only [ev_tmp, ev_const, ev_func, set_get, Nat.reduceEqDiff, reduceIte, qv_fieldAddr, fa24_0, Nat.zero_add, Nat.reduceAdd, e0, e1, e2, hB1.cell, hB2.cell, hB3.cell, hB8.cell]; rfl) ?_
        refine LD.qq rfl rfl (by simp only [ev_tmp, ev_const, ev_func, set_get, Nat.reduceEqDiff, reduceIte, qv_load, ld22, readN, List.getElem?_toArray, List.getElem?_cons_zero, List.getElem?_cons_succ, List.map_toArray, List.map_cons, List.map_nil, Option.map_some, Option.bind_some, Nat.zero_add, Nat.reduceAdd, e0, e1, e2, hB1.cell, hB2.cell, hB3.cell, hB8.cell]; rfl) ?_
        refine LD.qq rfl rfl (by simp only [ev_tmp, ev_const, ev_func, set_get, Nat.reduceEqDiff, reduceIte, qv_load, ld29, readN, List.getElem?_toArray, List.getElem?_cons_zero, List.getElem?_cons_succ, List.map_toArray, List.map_cons, List.map_nil, Option.map_some, Option.bind_some, Nat.zero_add, Nat.reduceAdd, e0, e1, e2, hB1.cell, hB2.cell, hB3.cell, hB8.cell]; rfl) ?_
        refine LD.ck rfl rfl Try.call19 (by intro hD hr; have hx : Ext _ _ := hr; have hw := hw.ext hx; have hh := hh.ext hx; have hB1 := hB1.ext hx; have hB2 := hB2.ext hx; have hB3 := hB3.ext hx; have hq := hq.ext hx; have hB8 := hB8.ext hx; simp only [ev_tmp, ev_const, ev_func, set_get, Nat.reduceEqDiff, reduceIte, List.getElem?_toArray, List.getElem?_cons_zero, List.getElem?_cons_succ, List.map_toArray, List.map_cons, List.map_nil, Option.map_some, Option.bind_some, e0, e1, e2, hB1.cell, hB2.cell, hB3.cell, hB8.cell]; exact c_to _ _ _) ?_
        refine LD.qq rfl rfl (by simp only [ev_tmp, ev_const, ev_func, set_get, Nat.reduceEqDiff, reduceIte, qv_load, ld27, readN, List.getElem?_toArray, List.getElem?_cons_zero, List.getElem?_cons_succ, List.map_toArray, List.map_cons, List.map_nil, Option.map_some, Option.bind_some, Nat.zero_add, Nat.reduceAdd, e0, e1, e2, hB1.cell, hB2.cell, hB3.cell, hB8.cell]; rfl) ?_
        refine LD.ck rfl rfl Try.call18 (by intro hD hr; have hx : Ext _ _ := hr; have hw := hw.ext hx; have hh := hh.ext hx; have hB1 := hB1.ext hx; have hB2 := hB2.ext hx; have hB3 := hB3.ext hx; have hq := hq.ext hx; have hB8 := hB8.ext hx; simp only [ev_tmp, ev_const, ev_func, set_get, Nat.reduceEqDiff, reduceIte, List.getElem?_toArray, List.getElem?_cons_zero, List.getElem?_cons_succ, List.map_toArray, List.map_cons, List.map_nil, Option.map_some, Option.bind_some, e0, e1, e2, hB1.cell, hB2.cell, hB3.cell, hB8.cell]; exact c_rphase s0 s1 s2 s3 s4 s5 d m wk hol _ _ _ _ hw hh lw lh) ?_
        refine LD.qq rfl rfl (by simp only [ev_tmp, ev_const, ev_func, set_get, Nat.reduceEqDiff, reduceIte, qv_binOp, binv_eql, eq3, Option.map_some, e0, e1, e2, hB1.cell, hB2.cell, hB3.cell, hB8.cell]; rfl) ?_
        refine LD.qq rfl rfl (by simp only [ev_tmp, ev_const, ev_func, set_get, Nat.reduceEqDiff, reduceIte, qv_assign, e0, e1, e2, hB1.cell, hB2.cell, hB3.cell, hB8.cell]; rfl) ?_
        refine LD.nil ?_
        rintro h11 hx11 hF10
        replace hx11 : Ext _ _ := hx11
        replace hw := hw.ext hx11
        replace hh := hh.ext hx11
        replace hB1 := hB1.ext hx11
        replace hB2 := hB2.ext hx11
        replace hB3 := hB3.ext hx11
        replace hq := hq.ext hx11
        replace hB8 := hB8.ext hx11
        refine WL.nil ?_
        refine th_norm ?_
        refine hx_ret ?_
        refine fin_ret [.tmp 6] rfl rfl (by simp only [ev_tmp, ev_const, ev_func, set_get, Nat.reduceEqDiff, reduceIte, resv, e0, e1, e2, hB1.cell, hB2.cell, hB3.cell, hB8.cell]; rfl) ?_  -- ret 2 r10
        exact ⟨by rw [if_pos hct47]; simp [retOf], ((hx1).trans ((hx2).trans ((hx3).trans ((hx4).trans ((hx5).trans ((hx7).trans ((hx8).trans ((hx9).trans ((hx10).trans (hx11))))))))))⟩
theorem fail_cases {s : List Int} {cs : List (Int × Int)} (h : failM s cs = 0) : chkGo (-1) s = 0 ∧ cs.all clockOk = true := by
  unfold failM at h
  by_cases hc : chkGo (-1) s = 0
  · rw [if_neg (fun hh => hh hc)] at h
    split at h
    · exact ⟨hc, by assumption⟩
    · cases h
  · rw [if_pos hc] at h; exact absurd h hc
theorem fail_begin (s : List Int) (hs : chkGo (-1) s = 0 → Val6 s) (a : Addr) {d m : Int} {i : Nat} (hi : i < 6) (h : failM s [(d, 0)] = 0) (hm : m = s.getD i 0) : failM s [(d, m)] = 0 := by
  obtain ⟨hc, hk⟩ := fail_cases h
  have hv := (hs hc).lo i hi
  have h2 : ([(d, m)] : List (Int × Int)).all clockOk = true := by
    simp only [List.all_cons, List.all_nil, Bool.and_true, clockOk, Bool.and_eq_true, decide_eq_true_eq] at hk ⊢
    exact ⟨hk.1, by omega, by omega⟩
  unfold failM
  rw [if_neg (fun hh => hh hc), if_pos h2]
theorem phN_begin {s : List Int} (hs : Val6 s) : ∀ (n i : Nat), i < 6 → n ≤ 6 → phN s (s.getD i 0) n = if n ≤ i then (n : Int) else (i : Int) + 1
  | 0, i, _, _ => by simp [phN]
  | n + 1, i, hi, hn => by
    simp only [phN]
    by_cases h : n ≤ i
    · have hle : s.getD n 0 ≤ s.getD i 0 := by
        rcases Nat.lt_or_eq_of_le h with h1 | h1
        · exact Int.le_of_lt (hs.inc n i h1 hi)
        · rw [h1]; exact Int.le_refl _
      rw [if_pos hle]
      by_cases h2 : n + 1 ≤ i
      · rw [if_pos h2]; omega
      · rw [if_neg h2]; omega
    · have hgt := hs.inc i n (by omega) (by omega)
      rw [if_neg (by omega), phN_begin hs n i hi (by omega), if_neg h, if_neg (by omega)]
theorem l_begin (s0 s1 s2 s3 s4 s5 d k : Int) (bd : ∀ x ∈ [d, k], (-9223372036854775808 ≤ x ∧ x ≤ 9223372036854775807)) (wk hol : List Int) (a a' : Option Addr) (c c' : Nat) {h : Heap} (hw : SlI h a wk) (hh : SlI h a' hol) (lw : wk.length ≤ 9223372036854775807) (lh : hol.length ≤ 9223372036854775807) :
    HCalls Try.prog 4 #[sch s0 s1 s2 s3 s4 s5, .agg #[.slice a wk.length c, .slice a' hol.length c'], .agg #[.int .i64 d, .int .i64 k]] h (Grow (.bool true) h) := by
  refine hcalls2 Try.func4 rfl (by decide +kernel) (by simp only [Try.ntmps4]; exact of_decide_eq_true rfl) ?_
  intro e hin
  have e0 := hin 0 _ rfl
  have e1 := hin 1 _ rfl
  have e2 := hin 2 _ rfl
  obtain ⟨no, hno⟩ : ∃ no, failM [s0, s1, s2, s3, s4, s5] [(d, 0)] = no := ⟨_, rfl⟩
  refine hx_seq ?_
  refine hx_region ?_
  refine WL.box2 (by simp only [ev_tmp, ev_const, ev_func, set_get, Nat.reduceEqDiff, reduceIte, Value.cells, e0, e1, e2]; rfl) ?_
  intro h1 B1 hx1 hlt1 hB1
  replace hw := hw.ext hx1
  replace hh := hh.ext hx1
  refine WL.box2 (by simp only [ev_tmp, ev_const, ev_func, set_get, Nat.reduceEqDiff, reduceIte, Value.cells, e0, e1, e2, hB1.cell]; rfl) ?_
  intro h2 B2 hx2 hlt2 hB2
  replace hw := hw.ext hx2
  replace hh := hh.ext hx2
  replace hB1 := hB1.ext hx2
  refine WL.box2 (by simp only [ev_tmp, ev_const, ev_func, set_get, Nat.reduceEqDiff, reduceIte, Value.cells, e0, e1, e2, hB1.cell, hB2.cell]; rfl) ?_
  intro h3 B3 hx3 hlt3 hB3
  replace hw := hw.ext hx3
  replace hh := hh.ext hx3
  replace hB1 := hB1.ext hx3
  replace hB2 := hB2.ext hx3
  refine WL.qq (by simp only [ev_tmp, ev_const, ev_func, set_get, Nat.reduceEqDiff, reduceIte, qv_assign, e0, e1, e2, hB1.cell, hB2.cell, hB3.cell]; rfl) ?_
  refine WL.nil ?_
  refine th_norm ?_
  refine hx_seq ?_
  refine hx_region ?_
  refine WL.qq (by simp only [ev_tmp, ev_const, ev_func, set_get, Nat.reduceEqDiff, reduceIte, qv_load, ld27, readN, List.getElem?_toArray, List.getElem?_cons_zero, List.getElem?_cons_succ, List.map_toArray, List.map_cons, List.map_nil, Option.map_some, Option.bind_some, Nat.zero_add, Nat.reduceAdd, e0, e1, e2, hB1.cell, hB2.cell, hB3.cell]; rfl) ?_
  refine WL.ce Try.call12 (by simp only [ev_tmp, ev_const, ev_func, set_get, Nat.reduceEqDiff, reduceIte, List.getElem?_toArray, List.getElem?_cons_zero, List.getElem?_cons_succ, List.map_toArray, List.map_cons, List.map_nil, Option.map_some, Option.bind_some, e0, e1, e2, hB1.cell, hB2.cell, hB3.cell]; exact c_made wk hol c c' hw hh lw) ?_
  rintro _ h4 ⟨hx4, q, b, rfl, hq⟩
  replace hw := hw.ext hx4
  replace hh := hh.ext hx4
  replace hB1 := hB1.ext hx4
  replace hB2 := hB2.ext hx4
  replace hB3 := hB3.ext hx4
  simp only [put_some]
  refine WL.qq (by simp only [ev_tmp, ev_const, ev_func, set_get, Nat.reduceEqDiff, reduceIte, qv_move, e0, e1, e2, hB1.cell, hB2.cell, hB3.cell]; rfl) ?_
  refine WL.qq (by simp only [ev_tmp, ev_const, ev_func, set_get, Nat.reduceEqDiff, reduceIte, qv_extract, List.getElem?_toArray, List.getElem?_cons_zero, List.getElem?_cons_succ, List.map_toArray, List.map_cons, List.map_nil, Option.map_some, Option.bind_some, e0, e1, e2, hB1.cell, hB2.cell, hB3.cell]; rfl) ?_
  refine WL.qq (by simp only [ev_tmp, ev_const, ev_func, set_get, Nat.reduceEqDiff, reduceIte, qv_extract, List.getElem?_toArray, List.getElem?_cons_zero, List.getElem?_cons_succ, List.map_toArray, List.map_cons, List.map_nil, Option.map_some, Option.bind_some, e0, e1, e2, hB1.cell, hB2.cell, hB3.cell]; rfl) ?_
  refine WL.qq (by simp only [ev_tmp, ev_const, ev_func, set_get, Nat.reduceEqDiff, reduceIte, qv_assign, e0, e1, e2, hB1.cell, hB2.cell, hB3.cell]; rfl) ?_
  refine WL.qq (by simp only [ev_tmp, ev_const, ev_func, set_get, Nat.reduceEqDiff, reduceIte, qv_assign, e0, e1, e2, hB1.cell, hB2.cell, hB3.cell]; rfl) ?_
  refine WL.nil ?_
  refine th_norm ?_
  refine hx_seq ?_
  refine hx_seq ?_
  refine hx_region ?_
  refine WL.cg Try.call13 (by simp only [ev_tmp, ev_const, ev_func, set_get, Nat.reduceEqDiff, reduceIte, List.getElem?_toArray, List.getElem?_cons_zero, List.getElem?_cons_succ, List.map_toArray, List.map_cons, List.map_nil, Option.map_some, Option.bind_some, e0, e1, e2, hB1.cell, hB2.cell, hB3.cell]; exact c_known47 _) ?_
  intro h5 hx5
  replace hw := hw.ext hx5
  replace hh := hh.ext hx5
  replace hB1 := hB1.ext hx5
  replace hB2 := hB2.ext hx5
  replace hB3 := hB3.ext hx5
  replace hq := hq.ext hx5
  refine WL.qq (by simp only [ev_tmp, ev_const, ev_func, set_get, Nat.reduceEqDiff, reduceIte, qv_unOp, unv_not, e0, e1, e2, hB1.cell, hB2.cell, hB3.cell]; rfl) ?_
  refine WL.qq (by simp only [ev_tmp, ev_const, ev_func, set_get, Nat.reduceEqDiff, reduceIte, qv_move, e0, e1, e2, hB1.cell, hB2.cell, hB3.cell]; rfl) ?_
  refine WL.cq (gd_at (t := 23) rfl (by simp only [ev_tmp, ev_const, ev_func, set_get, Nat.reduceEqDiff, reduceIte, e0, e1, e2, hB1.cell, hB2.cell, hB3.cell]; rfl)) (fun hg2_3 => by simp only [ev_tmp, ev_const, ev_func, set_get, Nat.reduceEqDiff, reduceIte, qv_move, e0, e1, e2, hB1.cell, hB2.cell, hB3.cell, hg2_3, Bool.false_eq_true, Bool.true_eq_false, eq_self, if_true, if_false, true_and, and_true, false_and, and_false]; rfl) ?_
  refine WL.cq (gd_at (t := 23) rfl (by simp only [ev_tmp, ev_const, ev_func, set_get, Nat.reduceEqDiff, reduceIte, e0, e1, e2, hB1.cell, hB2.cell, hB3.cell]; rfl)) (fun hg2_4 => by simp only [ev_tmp, ev_const, ev_func, set_get, Nat.reduceEqDiff, reduceIte, qv_unOp, unv_not, e0, e1, e2, hB1.cell, hB2.cell, hB3.cell, hg2_4, Bool.false_eq_true, Bool.true_eq_false, eq_self, if_true, if_false, true_and, and_true, false_and, and_false]; rfl) ?_
  refine WL.qq (by simp only [ev_tmp, ev_const, ev_func, set_get, Nat.reduceEqDiff, reduceIte, qv_pick, pk_and, pk_or, Bool.false_eq_true, Bool.true_eq_false, eq_self, if_true, if_false, true_and, and_true, false_and, and_false, e0, e1, e2, hB1.cell, hB2.cell, hB3.cell]; rfl) ?_
  refine WL.nil ?_
  refine th_norm ?_
  refine hx_cond (by simp only [ev_tmp, ev_const, ev_func, set_get, Nat.reduceEqDiff, reduceIte, e0, e1, e2, hB1.cell, hB2.cell, hB3.cell]; rfl) (fun hct26 => ?_) (fun hct26 => ?_)
  ·
    try simp only [decide_eq_true_eq, decide_eq_false_iff_not, Bool.and_eq_true, Bool.and_eq_false_iff, Bool.or_eq_true, Bool.or_eq_false_iff, Bool.not_eq_true', Bool.not_eq_false', Bool.not_eq_true, Bool.not_eq_false] at hct26
    refine hx_seq ?_
    refine hx_region ?_
    refine WL.cg Try.call13 (by simp only [ev_tmp, ev_const, ev_func, set_get, Nat.reduceEqDiff, reduceIte, List.getElem?_toArray, List.getElem?_cons_zero, List.getElem?_cons_succ, List.map_toArray, List.map_cons, List.map_nil, Option.map_some, Option.bind_some, e0, e1, e2, hB1.cell, hB2.cell, hB3.cell]; exact c_known47 _) ?_
    intro h6 hx6
    replace hw := hw.ext hx6
    replace hh := hh.ext hx6
    replace hB1 := hB1.ext hx6
    replace hB2 := hB2.ext hx6
    replace hB3 := hB3.ext hx6
    replace hq := hq.ext hx6
    refine WL.qq (by simp only [ev_tmp, ev_const, ev_func, set_get, Nat.reduceEqDiff, reduceIte, qv_assign, e0, e1, e2, hB1.cell, hB2.cell, hB3.cell]; rfl) ?_
    refine WL.nil ?_
    refine th_norm ?_
    refine hx_ret ?_
    refine th_ret ?_
    refine fin_ret [.tmp 6] rfl rfl (by simp only [ev_tmp, ev_const, ev_func, set_get, Nat.reduceEqDiff, reduceIte, resv, e0, e1, e2, hB1.cell, hB2.cell, hB3.cell]; rfl) ?_  -- ret 0 r3
    exact ⟨rfl, ((hx1).trans ((hx2).trans ((hx3).trans ((hx4).trans ((hx5).trans (hx6))))))⟩
  ·
    try simp only [decide_eq_true_eq, decide_eq_false_iff_not, Bool.and_eq_true, Bool.and_eq_false_iff, Bool.or_eq_true, Bool.or_eq_false_iff, Bool.not_eq_true', Bool.not_eq_false', Bool.not_eq_true, Bool.not_eq_false] at hct26
    have hb : b = true := by simpa using hct26
    obtain ⟨p, rfl, hc⟩ := hq hb
    obtain ⟨bt, be, hbe⟩ : ∃ bt be, begM [s0, s1, s2, s3, s4, s5] (some ⟨p, 0, none⟩) (busM wk (srt hol)) d k = (bt, be) := ⟨_, _, rfl⟩
    obtain ⟨w1, hw1⟩ : ∃ w : Int, w = if no = 0 ∧ (k < 1 ∨ 6 < k) then 11 else no := ⟨_, rfl⟩
    obtain ⟨w2, hw2⟩ : ∃ w : Int, w = if w1 = 0 ∧ busM wk hol d = false then 28 else w1 := ⟨_, rfl⟩
    have h12 : (w2 ≠ 0 → bt = (0, 0) ∧ be = w2) ∧ (w2 = 0 → bt = (d, [s0, s1, s2, s3, s4, s5].getD (k - 1).toNat 0) ∧ be = 0 ∧ 1 ≤ k ∧ k ≤ 6 ∧ busM wk hol d = true ∧ no = 0) := by
      have hbe2 := hbe
      simp only [begM, ← fail_val, hno, busM_srt] at hbe2
      by_cases hz : no = 0
      · rw [if_neg (fun hh => hh hz)] at hbe2
        by_cases hk : k < 1 ∨ 6 < k
        · rw [if_pos ⟨hz, hk⟩] at hw1; subst hw1; rw [if_neg (by omega)] at hw2; subst hw2; rw [if_pos hk] at hbe2; cases hbe2; exact ⟨fun _ => ⟨rfl, rfl⟩, fun hh => by cases hh⟩
        · rw [if_neg (fun hh => hk hh.2)] at hw1; subst hw1; rw [if_neg hk] at hbe2
          by_cases hbu : busM wk hol d = true
          · rw [if_neg (fun hh => by rw [hbu] at hh; cases hh.2)] at hw2; subst hw2; rw [if_pos hbu] at hbe2; cases hbe2; exact ⟨fun hh => absurd hz hh, fun _ => ⟨rfl, rfl, by omega, by omega, hbu, hz⟩⟩
          · rw [if_pos ⟨hz, by simpa using hbu⟩] at hw2; subst hw2; rw [if_neg hbu] at hbe2; cases hbe2; exact ⟨fun _ => ⟨rfl, rfl⟩, fun hh => by cases hh⟩
      · rw [if_pos hz] at hbe2; cases hbe2; rw [if_neg (fun hh => hz hh.1)] at hw1; subst hw1; rw [if_neg (fun hh => hz hh.1)] at hw2; subst hw2; exact ⟨fun _ => ⟨rfl, rfl⟩, fun hh => absurd hh hz⟩
    refine hx_skip ?_
    refine th_norm ?_
    refine hx_seq ?_
    apply hx_draw2 Rel.same [] [] [] rfl (by decide +kernel) rfl
    refine LD.qq rfl rfl (by simp only [ev_tmp, ev_const, ev_func, set_get, Nat.reduceEqDiff, reduceIte, qv_indexAddr, e0, e1, e2, hB1.cell, hB2.cell, hB3.cell]; (try simp (disch := omega) only [ix44, Int.toNat_natCast]); rfl) ?_
    refine LD.qq rfl rfl (by simp only [ev_tmp, ev_const, ev_func, set_get, Nat.reduceEqDiff, reduceIte, qv_load, ld3, readN, List.getElem?_toArray, List.getElem?_cons_zero, List.getElem?_cons_succ, List.map_toArray, List.map_cons, List.map_nil, Option.map_some, Option.bind_some, Nat.zero_add, Nat.reduceAdd, e0, e1, e2, hB1.cell, hB2.cell, hB3.cell]; rfl) ?_
    refine LD.qq rfl rfl (by simp only [ev_tmp, ev_const, ev_func, set_get, Nat.reduceEqDiff, reduceIte, qv_indexAddr, e0, e1, e2, hB1.cell, hB2.cell, hB3.cell]; (try simp (disch := omega) only [ix44, Int.toNat_natCast]); rfl) ?_
    refine LD.qq rfl rfl (by simp only [ev_tmp, ev_const, ev_func, set_get, Nat.reduceEqDiff, reduceIte, qv_load, ld3, readN, List.getElem?_toArray, List.getElem?_cons_zero, List.getElem?_cons_succ, List.map_toArray, List.map_cons, List.map_nil, Option.map_some, Option.bind_some, Nat.zero_add, Nat.reduceAdd, e0, e1, e2, hB1.cell, hB2.cell, hB3.cell]; rfl) ?_
    refine LD.qq rfl rfl (by simp only [ev_tmp, ev_const, ev_func, set_get, Nat.reduceEqDiff, reduceIte, qv_assign, e0, e1, e2, hB1.cell, hB2.cell, hB3.cell]; rfl) ?_
    refine LD.qq rfl rfl (by simp only [ev_tmp, ev_const, ev_func, set_get, Nat.reduceEqDiff, reduceIte, qv_assign, e0, e1, e2, hB1.cell, hB2.cell, hB3.cell]; rfl) ?_
    refine LD.nil ?_
    rintro _ rfl -
    refine WL.nil ?_
    refine th_norm ?_
    refine hx_seq ?_
    refine hx_region ?_
    refine WL.qq (by simp only [ev_tmp, ev_const, ev_func, set_get, Nat.reduceEqDiff, reduceIte, qv_load, ld24, readN, List.getElem?_toArray, List.getElem?_cons_zero, List.getElem?_cons_succ, List.map_toArray, List.map_cons, List.map_nil, Option.map_some, Option.bind_some, Nat.zero_add, Nat.reduceAdd, e0, e1, e2, hB1.cell, hB2.cell, hB3.cell]; rfl) ?_
    refine WL.qq (by simp only [ev_tmp, ev_const, ev_func, set_get, Nat.reduceEqDiff, reduceIte, qv_move, e0, e1, e2, hB1.cell, hB2.cell, hB3.cell]; rfl) ?_
    refine WL.qq (by simp only [ev_tmp, ev_const, ev_func, set_get, Nat.reduceEqDiff, reduceIte, qv_move, e0, e1, e2, hB1.cell, hB2.cell, hB3.cell]; rfl) ?_
    refine WL.qq (by simp only [ev_tmp, ev_const, ev_func, set_get, Nat.reduceEqDiff, reduceIte, qv_move, e0, e1, e2, hB1.cell, hB2.cell, hB3.cell]; rfl) ?_
    refine WL.cg Try.call20 (by simp only [ev_tmp, ev_const, ev_func, set_get, Nat.reduceEqDiff, reduceIte, List.getElem?_toArray, List.getElem?_cons_zero, List.getElem?_cons_succ, List.map_toArray, List.map_cons, List.map_nil, Option.map_some, Option.bind_some, e0, e1, e2, hB1.cell, hB2.cell, hB3.cell]; exact c_begin s0 s1 s2 s3 s4 s5 d k _ wk (srt hol) hbe (QCal.some hc)) ?_
    intro h7 hx7
    replace hw := hw.ext hx7
    replace hh := hh.ext hx7
    replace hB1 := hB1.ext hx7
    replace hB2 := hB2.ext hx7
    replace hB3 := hB3.ext hx7
    replace hq := hq.ext hx7
    refine WL.qq (by simp only [ev_tmp, ev_const, ev_func, set_get, Nat.reduceEqDiff, reduceIte, qv_move, e0, e1, e2, hB1.cell, hB2.cell, hB3.cell]; rfl) ?_
    refine WL.qq (by simp only [ev_tmp, ev_const, ev_func, set_get, Nat.reduceEqDiff, reduceIte, qv_extract, List.getElem?_toArray, List.getElem?_cons_zero, List.getElem?_cons_succ, List.map_toArray, List.map_cons, List.map_nil, Option.map_some, Option.bind_some, e0, e1, e2, hB1.cell, hB2.cell, hB3.cell]; rfl) ?_
    refine WL.qq (by simp only [ev_tmp, ev_const, ev_func, set_get, Nat.reduceEqDiff, reduceIte, qv_extract, List.getElem?_toArray, List.getElem?_cons_zero, List.getElem?_cons_succ, List.map_toArray, List.map_cons, List.map_nil, Option.map_some, Option.bind_some, e0, e1, e2, hB1.cell, hB2.cell, hB3.cell]; rfl) ?_
    refine WL.allocSt zr29 sz29 (fun u => by simp only [ev_tmp, ev_const, ev_func, set_get, Nat.reduceEqDiff, reduceIte, Value.cells, e0, e1, e2, hB1.cell, hB2.cell, hB3.cell]; rfl) ⟨rfl, rfl⟩ (by simp [Value.oneCell']) ?_
    intro h8 B8 hx8 hlt8 hB8
    replace hw := hw.ext hx8
    replace hh := hh.ext hx8
    replace hB1 := hB1.ext hx8
    replace hB2 := hB2.ext hx8
    replace hB3 := hB3.ext hx8
    replace hq := hq.ext hx8
    refine WL.qq (by simp only [ev_tmp, ev_const, ev_func, set_get, Nat.reduceEqDiff, reduceIte, qv_assign, e0, e1, e2, hB1.cell, hB2.cell, hB3.cell, hB8.cell]; rfl) ?_
    refine WL.nil ?_
    refine th_norm ?_
    refine hx_seq ?_
    refine hx_region ?_
    refine WL.qq (by simp only [ev_tmp, ev_const, ev_func, set_get, Nat.reduceEqDiff, reduceIte, qv_load, ld24, readN, List.getElem?_toArray, List.getElem?_cons_zero, List.getElem?_cons_succ, List.map_toArray, List.map_cons, List.map_nil, Option.map_some, Option.bind_some, Nat.zero_add, Nat.reduceAdd, e0, e1, e2, hB1.cell, hB2.cell, hB3.cell, hB8.cell]; rfl) ?_
    refine WL.qq (by simp only [ev_tmp, ev_const, ev_func, set_get, Nat.reduceEqDiff, reduceIte, qv_move, e0, e1, e2, hB1.cell, hB2.cell, hB3.cell, hB8.cell]; rfl) ?_
    refine WL.qq (by refine qv_bld (by simp only [ev_tmp, ev_const, ev_func, set_get, Nat.reduceEqDiff, reduceIte, List.getElem?_toArray, List.getElem?_cons_zero, List.getElem?_cons_succ, List.map_toArray, List.map_cons, List.map_nil, Option.map_some, Option.bind_some, e0, e1, e2, hB1.cell, hB2.cell, hB3.cell, hB8.cell] <;> rfl) (by rw [bl29]; simp [Instr.fill, Value.cells]; rfl)) ?_
    refine WL.lit2 #[(.int .i64 0), (.int .i64 0)] Try.underlying84 sz29 zr29 (by decide) (by kernel_rfl) ⟨_, (by simp only [ev_tmp, ev_const, ev_func, set_get, Nat.reduceEqDiff, reduceIte, List.getElem?_toArray, List.getElem?_cons_zero, List.getElem?_cons_succ, List.map_toArray, List.map_cons, List.map_nil, Option.map_some, Option.bind_some, e0, e1, e2, hB1.cell, hB2.cell, hB3.cell, hB8.cell]; simp [Instr.fill, Value.cells]; rfl), rfl⟩ ?_
    intro h9 B9 hx9 hlt9 hB9
    replace hw := hw.ext hx9
    replace hh := hh.ext hx9
    replace hB1 := hB1.ext hx9
    replace hB2 := hB2.ext hx9
    replace hB3 := hB3.ext hx9
    replace hq := hq.ext hx9
    replace hB8 := hB8.ext hx9
    refine WL.cg Try.call15 (by simp only [ev_tmp, ev_const, ev_func, set_get, Nat.reduceEqDiff, reduceIte, List.getElem?_toArray, List.getElem?_cons_zero, List.getElem?_cons_succ, List.map_toArray, List.map_cons, List.map_nil, Option.map_some, Option.bind_some, e0, e1, e2, hB1.cell, hB2.cell, hB3.cell, hB8.cell, hB9.cell]; exact HCalls.gv (by rw [hno]) (c_fails s0 s1 s2 s3 s4 s5 _ [(d, 0)] 1 (by simp) (SlC.one hB9))) ?_
    intro h10 hx10
    replace hw := hw.ext hx10
    replace hh := hh.ext hx10
    replace hB1 := hB1.ext hx10
    replace hB2 := hB2.ext hx10
    replace hB3 := hB3.ext hx10
    replace hq := hq.ext hx10
    replace hB8 := hB8.ext hx10
    replace hB9 := hB9.ext hx10
    refine WL.qq (by simp only [ev_tmp, ev_const, ev_func, set_get, Nat.reduceEqDiff, reduceIte, qv_assign, e0, e1, e2, hB1.cell, hB2.cell, hB3.cell, hB8.cell, hB9.cell]; rfl) ?_
    refine WL.nil ?_
    refine th_norm ?_
    refine hx_cutS [13, 45, 46, 47, 48, 49, 50, 51, 52, 53, 54] (fun e => e 13 = .int .i64 w1) ?_ ?_
    ·
      refine hx_seq ?_
      refine hx_region ?_
      refine WL.qq (by simp only [ev_tmp, ev_const, ev_func, set_get, Nat.reduceEqDiff, reduceIte, qv_move, e0, e1, e2, hB1.cell, hB2.cell, hB3.cell, hB8.cell, hB9.cell]; rfl) ?_
      refine WL.qq (by simp only [ev_tmp, ev_const, ev_func, set_get, Nat.reduceEqDiff, reduceIte, qv_binOp, binv_eql, eq34, Option.map_some, e0, e1, e2, hB1.cell, hB2.cell, hB3.cell, hB8.cell, hB9.cell]; rfl) ?_
      refine WL.qq (by simp only [ev_tmp, ev_const, ev_func, set_get, Nat.reduceEqDiff, reduceIte, qv_move, e0, e1, e2, hB1.cell, hB2.cell, hB3.cell, hB8.cell, hB9.cell]; rfl) ?_
      refine WL.cq (gd_at (t := 47) rfl (by simp only [ev_tmp, ev_const, ev_func, set_get, Nat.reduceEqDiff, reduceIte, e0, e1, e2, hB1.cell, hB2.cell, hB3.cell, hB8.cell, hB9.cell]; rfl)) (fun hg7_3 => by simp only [ev_tmp, ev_const, ev_func, set_get, Nat.reduceEqDiff, reduceIte, qv_move, e0, e1, e2, hB1.cell, hB2.cell, hB3.cell, hB8.cell, hB9.cell, hg7_3, Bool.false_eq_true, Bool.true_eq_false, eq_self, if_true, if_false, true_and, and_true, false_and, and_false]; rfl) ?_
      refine WL.cq (gd_at (t := 47) rfl (by simp only [ev_tmp, ev_const, ev_func, set_get, Nat.reduceEqDiff, reduceIte, e0, e1, e2, hB1.cell, hB2.cell, hB3.cell, hB8.cell, hB9.cell]; rfl)) (fun hg7_4 => by simp only [ev_tmp, ev_const, ev_func, set_get, Nat.reduceEqDiff, reduceIte, qv_binOp, binv_lss, e0, e1, e2, hB1.cell, hB2.cell, hB3.cell, hB8.cell, hB9.cell, hg7_4, Bool.false_eq_true, Bool.true_eq_false, eq_self, if_true, if_false, true_and, and_true, false_and, and_false]; rfl) ?_
      refine WL.cq (gd_at (t := 47) rfl (by simp only [ev_tmp, ev_const, ev_func, set_get, Nat.reduceEqDiff, reduceIte, e0, e1, e2, hB1.cell, hB2.cell, hB3.cell, hB8.cell, hB9.cell]; rfl)) (fun hg7_5 => by simp only [ev_tmp, ev_const, ev_func, set_get, Nat.reduceEqDiff, reduceIte, qv_move, e0, e1, e2, hB1.cell, hB2.cell, hB3.cell, hB8.cell, hB9.cell, hg7_5, Bool.false_eq_true, Bool.true_eq_false, eq_self, if_true, if_false, true_and, and_true, false_and, and_false]; rfl) ?_
      refine WL.cq2 (t := 50) rfl (by simp only [ev_tmp, ev_const, ev_func, set_get, Nat.reduceEqDiff, reduceIte, e0, e1, e2, hB1.cell, hB2.cell, hB3.cell, hB8.cell, hB9.cell]; rfl) (fun hC7_6 hg7_6 => by simp only [ev_tmp, ev_const, ev_func, set_get, Nat.reduceEqDiff, reduceIte, qv_move, e0, e1, e2, hB1.cell, hB2.cell, hB3.cell, hB8.cell, hB9.cell, hC7_6, hg7_6, Bool.false_eq_true, Bool.true_eq_false, eq_self, if_true, if_false, true_and, and_true, false_and, and_false]; rfl) ?_
      refine WL.cq2 (t := 50) rfl (by simp only [ev_tmp, ev_const, ev_func, set_get, Nat.reduceEqDiff, reduceIte, e0, e1, e2, hB1.cell, hB2.cell, hB3.cell, hB8.cell, hB9.cell]; rfl) (fun hC7_7 hg7_7 => by simp only [ev_tmp, ev_const, ev_func, set_get, Nat.reduceEqDiff, reduceIte, qv_binOp, binv_gtr, e0, e1, e2, hB1.cell, hB2.cell, hB3.cell, hB8.cell, hB9.cell, hC7_7, hg7_7, Bool.false_eq_true, Bool.true_eq_false, eq_self, if_true, if_false, true_and, and_true, false_and, and_false]; rfl) ?_
      refine WL.cq (gd_at (t := 47) rfl (by simp only [ev_tmp, ev_const, ev_func, set_get, Nat.reduceEqDiff, reduceIte, e0, e1, e2, hB1.cell, hB2.cell, hB3.cell, hB8.cell, hB9.cell]; rfl)) (fun hg7_8 => by simp only [ev_tmp, ev_const, ev_func, set_get, Nat.reduceEqDiff, reduceIte, qv_pick, pk_and, pk_or, Bool.false_eq_true, Bool.true_eq_false, eq_self, if_true, if_false, true_and, and_true, false_and, and_false, e0, e1, e2, hB1.cell, hB2.cell, hB3.cell, hB8.cell, hB9.cell, hg7_8, Bool.false_eq_true, Bool.true_eq_false, eq_self, if_true, if_false, true_and, and_true, false_and, and_false]; rfl) ?_
      refine WL.qq (by simp only [ev_tmp, ev_const, ev_func, set_get, Nat.reduceEqDiff, reduceIte, qv_pick, pk_and, pk_or, Bool.false_eq_true, Bool.true_eq_false, eq_self, if_true, if_false, true_and, and_true, false_and, and_false, e0, e1, e2, hB1.cell, hB2.cell, hB3.cell, hB8.cell, hB9.cell]; rfl) ?_
      refine WL.nil ?_
      refine th_norm ?_
      refine hx_cond (by simp only [ev_tmp, ev_const, ev_func, set_get, Nat.reduceEqDiff, reduceIte, e0, e1, e2, hB1.cell, hB2.cell, hB3.cell, hB8.cell, hB9.cell]; rfl) (fun hct54 => ?_) (fun hct54 => ?_)
      ·
        try simp only [decide_eq_true_eq, decide_eq_false_iff_not, Bool.and_eq_true, Bool.and_eq_false_iff, Bool.or_eq_true, Bool.or_eq_false_iff, Bool.not_eq_true', Bool.not_eq_false', Bool.not_eq_true, Bool.not_eq_false] at hct54
        refine hx_region ?_
        refine WL.qq (by simp only [ev_tmp, ev_const, ev_func, set_get, Nat.reduceEqDiff, reduceIte, qv_assign, e0, e1, e2, hB1.cell, hB2.cell, hB3.cell, hB8.cell, hB9.cell]; rfl) ?_
        refine WL.nil ?_
        refine th_norm ?_
        refine ⟨rfl, rfl, ?_, ?_⟩  -- meet 0 of cut 7
        · (repeat (first | exact Fr.refl _ _ | refine Fr.set rfl ?_ | refine Fr.put rfl ?_ | refine Fr.put0 ?_ | refine Fr.trans ?_ (Fr.of hfc7 rfl)))
        · simp only [ev_tmp, ev_const, ev_func, set_get, Nat.reduceEqDiff, reduceIte, e0, e1, e2, hB1.cell, hB2.cell, hB3.cell, hB8.cell, hB9.cell] <;> first | (rw [hw1, if_pos hct54]) | (rw [hw1, if_neg (by omega)])
      ·
        try simp only [decide_eq_true_eq, decide_eq_false_iff_not, Bool.and_eq_true, Bool.and_eq_false_iff, Bool.or_eq_true, Bool.or_eq_false_iff, Bool.not_eq_true', Bool.not_eq_false', Bool.not_eq_true, Bool.not_eq_false] at hct54
        refine hx_skip ?_
        refine th_norm ?_
        refine ⟨rfl, rfl, ?_, ?_⟩  -- meet 1 of cut 7
        · (repeat (first | exact Fr.refl _ _ | refine Fr.set rfl ?_ | refine Fr.put rfl ?_ | refine Fr.put0 ?_ | refine Fr.trans ?_ (Fr.of hfc7 rfl)))
        · simp only [ev_tmp, ev_const, ev_func, set_get, Nat.reduceEqDiff, reduceIte, e0, e1, e2, hB1.cell, hB2.cell, hB3.cell, hB8.cell, hB9.cell] <;> first | (rw [hw1, if_pos hct54]) | (rw [hw1, if_neg (by omega)])
    ·
      rintro ec7 hfc7 i13_c7
      have k3_c7 := hfc7 3 rfl; simp only [ev_tmp, ev_const, ev_func, set_get, Nat.reduceEqDiff, reduceIte, e0, e1, e2, hB1.cell, hB2.cell, hB3.cell, hB8.cell, hB9.cell] at k3_c7
      have k4_c7 := hfc7 4 rfl; simp only [ev_tmp, ev_const, ev_func, set_get, Nat.reduceEqDiff, reduceIte, e0, e1, e2, hB1.cell, hB2.cell, hB3.cell, hB8.cell, hB9.cell] at k4_c7
      have k6_c7 := hfc7 6 rfl; simp only [ev_tmp, ev_const, ev_func, set_get, Nat.reduceEqDiff, reduceIte, e0, e1, e2, hB1.cell, hB2.cell, hB3.cell, hB8.cell, hB9.cell] at k6_c7
      have k7_c7 := hfc7 7 rfl; simp only [ev_tmp, ev_const, ev_func, set_get, Nat.reduceEqDiff, reduceIte, e0, e1, e2, hB1.cell, hB2.cell, hB3.cell, hB8.cell, hB9.cell] at k7_c7
      have k9_c7 := hfc7 9 rfl; simp only [ev_tmp, ev_const, ev_func, set_get, Nat.reduceEqDiff, reduceIte, e0, e1, e2, hB1.cell, hB2.cell, hB3.cell, hB8.cell, hB9.cell] at k9_c7
      have k10_c7 := hfc7 10 rfl; simp only [ev_tmp, ev_const, ev_func, set_get, Nat.reduceEqDiff, reduceIte, e0, e1, e2, hB1.cell, hB2.cell, hB3.cell, hB8.cell, hB9.cell] at k10_c7
      have k11_c7 := hfc7 11 rfl; simp only [ev_tmp, ev_const, ev_func, set_get, Nat.reduceEqDiff, reduceIte, e0, e1, e2, hB1.cell, hB2.cell, hB3.cell, hB8.cell, hB9.cell] at k11_c7
      have k12_c7 := hfc7 12 rfl; simp only [ev_tmp, ev_const, ev_func, set_get, Nat.reduceEqDiff, reduceIte, e0, e1, e2, hB1.cell, hB2.cell, hB3.cell, hB8.cell, hB9.cell] at k12_c7
      refine hx_cutX [13, 55, 56, 57, 58, 59, 60, 61, 62] (fun e => e 13 = .int .i64 w2) ?_ ?_
      ·
        refine hx_seq ?_
        refine hx_region ?_
        refine WL.qq (by simp only [ev_tmp, ev_const, ev_func, set_get, Nat.reduceEqDiff, reduceIte, qv_move, k3_c7, k4_c7, k6_c7, k7_c7, k9_c7, k10_c7, k11_c7, k12_c7, i13_c7, hB1.cell, hB2.cell, hB3.cell, hB8.cell, hB9.cell]; rfl) ?_
        refine WL.qq (by simp only [ev_tmp, ev_const, ev_func, set_get, Nat.reduceEqDiff, reduceIte, qv_binOp, binv_eql, eq34, Option.map_some, k3_c7, k4_c7, k6_c7, k7_c7, k9_c7, k10_c7, k11_c7, k12_c7, i13_c7, hB1.cell, hB2.cell, hB3.cell, hB8.cell, hB9.cell]; rfl) ?_
        refine WL.qq (by simp only [ev_tmp, ev_const, ev_func, set_get, Nat.reduceEqDiff, reduceIte, qv_move, k3_c7, k4_c7, k6_c7, k7_c7, k9_c7, k10_c7, k11_c7, k12_c7, i13_c7, hB1.cell, hB2.cell, hB3.cell, hB8.cell, hB9.cell]; rfl) ?_
        refine WL.cq (gd_at (t := 57) rfl (by simp only [ev_tmp, ev_const, ev_func, set_get, Nat.reduceEqDiff, reduceIte, k3_c7, k4_c7, k6_c7, k7_c7, k9_c7, k10_c7, k11_c7, k12_c7, i13_c7, hB1.cell, hB2.cell, hB3.cell, hB8.cell, hB9.cell]; rfl)) (fun hg9_3 => by simp only [ev_tmp, ev_const, ev_func, set_get, Nat.reduceEqDiff, reduceIte, qv_load, ld27, readN, List.getElem?_toArray, List.getElem?_cons_zero, List.getElem?_cons_succ, List.map_toArray, List.map_cons, List.map_nil, Option.map_some, Option.bind_some, Nat.zero_add, Nat.reduceAdd, k3_c7, k4_c7, k6_c7, k7_c7, k9_c7, k10_c7, k11_c7, k12_c7, i13_c7, hB1.cell, hB2.cell, hB3.cell, hB8.cell, hB9.cell, hg9_3, Bool.false_eq_true, Bool.true_eq_false, eq_self, if_true, if_false, true_and, and_true, false_and, and_false]; rfl) ?_
        refine WL.cq (gd_at (t := 57) rfl (by simp only [ev_tmp, ev_const, ev_func, set_get, Nat.reduceEqDiff, reduceIte, k3_c7, k4_c7, k6_c7, k7_c7, k9_c7, k10_c7, k11_c7, k12_c7, i13_c7, hB1.cell, hB2.cell, hB3.cell, hB8.cell, hB9.cell]; rfl)) (fun hg9_4 => by simp only [ev_tmp, ev_const, ev_func, set_get, Nat.reduceEqDiff, reduceIte, qv_move, k3_c7, k4_c7, k6_c7, k7_c7, k9_c7, k10_c7, k11_c7, k12_c7, i13_c7, hB1.cell, hB2.cell, hB3.cell, hB8.cell, hB9.cell, hg9_4, Bool.false_eq_true, Bool.true_eq_false, eq_self, if_true, if_false, true_and, and_true, false_and, and_false]; rfl) ?_
        refine WL.ccg (gd_at (t := 57) rfl (by simp only [ev_tmp, ev_const, ev_func, set_get, Nat.reduceEqDiff, reduceIte, k3_c7, k4_c7, k6_c7, k7_c7, k9_c7, k10_c7, k11_c7, k12_c7, i13_c7, hB1.cell, hB2.cell, hB3.cell, hB8.cell, hB9.cell]; rfl)) Try.call21 (fun hg9_5 => by simp only [ev_tmp, ev_const, ev_func, set_get, Nat.reduceEqDiff, reduceIte, List.getElem?_toArray, List.getElem?_cons_zero, List.getElem?_cons_succ, List.map_toArray, List.map_cons, List.map_nil, Option.map_some, Option.bind_some, k3_c7, k4_c7, k6_c7, k7_c7, k9_c7, k10_c7, k11_c7, k12_c7, i13_c7, hB1.cell, hB2.cell, hB3.cell, hB8.cell, hB9.cell, hg9_5, Bool.false_eq_true, Bool.true_eq_false, eq_self, if_true, if_false, true_and, and_true, false_and, and_false]; exact c_ris wk hol _ _ _ _ d hw hh lw lh) ?_
        intro h11 hx11
        replace hw := hw.ext hx11
        replace hh := hh.ext hx11
        replace hB1 := hB1.ext hx11
        replace hB2 := hB2.ext hx11
        replace hB3 := hB3.ext hx11
        replace hq := hq.ext hx11
        replace hB8 := hB8.ext hx11
        replace hB9 := hB9.ext hx11
        refine WL.cq (gd_at (t := 57) rfl (by simp only [ev_tmp, ev_const, ev_func, set_get, Nat.reduceEqDiff, reduceIte, k3_c7, k4_c7, k6_c7, k7_c7, k9_c7, k10_c7, k11_c7, k12_c7, i13_c7, hB1.cell, hB2.cell, hB3.cell, hB8.cell, hB9.cell]; rfl)) (fun hg9_6 => by simp only [ev_tmp, ev_const, ev_func, set_get, Nat.reduceEqDiff, reduceIte, qv_unOp, unv_not, k3_c7, k4_c7, k6_c7, k7_c7, k9_c7, k10_c7, k11_c7, k12_c7, i13_c7, hB1.cell, hB2.cell, hB3.cell, hB8.cell, hB9.cell, hg9_6, Bool.false_eq_true, Bool.true_eq_false, eq_self, if_true, if_false, true_and, and_true, false_and, and_false]; rfl) ?_
        refine WL.qq (by simp only [ev_tmp, ev_const, ev_func, set_get, Nat.reduceEqDiff, reduceIte, qv_pick, pk_and, pk_or, Bool.false_eq_true, Bool.true_eq_false, eq_self, if_true, if_false, true_and, and_true, false_and, and_false, k3_c7, k4_c7, k6_c7, k7_c7, k9_c7, k10_c7, k11_c7, k12_c7, i13_c7, hB1.cell, hB2.cell, hB3.cell, hB8.cell, hB9.cell]; rfl) ?_
        refine WL.nil ?_
        refine th_norm ?_
        refine hx_cond (by simp only [ev_tmp, ev_const, ev_func, set_get, Nat.reduceEqDiff, reduceIte, k3_c7, k4_c7, k6_c7, k7_c7, k9_c7, k10_c7, k11_c7, k12_c7, i13_c7, hB1.cell, hB2.cell, hB3.cell, hB8.cell, hB9.cell]; rfl) (fun hct62 => ?_) (fun hct62 => ?_)
        ·
          try simp only [decide_eq_true_eq, decide_eq_false_iff_not, Bool.and_eq_true, Bool.and_eq_false_iff, Bool.or_eq_true, Bool.or_eq_false_iff, Bool.not_eq_true', Bool.not_eq_false', Bool.not_eq_true, Bool.not_eq_false] at hct62
          refine hx_region ?_
          refine WL.qq (by simp only [ev_tmp, ev_const, ev_func, set_get, Nat.reduceEqDiff, reduceIte, qv_assign, k3_c7, k4_c7, k6_c7, k7_c7, k9_c7, k10_c7, k11_c7, k12_c7, i13_c7, hB1.cell, hB2.cell, hB3.cell, hB8.cell, hB9.cell]; rfl) ?_
          refine WL.nil ?_
          refine th_norm ?_
          refine ⟨rfl, ?_, ?_, ?_⟩  -- meet 0 of cut 9
          · exact hx11
          · (repeat (first | exact Fr.refl _ _ | refine Fr.set rfl ?_ | refine Fr.put rfl ?_ | refine Fr.put0 ?_ | refine Fr.trans ?_ (Fr.of hfc7 rfl) | refine Fr.trans ?_ (Fr.of hfc9 rfl)))
          · simp only [ev_tmp, ev_const, ev_func, set_get, Nat.reduceEqDiff, reduceIte, k3_c7, k4_c7, k6_c7, k7_c7, k9_c7, k10_c7, k11_c7, k12_c7, i13_c7, hB1.cell, hB2.cell, hB3.cell, hB8.cell, hB9.cell] <;> first | (rw [hw2, if_pos hct62]) | (rw [hw2, if_neg (by omega)]) | (rw [hw2, if_neg (by intro hh; rcases hct62 with h9 | h9; exact h9 hh.1; rw [hh.2] at h9; cases h9)])
        ·
          try simp only [decide_eq_true_eq, decide_eq_false_iff_not, Bool.and_eq_true, Bool.and_eq_false_iff, Bool.or_eq_true, Bool.or_eq_false_iff, Bool.not_eq_true', Bool.not_eq_false', Bool.not_eq_true, Bool.not_eq_false] at hct62
          refine hx_skip ?_
          refine th_norm ?_
          refine ⟨rfl, ?_, ?_, ?_⟩  -- meet 1 of cut 9
          · exact hx11
          · (repeat (first | exact Fr.refl _ _ | refine Fr.set rfl ?_ | refine Fr.put rfl ?_ | refine Fr.put0 ?_ | refine Fr.trans ?_ (Fr.of hfc7 rfl) | refine Fr.trans ?_ (Fr.of hfc9 rfl)))
          · simp only [ev_tmp, ev_const, ev_func, set_get, Nat.reduceEqDiff, reduceIte, k3_c7, k4_c7, k6_c7, k7_c7, k9_c7, k10_c7, k11_c7, k12_c7, i13_c7, hB1.cell, hB2.cell, hB3.cell, hB8.cell, hB9.cell] <;> first | (rw [hw2, if_pos hct62]) | (rw [hw2, if_neg (by omega)]) | (rw [hw2, if_neg (by intro hh; rcases hct62 with h9 | h9; exact h9 hh.1; rw [hh.2] at h9; cases h9)])
      ·
        rintro ec9 hC9 hXc9 hfc9 i13_c9
        replace hw := hw.ext hXc9
        replace hh := hh.ext hXc9
        replace hB1 := hB1.ext hXc9
        replace hB2 := hB2.ext hXc9
        replace hB3 := hB3.ext hXc9
        replace hq := hq.ext hXc9
        replace hB8 := hB8.ext hXc9
        replace hB9 := hB9.ext hXc9
        have k3_c9 := hfc9 3 rfl; simp only [ev_tmp, ev_const, ev_func, set_get, Nat.reduceEqDiff, reduceIte, k3_c7, k4_c7, k6_c7, k7_c7, k9_c7, k10_c7, k11_c7, k12_c7, i13_c7, hB1.cell, hB2.cell, hB3.cell, hB8.cell, hB9.cell] at k3_c9
        have k6_c9 := hfc9 6 rfl; simp only [ev_tmp, ev_const, ev_func, set_get, Nat.reduceEqDiff, reduceIte, k3_c7, k4_c7, k6_c7, k7_c7, k9_c7, k10_c7, k11_c7, k12_c7, i13_c7, hB1.cell, hB2.cell, hB3.cell, hB8.cell, hB9.cell] at k6_c9
        have k7_c9 := hfc9 7 rfl; simp only [ev_tmp, ev_const, ev_func, set_get, Nat.reduceEqDiff, reduceIte, k3_c7, k4_c7, k6_c7, k7_c7, k9_c7, k10_c7, k11_c7, k12_c7, i13_c7, hB1.cell, hB2.cell, hB3.cell, hB8.cell, hB9.cell] at k7_c9
        have k9_c9 := hfc9 9 rfl; simp only [ev_tmp, ev_const, ev_func, set_get, Nat.reduceEqDiff, reduceIte, k3_c7, k4_c7, k6_c7, k7_c7, k9_c7, k10_c7, k11_c7, k12_c7, i13_c7, hB1.cell, hB2.cell, hB3.cell, hB8.cell, hB9.cell] at k9_c9
        have k10_c9 := hfc9 10 rfl; simp only [ev_tmp, ev_const, ev_func, set_get, Nat.reduceEqDiff, reduceIte, k3_c7, k4_c7, k6_c7, k7_c7, k9_c7, k10_c7, k11_c7, k12_c7, i13_c7, hB1.cell, hB2.cell, hB3.cell, hB8.cell, hB9.cell] at k10_c9
        have k11_c9 := hfc9 11 rfl; simp only [ev_tmp, ev_const, ev_func, set_get, Nat.reduceEqDiff, reduceIte, k3_c7, k4_c7, k6_c7, k7_c7, k9_c7, k10_c7, k11_c7, k12_c7, i13_c7, hB1.cell, hB2.cell, hB3.cell, hB8.cell, hB9.cell] at k11_c9
        have k12_c9 := hfc9 12 rfl; simp only [ev_tmp, ev_const, ev_func, set_get, Nat.reduceEqDiff, reduceIte, k3_c7, k4_c7, k6_c7, k7_c7, k9_c7, k10_c7, k11_c7, k12_c7, i13_c7, hB1.cell, hB2.cell, hB3.cell, hB8.cell, hB9.cell] at k12_c9
        refine hx_seq ?_
        refine hx_seq ?_
        refine hx_region ?_
        refine WL.qq (by simp only [ev_tmp, ev_const, ev_func, set_get, Nat.reduceEqDiff, reduceIte, qv_move, k3_c9, k6_c9, k7_c9, k9_c9, k10_c9, k11_c9, k12_c9, i13_c9, hB1.cell, hB2.cell, hB3.cell, hB8.cell, hB9.cell]; rfl) ?_
        refine WL.qq (by simp only [ev_tmp, ev_const, ev_func, set_get, Nat.reduceEqDiff, reduceIte, qv_binOp, binv_neq, eq34, Option.map_some, k3_c9, k6_c9, k7_c9, k9_c9, k10_c9, k11_c9, k12_c9, i13_c9, hB1.cell, hB2.cell, hB3.cell, hB8.cell, hB9.cell]; rfl) ?_
        refine WL.nil ?_
        refine th_norm ?_
        refine hx_cond (by simp only [ev_tmp, ev_const, ev_func, set_get, Nat.reduceEqDiff, reduceIte, k3_c9, k6_c9, k7_c9, k9_c9, k10_c9, k11_c9, k12_c9, i13_c9, hB1.cell, hB2.cell, hB3.cell, hB8.cell, hB9.cell]; rfl) (fun hct64 => ?_) (fun hct64 => ?_)
        ·
          try simp only [decide_eq_true_eq, decide_eq_false_iff_not, Bool.and_eq_true, Bool.and_eq_false_iff, Bool.or_eq_true, Bool.or_eq_false_iff, Bool.not_eq_true', Bool.not_eq_false', Bool.not_eq_true, Bool.not_eq_false] at hct64
          obtain ⟨rfl, rfl⟩ := h12.1 hct64
          refine hx_seq ?_
          refine hx_region ?_
          refine WL.qq (by simp only [ev_tmp, ev_const, ev_func, set_get, Nat.reduceEqDiff, reduceIte, qv_move, k3_c9, k6_c9, k7_c9, k9_c9, k10_c9, k11_c9, k12_c9, i13_c9, hB1.cell, hB2.cell, hB3.cell, hB8.cell, hB9.cell]; rfl) ?_
          refine WL.qq (by simp only [ev_tmp, ev_const, ev_func, set_get, Nat.reduceEqDiff, reduceIte, qv_move, k3_c9, k6_c9, k7_c9, k9_c9, k10_c9, k11_c9, k12_c9, i13_c9, hB1.cell, hB2.cell, hB3.cell, hB8.cell, hB9.cell]; rfl) ?_
          refine WL.qq (by simp only [ev_tmp, ev_const, ev_func, set_get, Nat.reduceEqDiff, reduceIte, qv_binOp, binv_eql, eq34, Option.map_some, k3_c9, k6_c9, k7_c9, k9_c9, k10_c9, k11_c9, k12_c9, i13_c9, hB1.cell, hB2.cell, hB3.cell, hB8.cell, hB9.cell]; rfl) ?_
          refine WL.qq (by simp only [ev_tmp, ev_const, ev_func, set_get, Nat.reduceEqDiff, reduceIte, qv_move, k3_c9, k6_c9, k7_c9, k9_c9, k10_c9, k11_c9, k12_c9, i13_c9, hB1.cell, hB2.cell, hB3.cell, hB8.cell, hB9.cell]; rfl) ?_
          refine WL.cq (gd_at (t := 68) rfl (by simp only [ev_tmp, ev_const, ev_func, set_get, Nat.reduceEqDiff, reduceIte, k3_c9, k6_c9, k7_c9, k9_c9, k10_c9, k11_c9, k12_c9, i13_c9, hB1.cell, hB2.cell, hB3.cell, hB8.cell, hB9.cell]; rfl)) (fun hg12_4 => by simp only [ev_tmp, ev_const, ev_func, set_get, Nat.reduceEqDiff, reduceIte, qv_load, ld29, readN, List.getElem?_toArray, List.getElem?_cons_zero, List.getElem?_cons_succ, List.map_toArray, List.map_cons, List.map_nil, Option.map_some, Option.bind_some, Nat.zero_add, Nat.reduceAdd, k3_c9, k6_c9, k7_c9, k9_c9, k10_c9, k11_c9, k12_c9, i13_c9, hB1.cell, hB2.cell, hB3.cell, hB8.cell, hB9.cell, hg12_4, Bool.false_eq_true, Bool.true_eq_false, eq_self, if_true, if_false, true_and, and_true, false_and, and_false]; rfl) ?_
          refine WL.cq (gd_at (t := 68) rfl (by simp only [ev_tmp, ev_const, ev_func, set_get, Nat.reduceEqDiff, reduceIte, k3_c9, k6_c9, k7_c9, k9_c9, k10_c9, k11_c9, k12_c9, i13_c9, hB1.cell, hB2.cell, hB3.cell, hB8.cell, hB9.cell]; rfl)) (fun hg12_5 => by refine qv_bld (by simp only [ev_tmp, ev_const, ev_func, set_get, Nat.reduceEqDiff, reduceIte, List.getElem?_toArray, List.getElem?_cons_zero, List.getElem?_cons_succ, List.map_toArray, List.map_cons, List.map_nil, Option.map_some, Option.bind_some, k3_c9, k6_c9, k7_c9, k9_c9, k10_c9, k11_c9, k12_c9, i13_c9, hB1.cell, hB2.cell, hB3.cell, hB8.cell, hB9.cell, hg12_5, Bool.false_eq_true, Bool.true_eq_false, eq_self, if_true, if_false, true_and, and_true, false_and, and_false] <;> rfl) (by rw [bl29]; simp [Instr.fill, Value.cells]; rfl)) ?_
          refine WL.cq (gd_at (t := 68) rfl (by simp only [ev_tmp, ev_const, ev_func, set_get, Nat.reduceEqDiff, reduceIte, k3_c9, k6_c9, k7_c9, k9_c9, k10_c9, k11_c9, k12_c9, i13_c9, hB1.cell, hB2.cell, hB3.cell, hB8.cell, hB9.cell]; rfl)) (fun hg12_6 => by simp only [ev_tmp, ev_const, ev_func, set_get, Nat.reduceEqDiff, reduceIte, qv_binOp, binv_eql, eqs29, Option.map_some, k3_c9, k6_c9, k7_c9, k9_c9, k10_c9, k11_c9, k12_c9, i13_c9, hB1.cell, hB2.cell, hB3.cell, hB8.cell, hB9.cell, hg12_6, Bool.false_eq_true, Bool.true_eq_false, eq_self, if_true, if_false, true_and, and_true, false_and, and_false]; rfl) ?_
          refine WL.qq (by simp only [ev_tmp, ev_const, ev_func, set_get, Nat.reduceEqDiff, reduceIte, qv_pick, pk_and, pk_or, Bool.false_eq_true, Bool.true_eq_false, eq_self, if_true, if_false, true_and, and_true, false_and, and_false, k3_c9, k6_c9, k7_c9, k9_c9, k10_c9, k11_c9, k12_c9, i13_c9, hB1.cell, hB2.cell, hB3.cell, hB8.cell, hB9.cell]; rfl) ?_
          refine WL.qq (by simp only [ev_tmp, ev_const, ev_func, set_get, Nat.reduceEqDiff, reduceIte, qv_assign, k3_c9, k6_c9, k7_c9, k9_c9, k10_c9, k11_c9, k12_c9, i13_c9, hB1.cell, hB2.cell, hB3.cell, hB8.cell, hB9.cell]; rfl) ?_
          refine WL.nil ?_
          refine th_norm ?_
          refine hx_ret ?_
          refine th_ret ?_
          refine fin_ret [.tmp 6] rfl rfl (by simp only [ev_tmp, ev_const, ev_func, set_get, Nat.reduceEqDiff, reduceIte, resv, k3_c9, k6_c9, k7_c9, k9_c9, k10_c9, k11_c9, k12_c9, i13_c9, hB1.cell, hB2.cell, hB3.cell, hB8.cell, hB9.cell]; rfl) ?_  -- ret 1 r12
          exact ⟨by simp [retOf], ((hx1).trans ((hx2).trans ((hx3).trans ((hx4).trans ((hx5).trans ((hx7).trans ((hx8).trans ((hx9).trans ((hx10).trans (hXc9))))))))))⟩
        ·
          try simp only [decide_eq_true_eq, decide_eq_false_iff_not, Bool.and_eq_true, Bool.and_eq_false_iff, Bool.or_eq_true, Bool.or_eq_false_iff, Bool.not_eq_true', Bool.not_eq_false', Bool.not_eq_true, Bool.not_eq_false] at hct64
          obtain ⟨rfl, rfl, hk1, hk2, hbu, hn0⟩ := h12.2 hct64
          obtain ⟨p2, hp2, hc⟩ := hq hb; cases hp2
          have hv6 := val6 (fail_cases (hno.trans hn0)).1
          have hph : phaseM [s0, s1, s2, s3, s4, s5] (some ⟨p, 0, none⟩) (busM wk (srt hol)) d ([s0, s1, s2, s3, s4, s5].getD (k - 1).toNat 0) = (k, 0) := by rw [phase_no, busM_srt, fail_begin _ (fun hh => val6 hh) ⟨p, 0, none⟩ (i := (k - 1).toNat) (by omega) (hno.trans hn0) rfl, if_pos rfl, if_pos hbu, phN_begin hv6 6 (k - 1).toNat (by omega) (by omega), if_neg (by omega)]; congr 1; omega
          obtain ⟨x, hm⟩ : ∃ m, [s0, s1, s2, s3, s4, s5][(k - 1).toNat]? = some m := ⟨[s0, s1, s2, s3, s4, s5][(k - 1).toNat]'(by simp; omega), by simp⟩
          have hgx : [s0, s1, s2, s3, s4, s5].getD (k - 1).toNat 0 = x := by simp only [List.getD, hm, Option.getD_some]
          rw [hgx] at hph
          simp only [hgx] at hB8
          refine hx_skip ?_
          refine th_norm ?_
          refine hx_seq ?_
          refine hx_region ?_
          refine WL.qq (by simp only [ev_tmp, ev_const, ev_func, set_get, Nat.reduceEqDiff, reduceIte, qv_load, ld24, readN, List.getElem?_toArray, List.getElem?_cons_zero, List.getElem?_cons_succ, List.map_toArray, List.map_cons, List.map_nil, Option.map_some, Option.bind_some, Nat.zero_add, Nat.reduceAdd, k3_c9, k6_c9, k7_c9, k9_c9, k10_c9, k11_c9, k12_c9, i13_c9, hB1.cell, hB2.cell, hB3.cell, hB8.cell, hB9.cell]; rfl) ?_
          refine WL.qq (by simp only [ev_tmp, ev_const, ev_func, set_get, Nat.reduceEqDiff, reduceIte, qv_load, ld29, readN, List.getElem?_toArray, List.getElem?_cons_zero, List.getElem?_cons_succ, List.map_toArray, List.map_cons, List.map_nil, Option.map_some, Option.bind_some, Nat.zero_add, Nat.reduceAdd, k3_c9, k6_c9, k7_c9, k9_c9, k10_c9, k11_c9, k12_c9, i13_c9, hB1.cell, hB2.cell, hB3.cell, hB8.cell, hB9.cell]; rfl) ?_
          refine WL.qq (by simp only [ev_tmp, ev_const, ev_func, set_get, Nat.reduceEqDiff, reduceIte, qv_move, k3_c9, k6_c9, k7_c9, k9_c9, k10_c9, k11_c9, k12_c9, i13_c9, hB1.cell, hB2.cell, hB3.cell, hB8.cell, hB9.cell]; rfl) ?_
          refine WL.cg Try.call14 (by simp only [ev_tmp, ev_const, ev_func, set_get, Nat.reduceEqDiff, reduceIte, List.getElem?_toArray, List.getElem?_cons_zero, List.getElem?_cons_succ, List.map_toArray, List.map_cons, List.map_nil, Option.map_some, Option.bind_some, k3_c9, k6_c9, k7_c9, k9_c9, k10_c9, k11_c9, k12_c9, i13_c9, hB1.cell, hB2.cell, hB3.cell, hB8.cell, hB9.cell]; exact HCalls.gv (by rw [hph]) (c_phase s0 s1 s2 s3 s4 s5 d _ _ wk (srt hol) (QCal.some hc))) ?_
          intro h12 hx12
          replace hw := hw.ext hx12
          replace hh := hh.ext hx12
          replace hB1 := hB1.ext hx12
          replace hB2 := hB2.ext hx12
          replace hB3 := hB3.ext hx12
          replace hq := hq.ext hx12
          replace hB8 := hB8.ext hx12
          replace hB9 := hB9.ext hx12
          refine WL.qq (by simp only [ev_tmp, ev_const, ev_func, set_get, Nat.reduceEqDiff, reduceIte, qv_move, k3_c9, k6_c9, k7_c9, k9_c9, k10_c9, k11_c9, k12_c9, i13_c9, hB1.cell, hB2.cell, hB3.cell, hB8.cell, hB9.cell]; rfl) ?_
          refine WL.qq (by simp only [ev_tmp, ev_const, ev_func, set_get, Nat.reduceEqDiff, reduceIte, qv_extract, List.getElem?_toArray, List.getElem?_cons_zero, List.getElem?_cons_succ, List.map_toArray, List.map_cons, List.map_nil, Option.map_some, Option.bind_some, k3_c9, k6_c9, k7_c9, k9_c9, k10_c9, k11_c9, k12_c9, i13_c9, hB1.cell, hB2.cell, hB3.cell, hB8.cell, hB9.cell]; rfl) ?_
          refine WL.qq (by simp only [ev_tmp, ev_const, ev_func, set_get, Nat.reduceEqDiff, reduceIte, qv_extract, List.getElem?_toArray, List.getElem?_cons_zero, List.getElem?_cons_succ, List.map_toArray, List.map_cons, List.map_nil, Option.map_some, Option.bind_some, k3_c9, k6_c9, k7_c9, k9_c9, k10_c9, k11_c9, k12_c9, i13_c9, hB1.cell, hB2.cell, hB3.cell, hB8.cell, hB9.cell]; rfl) ?_
          refine WL.qq (by simp only [ev_tmp, ev_const, ev_func, set_get, Nat.reduceEqDiff, reduceIte, qv_assign, k3_c9, k6_c9, k7_c9, k9_c9, k10_c9, k11_c9, k12_c9, i13_c9, hB1.cell, hB2.cell, hB3.cell, hB8.cell, hB9.cell]; rfl) ?_
          refine WL.qq (by simp only [ev_tmp, ev_const, ev_func, set_get, Nat.reduceEqDiff, reduceIte, qv_assign, k3_c9, k6_c9, k7_c9, k9_c9, k10_c9, k11_c9, k12_c9, i13_c9, hB1.cell, hB2.cell, hB3.cell, hB8.cell, hB9.cell]; rfl) ?_
          refine WL.nil ?_
          refine th_norm ?_
          refine hx_seq ?_
          apply hx_draw2 Rel.same [] [] [] rfl (by decide +kernel) rfl
          refine LD.qq rfl rfl (by simp only [ev_tmp, ev_const, ev_func, set_get, Nat.reduceEqDiff, reduceIte, qv_move, k3_c9, k6_c9, k7_c9, k9_c9, k10_c9, k11_c9, k12_c9, i13_c9, hB1.cell, hB2.cell, hB3.cell, hB8.cell, hB9.cell]; rfl) ?_
          refine LD.qq rfl rfl (by simp only [ev_tmp, ev_const, ev_func, set_get, Nat.reduceEqDiff, reduceIte, qv_binOp, binv_eql, eq34, Option.map_some, k3_c9, k6_c9, k7_c9, k9_c9, k10_c9, k11_c9, k12_c9, i13_c9, hB1.cell, hB2.cell, hB3.cell, hB8.cell, hB9.cell]; rfl) ?_
          refine LD.qq rfl rfl (by simp only [ev_tmp, ev_const, ev_func, set_get, Nat.reduceEqDiff, reduceIte, qv_move, k3_c9, k6_c9, k7_c9, k9_c9, k10_c9, k11_c9, k12_c9, i13_c9, hB1.cell, hB2.cell, hB3.cell, hB8.cell, hB9.cell]; rfl) ?_
          refine LD.cq rfl rfl (gd_at (t := 82) rfl (by simp only [ev_tmp, ev_const, ev_func, set_get, Nat.reduceEqDiff, reduceIte, k3_c9, k6_c9, k7_c9, k9_c9, k10_c9, k11_c9, k12_c9, i13_c9, hB1.cell, hB2.cell, hB3.cell, hB8.cell, hB9.cell]; rfl)) (fun hg14_3 => by simp only [ev_tmp, ev_const, ev_func, set_get, Nat.reduceEqDiff, reduceIte, qv_load, ld29, readN, List.getElem?_toArray, List.getElem?_cons_zero, List.getElem?_cons_succ, List.map_toArray, List.map_cons, List.map_nil, Option.map_some, Option.bind_some, Nat.zero_add, Nat.reduceAdd, k3_c9, k6_c9, k7_c9, k9_c9, k10_c9, k11_c9, k12_c9, i13_c9, hB1.cell, hB2.cell, hB3.cell, hB8.cell, hB9.cell, hg14_3, Bool.false_eq_true, Bool.true_eq_false, eq_self, if_true, if_false, true_and, and_true, false_and, and_false]; rfl) ?_
          refine LD.cq rfl rfl (gd_at (t := 82) rfl (by simp only [ev_tmp, ev_const, ev_func, set_get, Nat.reduceEqDiff, reduceIte, k3_c9, k6_c9, k7_c9, k9_c9, k10_c9, k11_c9, k12_c9, i13_c9, hB1.cell, hB2.cell, hB3.cell, hB8.cell, hB9.cell]; rfl)) (fun hg14_4 => by simp only [ev_tmp, ev_const, ev_func, set_get, Nat.reduceEqDiff, reduceIte, qv_move, k3_c9, k6_c9, k7_c9, k9_c9, k10_c9, k11_c9, k12_c9, i13_c9, hB1.cell, hB2.cell, hB3.cell, hB8.cell, hB9.cell, hg14_4, Bool.false_eq_true, Bool.true_eq_false, eq_self, if_true, if_false, true_and, and_true, false_and, and_false]; rfl) ?_
          refine LD.cq rfl rfl (gd_at (t := 82) rfl (by simp only [ev_tmp, ev_const, ev_func, set_get, Nat.reduceEqDiff, reduceIte, k3_c9, k6_c9, k7_c9, k9_c9, k10_c9, k11_c9, k12_c9, i13_c9, hB1.cell, hB2.cell, hB3.cell, hB8.cell, hB9.cell]; rfl)) (fun hg14_5 => by simp only [ev_tmp, ev_const, ev_func, set_get, Nat.reduceEqDiff, reduceIte, qv_move, k3_c9, k6_c9, k7_c9, k9_c9, k10_c9, k11_c9, k12_c9, i13_c9, hB1.cell, hB2.cell, hB3.cell, hB8.cell, hB9.cell, hg14_5, Bool.false_eq_true, Bool.true_eq_false, eq_self, if_true, if_false, true_and, and_true, false_and, and_false]; rfl) ?_
          refine LD.cq rfl rfl (gd_at (t := 82) rfl (by simp only [ev_tmp, ev_const, ev_func, set_get, Nat.reduceEqDiff, reduceIte, k3_c9, k6_c9, k7_c9, k9_c9, k10_c9, k11_c9, k12_c9, i13_c9, hB1.cell, hB2.cell, hB3.cell, hB8.cell, hB9.cell]; rfl)) (fun hg14_6 => by have hq0 := hg14_6; (try simp only [decide_eq_true_eq, decide_eq_false_iff_not, Bool.and_eq_true, Bool.and_eq_false_iff, Bool.or_eq_true, Bool.or_eq_false_iff, Bool.not_eq_true', Bool.not_eq_false', Bool.not_eq_true, Bool.not_eq_false] at hq0); simp only [ev_tmp, ev_const, ev_func, set_get, Nat.reduceEqDiff, reduceIte, qv_binOp, binv_sub, k3_c9, k6_c9, k7_c9, k9_c9, k10_c9, k11_c9, k12_c9, i13_c9, hB1.cell, hB2.cell, hB3.cell, hB8.cell, hB9.cell, hg14_6, Bool.false_eq_true, Bool.true_eq_false, eq_self, if_true, if_false, true_and, and_true, false_and, and_false]; (try simp (disch := omega) only [w64, w8, wu64]); rfl) ?_
          refine LD.cq rfl rfl (gd_at (t := 82) rfl (by simp only [ev_tmp, ev_const, ev_func, set_get, Nat.reduceEqDiff, reduceIte, k3_c9, k6_c9, k7_c9, k9_c9, k10_c9, k11_c9, k12_c9, i13_c9, hB1.cell, hB2.cell, hB3.cell, hB8.cell, hB9.cell]; rfl)) (fun hg14_7 => by simp only [ev_tmp, ev_const, ev_func, set_get, Nat.reduceEqDiff, reduceIte, qv_fieldAddr, fa24_0, Nat.zero_add, Nat.reduceAdd, k3_c9, k6_c9, k7_c9, k9_c9, k10_c9, k11_c9, k12_c9, i13_c9, hB1.cell, hB2.cell, hB3.cell, hB8.cell, hB9.cell, hg14_7, Bool.false_eq_true, Bool.true_eq_false, eq_self, if_true, if_false, true_and, and_true, false_and, and_false]; rfl) ?_
          refine LD.cq rfl rfl (gd_at (t := 82) rfl (by simp only [ev_tmp, ev_const, ev_func, set_get, Nat.reduceEqDiff, reduceIte, k3_c9, k6_c9, k7_c9, k9_c9, k10_c9, k11_c9, k12_c9, i13_c9, hB1.cell, hB2.cell, hB3.cell, hB8.cell, hB9.cell]; rfl)) (fun hg14_8 => by simp only [ev_tmp, ev_const, ev_func, set_get, Nat.reduceEqDiff, reduceIte, k3_c9, k6_c9, k7_c9, k9_c9, k10_c9, k11_c9, k12_c9, i13_c9, hB1.cell, hB2.cell, hB3.cell, hB8.cell, hB9.cell, qv_indexAddr, Bool.false_eq_true, Bool.true_eq_false, eq_self, if_true, if_false, true_and, and_true, false_and, and_false, hg14_8]; exact ix22 _ _ _ _ (by omega) (by omega)) ?_
          refine LD.cq rfl rfl (gd_at (t := 82) rfl (by simp only [ev_tmp, ev_const, ev_func, set_get, Nat.reduceEqDiff, reduceIte, k3_c9, k6_c9, k7_c9, k9_c9, k10_c9, k11_c9, k12_c9, i13_c9, hB1.cell, hB2.cell, hB3.cell, hB8.cell, hB9.cell]; rfl)) (fun hg14_9 => by simp only [ev_tmp, ev_const, ev_func, set_get, Nat.reduceEqDiff, reduceIte, k3_c9, k6_c9, k7_c9, k9_c9, k10_c9, k11_c9, k12_c9, i13_c9, hB1.cell, hB2.cell, hB3.cell, hB8.cell, hB9.cell, qv_load, ld3, Nat.zero_add, at6 hm, Bool.false_eq_true, Bool.true_eq_false, eq_self, if_true, if_false, true_and, and_true, false_and, and_false, hg14_9]; rfl) ?_
          refine LD.cq rfl rfl (gd_at (t := 82) rfl (by simp only [ev_tmp, ev_const, ev_func, set_get, Nat.reduceEqDiff, reduceIte, k3_c9, k6_c9, k7_c9, k9_c9, k10_c9, k11_c9, k12_c9, i13_c9, hB1.cell, hB2.cell, hB3.cell, hB8.cell, hB9.cell]; rfl)) (fun hg14_10 => by refine qv_bld (by simp only [ev_tmp, ev_const, ev_func, set_get, Nat.reduceEqDiff, reduceIte, List.getElem?_toArray, List.getElem?_cons_zero, List.getElem?_cons_succ, List.map_toArray, List.map_cons, List.map_nil, Option.map_some, Option.bind_some, k3_c9, k6_c9, k7_c9, k9_c9, k10_c9, k11_c9, k12_c9, i13_c9, hB1.cell, hB2.cell, hB3.cell, hB8.cell, hB9.cell, hg14_10, Bool.false_eq_true, Bool.true_eq_false, eq_self, if_true, if_false, true_and, and_true, false_and, and_false] <;> rfl) (by rw [bl29]; simp [Instr.fill, Value.cells]; rfl)) ?_
          refine LD.cq rfl rfl (gd_at (t := 82) rfl (by simp only [ev_tmp, ev_const, ev_func, set_get, Nat.reduceEqDiff, reduceIte, k3_c9, k6_c9, k7_c9, k9_c9, k10_c9, k11_c9, k12_c9, i13_c9, hB1.cell, hB2.cell, hB3.cell, hB8.cell, hB9.cell]; rfl)) (fun hg14_11 => by simp only [ev_tmp, ev_const, ev_func, set_get, Nat.reduceEqDiff, reduceIte, qv_binOp, binv_eql, eqs29, Option.map_some, k3_c9, k6_c9, k7_c9, k9_c9, k10_c9, k11_c9, k12_c9, i13_c9, hB1.cell, hB2.cell, hB3.cell, hB8.cell, hB9.cell, hg14_11, Bool.false_eq_true, Bool.true_eq_false, eq_self, if_true, if_false, true_and, and_true, false_and, and_false]; rfl) ?_
          refine LD.qq rfl rfl (by simp only [ev_tmp, ev_const, ev_func, set_get, Nat.reduceEqDiff, reduceIte, qv_pick, pk_and, pk_or, Bool.false_eq_true, Bool.true_eq_false, eq_self, if_true, if_false, true_and, and_true, false_and, and_false, k3_c9, k6_c9, k7_c9, k9_c9, k10_c9, k11_c9, k12_c9, i13_c9, hB1.cell, hB2.cell, hB3.cell, hB8.cell, hB9.cell]; rfl) ?_
          refine LD.qq rfl rfl (by simp only [ev_tmp, ev_const, ev_func, set_get, Nat.reduceEqDiff, reduceIte, qv_move, k3_c9, k6_c9, k7_c9, k9_c9, k10_c9, k11_c9, k12_c9, i13_c9, hB1.cell, hB2.cell, hB3.cell, hB8.cell, hB9.cell]; rfl) ?_
          refine LD.cq rfl rfl (gd_at (t := 93) rfl (by simp only [ev_tmp, ev_const, ev_func, set_get, Nat.reduceEqDiff, reduceIte, k3_c9, k6_c9, k7_c9, k9_c9, k10_c9, k11_c9, k12_c9, i13_c9, hB1.cell, hB2.cell, hB3.cell, hB8.cell, hB9.cell]; rfl)) (fun hg14_14 => by simp only [ev_tmp, ev_const, ev_func, set_get, Nat.reduceEqDiff, reduceIte, qv_move, k3_c9, k6_c9, k7_c9, k9_c9, k10_c9, k11_c9, k12_c9, i13_c9, hB1.cell, hB2.cell, hB3.cell, hB8.cell, hB9.cell, hg14_14, Bool.false_eq_true, Bool.true_eq_false, eq_self, if_true, if_false, true_and, and_true, false_and, and_false]; rfl) ?_
          refine LD.cq rfl rfl (gd_at (t := 93) rfl (by simp only [ev_tmp, ev_const, ev_func, set_get, Nat.reduceEqDiff, reduceIte, k3_c9, k6_c9, k7_c9, k9_c9, k10_c9, k11_c9, k12_c9, i13_c9, hB1.cell, hB2.cell, hB3.cell, hB8.cell, hB9.cell]; rfl)) (fun hg14_15 => by simp only [ev_tmp, ev_const, ev_func, set_get, Nat.reduceEqDiff, reduceIte, qv_binOp, binv_eql, eq34, Option.map_some, k3_c9, k6_c9, k7_c9, k9_c9, k10_c9, k11_c9, k12_c9, i13_c9, hB1.cell, hB2.cell, hB3.cell, hB8.cell, hB9.cell, hg14_15, Bool.false_eq_true, Bool.true_eq_false, eq_self, if_true, if_false, true_and, and_true, false_and, and_false]; rfl) ?_
          refine LD.qq rfl rfl (by simp only [ev_tmp, ev_const, ev_func, set_get, Nat.reduceEqDiff, reduceIte, qv_pick, pk_and, pk_or, Bool.false_eq_true, Bool.true_eq_false, eq_self, if_true, if_false, true_and, and_true, false_and, and_false, k3_c9, k6_c9, k7_c9, k9_c9, k10_c9, k11_c9, k12_c9, i13_c9, hB1.cell, hB2.cell, hB3.cell, hB8.cell, hB9.cell]; rfl) ?_
          refine LD.qq rfl rfl (by simp only [ev_tmp, ev_const, ev_func, set_get, Nat.reduceEqDiff, reduceIte, qv_move, k3_c9, k6_c9, k7_c9, k9_c9, k10_c9, k11_c9, k12_c9, i13_c9, hB1.cell, hB2.cell, hB3.cell, hB8.cell, hB9.cell]; rfl) ?_
          refine LD.cq rfl rfl (gd_at (t := 97) rfl (by simp only [ev_tmp, ev_const, ev_func, set_get, Nat.reduceEqDiff, reduceIte, k3_c9, k6_c9, k7_c9, k9_c9, k10_c9, k11_c9, k12_c9, i13_c9, hB1.cell, hB2.cell, hB3.cell, hB8.cell, hB9.cell]; rfl)) (fun hg14_18 => by simp only [ev_tmp, ev_const, ev_func, set_get, Nat.reduceEqDiff, reduceIte, qv_move, k3_c9, k6_c9, k7_c9, k9_c9, k10_c9, k11_c9, k12_c9, i13_c9, hB1.cell, hB2.cell, hB3.cell, hB8.cell, hB9.cell, hg14_18, Bool.false_eq_true, Bool.true_eq_false, eq_self, if_true, if_false, true_and, and_true, false_and, and_false]; rfl) ?_
          refine LD.cq rfl rfl (gd_at (t := 97) rfl (by simp only [ev_tmp, ev_const, ev_func, set_get, Nat.reduceEqDiff, reduceIte, k3_c9, k6_c9, k7_c9, k9_c9, k10_c9, k11_c9, k12_c9, i13_c9, hB1.cell, hB2.cell, hB3.cell, hB8.cell, hB9.cell]; rfl)) (fun hg14_19 => by simp only [ev_tmp, ev_const, ev_func, set_get, Nat.reduceEqDiff, reduceIte, qv_move, k3_c9, k6_c9, k7_c9, k9_c9, k10_c9, k11_c9, k12_c9, i13_c9, hB1.cell, hB2.cell, hB3.cell, hB8.cell, hB9.cell, hg14_19, Bool.false_eq_true, Bool.true_eq_false, eq_self, if_true, if_false, true_and, and_true, false_and, and_false]; rfl) ?_
          refine LD.cq rfl rfl (gd_at (t := 97) rfl (by simp only [ev_tmp, ev_const, ev_func, set_get, Nat.reduceEqDiff, reduceIte, k3_c9, k6_c9, k7_c9, k9_c9, k10_c9, k11_c9, k12_c9, i13_c9, hB1.cell, hB2.cell, hB3.cell, hB8.cell, hB9.cell]; rfl)) (fun hg14_20 => by simp only [ev_tmp, ev_const, ev_func, set_get, Nat.reduceEqDiff, reduceIte, qv_binOp, binv_eql, eq3, Option.map_some, k3_c9, k6_c9, k7_c9, k9_c9, k10_c9, k11_c9, k12_c9, i13_c9, hB1.cell, hB2.cell, hB3.cell, hB8.cell, hB9.cell, hg14_20, Bool.false_eq_true, Bool.true_eq_false, eq_self, if_true, if_false, true_and, and_true, false_and, and_false]; rfl) ?_
          refine LD.qq rfl rfl (by simp only [ev_tmp, ev_const, ev_func, set_get, Nat.reduceEqDiff, reduceIte, qv_pick, pk_and, pk_or, Bool.false_eq_true, Bool.true_eq_false, eq_self, if_true, if_false, true_and, and_true, false_and, and_false, k3_c9, k6_c9, k7_c9, k9_c9, k10_c9, k11_c9, k12_c9, i13_c9, hB1.cell, hB2.cell, hB3.cell, hB8.cell, hB9.cell]; rfl) ?_
          refine LD.qq rfl rfl (by simp only [ev_tmp, ev_const, ev_func, set_get, Nat.reduceEqDiff, reduceIte, qv_assign, k3_c9, k6_c9, k7_c9, k9_c9, k10_c9, k11_c9, k12_c9, i13_c9, hB1.cell, hB2.cell, hB3.cell, hB8.cell, hB9.cell]; rfl) ?_
          refine LD.nil ?_
          rintro _ rfl -
          refine WL.nil ?_
          refine th_norm ?_
          refine hx_ret ?_
          refine fin_ret [.tmp 6] rfl rfl (by simp only [ev_tmp, ev_const, ev_func, set_get, Nat.reduceEqDiff, reduceIte, resv, k3_c9, k6_c9, k7_c9, k9_c9, k10_c9, k11_c9, k12_c9, i13_c9, hB1.cell, hB2.cell, hB3.cell, hB8.cell, hB9.cell]; rfl) ?_  -- ret 2 r14
          exact ⟨by simp [retOf], ((hx1).trans ((hx2).trans ((hx3).trans ((hx4).trans ((hx5).trans ((hx7).trans ((hx8).trans ((hx9).trans ((hx10).trans ((hXc9).trans (hx12)))))))))))⟩
end GL


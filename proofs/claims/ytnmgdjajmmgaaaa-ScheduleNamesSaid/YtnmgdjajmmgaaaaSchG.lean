/- Schedule: Next; the reference's Changes. -/
import Derived.Test.YtnmgdjajmmgaaaaSchF
set_option linter.unusedSimpArgs false
set_option linter.unusedVariables false
set_option linter.unnecessarySimpa false
namespace GL
open Go Go.Proofs
set_option maxRecDepth 8000
def nextM (s : List Int) (q : Option Addr) (bus : Int → Bool) (a : Int × Int) : Chg × Int :=
  if valM s q [a] ≠ 0 then ((0, 0, 0), valM s q [a]) else match (begs bus s a)[0]? with | some c => (c, 0) | none => ((0, 0, 0), 28)
theorem c_snext (s0 s1 s2 s3 s4 s5 d m : Int) (q : Option Addr) (wk hs : List Int) {n : Chg} {ne : Int} (hN : nextM [s0, s1, s2, s3, s4, s5] q (busM wk hs) (d, m) = (n, ne)) {h : Heap} (hq : QCal h q wk hs) :
    HCalls Try.prog 28 #[sch s0 s1 s2 s3 s4 s5, .agg #[.int .i64 d, .int .i64 m], .pointer q] h (Grow (.tuple #[chgV n, .int .i64 ne]) h) := by
  refine hcalls2 Try.func28 rfl (by decide +kernel) (by simp only [Try.ntmps28]; exact of_decide_eq_true rfl) ?_
  intro e hin
  have e0 := hin 0 _ rfl
  have e1 := hin 1 _ rfl
  have e2 := hin 2 _ rfl
  have hE : Ext h h := Ext.refl h
  obtain ⟨er, he⟩ : ∃ e, valM [s0, s1, s2, s3, s4, s5] q [(d, m)] = e := ⟨_, rfl⟩
  have hq0 := hq
  simp only [nextM, he] at hN
  refine hx_seq ?_
  refine hx_region ?_
  refine WL.box2 (by simp only [ev_tmp, ev_const, ev_func, set_get, Nat.reduceEqDiff, reduceIte, Value.cells, e0, e1, e2]; rfl) ?_
  intro h1 B1 hx1 hlt1 hB1
  replace hE := hE.trans hx1
  replace hq := hq.ext hx1
  refine WL.box2 (by simp only [ev_tmp, ev_const, ev_func, set_get, Nat.reduceEqDiff, reduceIte, Value.cells, e0, e1, e2, hB1.cell]; rfl) ?_
  intro h2 B2 hx2 hlt2 hB2
  replace hE := hE.trans hx2
  replace hq := hq.ext hx2
  replace hB1 := hB1.ext hx2
  refine WL.alloc2 zr61 ?_
  intro h3 B3 hx3 hlt3 hB3
  have hne1_3 : B3 ≠ B1 := by have := (Array.getElem?_eq_some_iff.1 hB1).1; omega
  have hne2_3 : B3 ≠ B2 := by have := (Array.getElem?_eq_some_iff.1 hB2).1; omega
  have hb0_3 := Nat.le_trans hE.size hlt3
  have hq_s3 := hq
  have hB1_s3 := hB1
  have hB2_s3 := hB2
  replace hE := hE.trans hx3
  replace hq := hq.ext hx3
  replace hB1 := hB1.ext hx3
  replace hB2 := hB2.ext hx3
  have hEo3 := hx3
  simp only [Value.cells] at hB3
  refine WL.alloc2 zr34 ?_
  intro h4 B4 hx4 hlt4 hB4
  have hne1_4 : B4 ≠ B1 := by have := (Array.getElem?_eq_some_iff.1 hB1).1; omega
  have hne2_4 : B4 ≠ B2 := by have := (Array.getElem?_eq_some_iff.1 hB2).1; omega
  have hne3_4 : B4 ≠ B3 := by have := (Array.getElem?_eq_some_iff.1 hB3).1; omega
  have hb0_4 := Nat.le_trans hE.size hlt4
  have hbo3_4 := Nat.le_trans hEo3.size hlt4
  have hq_s4 := hq
  have hB1_s4 := hB1
  have hB2_s4 := hB2
  have hB3_s4 := hB3
  replace hE := hE.trans hx4
  replace hEo3 := hEo3.trans hx4
  replace hq := hq.ext hx4
  replace hB1 := hB1.ext hx4
  replace hB2 := hB2.ext hx4
  replace hB3 := hB3.ext hx4
  have hEo4 := hx4
  simp only [Value.cells] at hB4
  refine WL.nil ?_
  refine th_norm ?_
  refine hx_seq ?_
  refine hx_seq ?_
  refine hx_region ?_
  refine WL.qq (by simp only [ev_tmp, ev_const, ev_func, set_get, Nat.reduceEqDiff, reduceIte, qv_load, ld24, readN, List.getElem?_toArray, List.getElem?_cons_zero, List.getElem?_cons_succ, List.map_toArray, List.map_cons, List.map_nil, Option.map_some, Option.bind_some, Nat.zero_add, Nat.reduceAdd, e0, e1, e2, hB1.cell, hB2.cell, hB3.cell, hB4.cell]; rfl) ?_
  refine WL.qq (by simp only [ev_tmp, ev_const, ev_func, set_get, Nat.reduceEqDiff, reduceIte, qv_move, e0, e1, e2, hB1.cell, hB2.cell, hB3.cell, hB4.cell]; rfl) ?_
  refine WL.qq (by simp only [ev_tmp, ev_const, ev_func, set_get, Nat.reduceEqDiff, reduceIte, qv_load, ld29, readN, List.getElem?_toArray, List.getElem?_cons_zero, List.getElem?_cons_succ, List.map_toArray, List.map_cons, List.map_nil, Option.map_some, Option.bind_some, Nat.zero_add, Nat.reduceAdd, e0, e1, e2, hB1.cell, hB2.cell, hB3.cell, hB4.cell]; rfl) ?_
  refine WL.lit2 #[(.int .i64 0), (.int .i64 0)] Try.underlying84 sz29 zr29 (by decide) (by kernel_rfl) ⟨_, (by simp only [ev_tmp, ev_const, ev_func, set_get, Nat.reduceEqDiff, reduceIte, List.getElem?_toArray, List.getElem?_cons_zero, List.getElem?_cons_succ, List.map_toArray, List.map_cons, List.map_nil, Option.map_some, Option.bind_some, e0, e1, e2, hB1.cell, hB2.cell, hB3.cell, hB4.cell]; simp [Instr.fill, Value.cells]; rfl), rfl⟩ ?_
  intro h5 B5 hx5 hlt5 hB5
  replace hE := hE.trans hx5
  replace hEo3 := hEo3.trans hx5
  replace hEo4 := hEo4.trans hx5
  replace hq := hq.ext hx5
  replace hB1 := hB1.ext hx5
  replace hB2 := hB2.ext hx5
  replace hB3 := hB3.ext hx5
  replace hB4 := hB4.ext hx5
  refine WL.cg Try.call37 (by simp only [ev_tmp, ev_const, ev_func, set_get, Nat.reduceEqDiff, reduceIte, List.getElem?_toArray, List.getElem?_cons_zero, List.getElem?_cons_succ, List.map_toArray, List.map_cons, List.map_nil, Option.map_some, Option.bind_some, e0, e1, e2, hB1.cell, hB2.cell, hB3.cell, hB4.cell, hB5.cell]; exact HCalls.gv (by rw [he]) (c_validate s0 s1 s2 s3 s4 s5 q _ [(d, m)] 1 (by simp) (SlC.one hB5))) ?_
  intro h6 hx6
  replace hE := hE.trans hx6
  replace hEo3 := hEo3.trans hx6
  replace hEo4 := hEo4.trans hx6
  replace hq := hq.ext hx6
  replace hB1 := hB1.ext hx6
  replace hB2 := hB2.ext hx6
  replace hB3 := hB3.ext hx6
  replace hB4 := hB4.ext hx6
  replace hB5 := hB5.ext hx6
  refine WL.qq (by simp only [ev_tmp, ev_const, ev_func, set_get, Nat.reduceEqDiff, reduceIte, qv_assign, e0, e1, e2, hB1.cell, hB2.cell, hB3.cell, hB4.cell, hB5.cell]; rfl) ?_
  refine WL.nil ?_
  refine th_norm ?_
  refine hx_seq ?_
  refine hx_region ?_
  refine WL.qq (by simp only [ev_tmp, ev_const, ev_func, set_get, Nat.reduceEqDiff, reduceIte, qv_move, e0, e1, e2, hB1.cell, hB2.cell, hB3.cell, hB4.cell, hB5.cell]; rfl) ?_
  refine WL.qq (by simp only [ev_tmp, ev_const, ev_func, set_get, Nat.reduceEqDiff, reduceIte, qv_binOp, binv_neq, eq34, Option.map_some, e0, e1, e2, hB1.cell, hB2.cell, hB3.cell, hB4.cell, hB5.cell]; rfl) ?_
  refine WL.nil ?_
  refine th_norm ?_
  refine hx_cond (by simp only [ev_tmp, ev_const, ev_func, set_get, Nat.reduceEqDiff, reduceIte, e0, e1, e2, hB1.cell, hB2.cell, hB3.cell, hB4.cell, hB5.cell]; rfl) (fun hct16 => ?_) (fun hct16 => ?_)
  ·
    try simp only [decide_eq_true_eq, decide_eq_false_iff_not, Bool.and_eq_true, Bool.and_eq_false_iff, Bool.or_eq_true, Bool.or_eq_false_iff, Bool.not_eq_true', Bool.not_eq_false', Bool.not_eq_true, Bool.not_eq_false] at hct16
    refine hx_seq ?_
    refine hx_region ?_
    refine WL.qq (by refine qv_bld (by simp only [ev_tmp, ev_const, ev_func, set_get, Nat.reduceEqDiff, reduceIte, List.getElem?_toArray, List.getElem?_cons_zero, List.getElem?_cons_succ, List.map_toArray, List.map_cons, List.map_nil, Option.map_some, Option.bind_some, e0, e1, e2, hB1.cell, hB2.cell, hB3.cell, hB4.cell, hB5.cell] <;> rfl) (by rw [bl61]; simp [Instr.fill, Value.cells]; rfl)) ?_
    refine WL.qq (by simp only [ev_tmp, ev_const, ev_func, set_get, Nat.reduceEqDiff, reduceIte, qv_move, e0, e1, e2, hB1.cell, hB2.cell, hB3.cell, hB4.cell, hB5.cell]; rfl) ?_
    refine WL.store (by simp only [ev_tmp, ev_const, ev_func, set_get, Nat.reduceEqDiff, reduceIte, e0, e1, e2, hB1.cell, hB2.cell, hB3.cell, hB4.cell, hB5.cell] <;> rfl) sz61 (by simp only [ev_tmp, ev_const, ev_func, set_get, Nat.reduceEqDiff, reduceIte, Value.cells, e0, e1, e2, hB1.cell, hB2.cell, hB3.cell, hB4.cell, hB5.cell] <;> rfl) rfl hB3 (by first | decide | (simp; done) | (simp; omega)) (by simp [Value.oneCell']) ?_
    intro h7 hw7
    replace hE := hw7.ext hE hb0_3
    replace hEo3 := hw7.ext hEo3 hlt3
    replace hq := hq_s3.ext hEo3
    replace hB1 := hB1_s3.ext hEo3
    replace hB2 := hB2_s3.ext hEo3
    replace hB4 := hB4.wr hw7 hne3_4
    replace hB3 := hw7.at_
    try simp only [splc, List.take_succ_cons, List.take_zero, List.take_nil, List.drop_succ_cons, List.drop_zero, List.drop_nil, List.cons_append, List.nil_append, List.length_cons, List.length_nil, Nat.zero_add, Nat.add_zero, Nat.reduceAdd, List.append_nil] at hB3
    refine WL.store (by simp only [ev_tmp, ev_const, ev_func, set_get, Nat.reduceEqDiff, reduceIte, e0, e1, e2, hB1.cell, hB2.cell, hB3.cell, hB4.cell] <;> rfl) sz34 (by simp only [ev_tmp, ev_const, ev_func, set_get, Nat.reduceEqDiff, reduceIte, Value.cells, e0, e1, e2, hB1.cell, hB2.cell, hB3.cell, hB4.cell] <;> rfl) rfl hB4 (by first | decide | (simp; done) | (simp; omega)) (by simp [Value.oneCell']) ?_
    intro h8 hw8
    replace hE := hw8.ext hE hb0_4
    replace hEo3 := hw8.ext hEo3 hbo3_4
    replace hB1 := hB1.wr hw8 (Ne.symm hne1_4)
    replace hB2 := hB2.wr hw8 (Ne.symm hne2_4)
    replace hB3 := hB3.wr hw8 (Ne.symm hne3_4)
    replace hB4 := hw8.at_
    try simp only [splc, List.take_succ_cons, List.take_zero, List.take_nil, List.drop_succ_cons, List.drop_zero, List.drop_nil, List.cons_append, List.nil_append, List.length_cons, List.length_nil, Nat.zero_add, Nat.add_zero, Nat.reduceAdd, List.append_nil] at hB4
    refine WL.nil ?_
    refine th_norm ?_
    refine hx_ret ?_
    refine th_ret ?_
    refine fin_ret [.cell 6 61, .cell 7 34] rfl rfl (by simp only [ev_tmp, ev_const, ev_func, set_get, Nat.reduceEqDiff, reduceIte, resv, ld61, ld34, readN, List.getElem?_toArray, List.getElem?_cons_zero, List.getElem?_cons_succ, List.map_toArray, List.map_cons, List.map_nil, Option.map_some, Option.bind_some, Nat.zero_add, Nat.reduceAdd, e0, e1, e2, hB1.cell, hB2.cell, hB3.cell, hB4.cell]; rfl) ?_  -- ret 0 r3
    rw [if_pos hct16] at hN
    cases hN
    exact ⟨rfl, hE⟩
  ·
    try simp only [decide_eq_true_eq, decide_eq_false_iff_not, Bool.and_eq_true, Bool.and_eq_false_iff, Bool.or_eq_true, Bool.or_eq_false_iff, Bool.not_eq_true', Bool.not_eq_false', Bool.not_eq_true, Bool.not_eq_false] at hct16
    rw [if_neg (fun hh => hh hct16)] at hN
    obtain ⟨p, rfl, hc0⟩ := hq0.get (he.trans hct16)
    have hvv := val_one (he.trans hct16); simp only at hvv
    obtain ⟨L, hL⟩ : ∃ L, L = begs (busM wk hs) [s0, s1, s2, s3, s4, s5] (d, m) := ⟨_, rfl⟩
    rw [← hL] at hN
    refine hx_skip ?_
    refine th_norm ?_
    refine hx_seq ?_
    refine hx_seq ?_
    refine hx_region ?_
    refine WL.qq (by simp only [ev_tmp, ev_const, ev_func, set_get, Nat.reduceEqDiff, reduceIte, qv_load, ld24, readN, List.getElem?_toArray, List.getElem?_cons_zero, List.getElem?_cons_succ, List.map_toArray, List.map_cons, List.map_nil, Option.map_some, Option.bind_some, Nat.zero_add, Nat.reduceAdd, e0, e1, e2, hB1.cell, hB2.cell, hB3.cell, hB4.cell, hB5.cell]; rfl) ?_
    refine WL.qq (by simp only [ev_tmp, ev_const, ev_func, set_get, Nat.reduceEqDiff, reduceIte, qv_load, ld29, readN, List.getElem?_toArray, List.getElem?_cons_zero, List.getElem?_cons_succ, List.map_toArray, List.map_cons, List.map_nil, Option.map_some, Option.bind_some, Nat.zero_add, Nat.reduceAdd, e0, e1, e2, hB1.cell, hB2.cell, hB3.cell, hB4.cell, hB5.cell]; rfl) ?_
    refine WL.qq (by simp only [ev_tmp, ev_const, ev_func, set_get, Nat.reduceEqDiff, reduceIte, qv_move, e0, e1, e2, hB1.cell, hB2.cell, hB3.cell, hB4.cell, hB5.cell]; rfl) ?_
    refine WL.ce Try.call43 (by simp only [ev_tmp, ev_const, ev_func, set_get, Nat.reduceEqDiff, reduceIte, List.getElem?_toArray, List.getElem?_cons_zero, List.getElem?_cons_succ, List.map_toArray, List.map_cons, List.map_nil, Option.map_some, Option.bind_some, e0, e1, e2, hB1.cell, hB2.cell, hB3.cell, hB4.cell, hB5.cell]; exact c_beginnings s0 s1 s2 s3 s4 s5 d m _ _) ?_
    rintro _ h9 ⟨hx9, Ba, Bc, Bs, rfl, hba, hbc, hbs, la, lc, ls⟩
    replace hE := hE.trans hx9
    replace hEo3 := hEo3.trans hx9
    replace hEo4 := hEo4.trans hx9
    replace hq := hq.ext hx9
    replace hB1 := hB1.ext hx9
    replace hB2 := hB2.ext hx9
    replace hB3 := hB3.ext hx9
    replace hB4 := hB4.ext hx9
    replace hB5 := hB5.ext hx9
    simp only [put_some]
    refine WL.nil ?_
    refine th_norm ?_
    refine hx_block ?_
    refine hx_range (by simp only [ev_tmp, ev_const, ev_func, set_get, Nat.reduceEqDiff, reduceIte, e0, e1, e2, hB1.cell, hB2.cell, hB3.cell, hB4.cell, hB5.cell]; rfl) Try.call55 ?_
    intro fnR0 hR0 hxR0 hsR0 hdR0 hrR0
    have hlt3 : B3 < h9.size := (Array.getElem?_eq_some_iff.1 hB3).1
    have hlt4 : B4 < h9.size := (Array.getElem?_eq_some_iff.1 hB4).1
    have hne34 : B4 ≠ B3 := hne3_4
    have hb3 := hb0_3
    have hb4 := hb0_4
    generalize hrec : recOf _ _ _ _ _ _ _ = rec at hrR0
    refine (c_begYield Ba Bc Bs p (h9.size + 1) s0 s1 s2 s3 s4 s5 d m wk hs ⟨hvv.1.1, hvv.1.2.1⟩ (fun i hx => i = 0 ∧ Ext hR0 hx)
      (fun hx => ∃ c, L[0]? = some c ∧ Has hx B3 (.cells (chgL c).toArray 61) ∧ Has hx B4 (.cells #[.int .i64 0] 34) ∧ Rec hx (h9.size + 1) { rec with state := .done, pending := some .ret } ∧ hx[h9.size]? = some (.deferred (some [])) ∧ Ext h hx) L hL ?_ ?_ ?_ ?_).mono ?_
    · rintro i h1 h2 ⟨hz, he⟩ he'; exact ⟨hz, he.trans he'⟩
    · rintro i hx ⟨hz, he'⟩; exact ⟨(hba.ext hxR0).ext he', (hbc.ext hxR0).ext he', (hbs.ext hxR0).ext he', hc0.ext (Ext.trans (Ext.trans hE hxR0) he')⟩
    rotate_left
    · exact ⟨rfl, Ext.refl _⟩
    rotate_left
    ·
      rintro i y hx hyi ⟨rfl, heR⟩
      have hsx := heR.size
      subst hrec
      refine hy_body (vs := [chgV y]) (ps := [23]) (heR _ _ hrR0) rfl rfl rfl (by decide) rfl rfl ?_
      simp only [pars, List.zip_cons_cons, List.zip_nil_left, List.foldl_cons, List.foldl_nil]
      refine hx_region ?_
      refine WL.allocSt zr61 sz61 (fun u => by simp only [ev_tmp, ev_const, ev_func, set_get, Nat.reduceEqDiff, reduceIte, Value.cells, e0, e1, e2, hB1.cell, hB2.cell, hB3.cell, hB4.cell, hB5.cell]; rfl) ⟨rfl, rfl⟩ (by simp [Value.oneCell']) ?_
      intro h10 B10 hx10 hlt10 hB10
      replace heR := heR.ext hx10
      refine WL.nil ?_
      refine th_norm ?_
      refine ⟨_, heR _ _ hrR0, rfl, ?_⟩
      intro h20 hw20
      replace hB10 := hB10.wr hw20 (by omega)
      have hA3 := ((hB3.ext hxR0).ext heR).wr hw20 (by omega)
      have hA4 := ((hB4.ext hxR0).ext heR).wr hw20 (by omega)
      refine hx_block ?_
      refine hx_seq ?_
      refine hx_region ?_
      refine WL.qq (by simp only [ev_tmp, ev_const, ev_func, set_get, Nat.reduceEqDiff, reduceIte, qv_load, ld61, readN, List.getElem?_toArray, List.getElem?_cons_zero, List.getElem?_cons_succ, List.map_toArray, List.map_cons, List.map_nil, Option.map_some, Option.bind_some, Nat.zero_add, Nat.reduceAdd, e0, e1, e2, hB1.cell, hB2.cell, hB3.cell, hB4.cell, hB5.cell, hB10.cell]; rfl) ?_
      refine WL.store (by simp only [ev_tmp, ev_const, ev_func, set_get, Nat.reduceEqDiff, reduceIte, e0, e1, e2, hB1.cell, hB2.cell, hB3.cell, hB4.cell, hB5.cell, hB10.cell] <;> rfl) sz61 (by simp only [ev_tmp, ev_const, ev_func, set_get, Nat.reduceEqDiff, reduceIte, Value.cells, e0, e1, e2, hB1.cell, hB2.cell, hB3.cell, hB4.cell, hB5.cell, hB10.cell] <;> rfl) rfl hA3 (by first | (simp; done) | (simp; omega) | omega) (by simp [Value.oneCell']) ?_
      intro h11 hw11
      refine WL.store (by simp only [ev_tmp, ev_const, ev_func, set_get, Nat.reduceEqDiff, reduceIte, e0, e1, e2, hB1.cell, hB2.cell, hB3.cell, hB4.cell, hB5.cell, hB10.cell] <;> rfl) sz34 (by simp only [ev_tmp, ev_const, ev_func, set_get, Nat.reduceEqDiff, reduceIte, Value.cells, e0, e1, e2, hB1.cell, hB2.cell, hB3.cell, hB4.cell, hB5.cell, hB10.cell] <;> rfl) rfl (hA4.wr hw11 hne34) (by first | (simp; done) | (simp; omega) | omega) (by simp [Value.oneCell']) ?_
      intro h12 hw12
      refine WL.nil ?_
      refine th_norm ?_
      refine hx_ret ?_
      refine bl_ret ?_
      have hr10 : h12[h9.size + 1]? = h20[h9.size + 1]? := by rw [hw12.same _ (by omega), hw11.same _ (by omega)]
      have hd10 : h12[h9.size]? = some (.deferred (some [])) := by rw [hw12.same _ (by omega), hw11.same _ (by omega), hw20.same _ (by omega)]; exact heR _ _ hdR0
      refine ⟨_, (hr10.trans hw20.at_ : Rec h12 _ _), ?_⟩
      intro h30 hw30
      have hex : Ext h h12 := hw12.ext (hw11.ext (hw20.ext (Ext.trans (Ext.trans hE hxR0) heR) (by have := hE.size; omega)) hb3) hb4
      refine ⟨false, rfl, fun hh => (by cases hh), fun _ => ⟨y, hyi, ?_, ?_, hw30.at_, ?_, hw30.ext hex (by have := hE.size; omega)⟩⟩
      · have h9 := (hw11.at_.wr hw12 hne34.symm).wr hw30 (by omega); simpa [splc] using h9
      · have h9 := hw12.at_.wr hw30 (by omega); simpa [splc] using h9
      · rw [hw30.same _ (by omega)]; exact hd10
    ·
      rintro v0 h3 (⟨hz, heR⟩ | ⟨c, hc1, hA3, hA4, hr, hd, hex⟩)
      rotate_left
      · refine after_any hr rfl (.inr ⟨rfl, ?_⟩)
        intro h4 o hw4
        have hs4 := hE.size
        replace hA3 := hA3.wr hw4 (by omega)
        replace hA4 := hA4.wr hw4 (by omega)
        replace hex := hw4.ext hex (by omega)
        repeat (first | refine bl_ret ?_ | refine th_ret ?_)
        refine fin_mark (.inr rfl) [.cell 6 61, .cell 7 34] rfl rfl (by rw [hw4.same _ (by omega)]; exact hd) ?_
        intro h5 hw5
        replace hA3 := hA3.wr hw5 (by omega)
        replace hA4 := hA4.wr hw5 (by omega)
        rw [hc1] at hN
        cases hN
        exact ⟨[chgV n, .int .i64 0], by simp only [ev_tmp, ev_const, ev_func, set_get, Nat.reduceEqDiff, reduceIte, e0, e1, e2, hB1.cell, hB2.cell, hB3.cell, hB4.cell, hB5.cell, resv, ld61, ld34, readN, hA3.cell, hA4.cell, List.getElem?_toArray, List.getElem?_cons_zero, List.getElem?_cons_succ, Nat.zero_add, Nat.reduceAdd], rfl, hw5.ext hex (by omega)⟩
      rw [List.getElem?_eq_none (by omega)] at hN
      cases hN
      refine after_any (heR _ _ hrR0) (by subst hrec; rfl) (.inl ⟨by subst hrec; rfl, ?_⟩)
      intro h4 o hw4
      have hs4 := hE.size
      have hA3 := ((hB3.ext hxR0).ext heR).wr hw4 (by omega)
      have hA4 := ((hB4.ext hxR0).ext heR).wr hw4 (by omega)
      have hex : Ext h h4 := hw4.ext (Ext.trans (Ext.trans hE hxR0) heR) (by omega)
      have hd : h4[h9.size]? = some (.deferred (some [])) := by rw [hw4.same _ (by omega)]; exact heR _ _ hdR0
      refine bl_norm ?_
      refine th_norm ?_
      refine hx_seq ?_
      refine hx_region ?_
      refine WL.qq (by refine qv_bld (by simp only [ev_tmp, ev_const, ev_func, set_get, Nat.reduceEqDiff, reduceIte, List.getElem?_toArray, List.getElem?_cons_zero, List.getElem?_cons_succ, List.map_toArray, List.map_cons, List.map_nil, Option.map_some, Option.bind_some, e0, e1, e2, hB1.cell, hB2.cell, hB3.cell, hB4.cell, hB5.cell] <;> rfl) (by rw [bl61]; simp [Instr.fill, Value.cells]; rfl)) ?_
      refine WL.store (by simp only [ev_tmp, ev_const, ev_func, set_get, Nat.reduceEqDiff, reduceIte, e0, e1, e2, hB1.cell, hB2.cell, hB3.cell, hB4.cell, hB5.cell] <;> rfl) sz61 (by simp only [ev_tmp, ev_const, ev_func, set_get, Nat.reduceEqDiff, reduceIte, Value.cells, e0, e1, e2, hB1.cell, hB2.cell, hB3.cell, hB4.cell, hB5.cell] <;> rfl) rfl hA3 (by first | (simp; done) | (simp; omega) | omega) (by simp [Value.oneCell']) ?_
      intro h13 hw13
      refine WL.store (by simp only [ev_tmp, ev_const, ev_func, set_get, Nat.reduceEqDiff, reduceIte, e0, e1, e2, hB1.cell, hB2.cell, hB3.cell, hB4.cell, hB5.cell] <;> rfl) sz34 (by simp only [ev_tmp, ev_const, ev_func, set_get, Nat.reduceEqDiff, reduceIte, Value.cells, e0, e1, e2, hB1.cell, hB2.cell, hB3.cell, hB4.cell, hB5.cell] <;> rfl) rfl (hA4.wr hw13 hne34) (by first | (simp; done) | (simp; omega) | omega) (by simp [Value.oneCell']) ?_
      intro h14 hw14
      refine WL.nil ?_
      refine th_norm ?_
      refine hx_ret ?_
      refine fin_mark (.inr rfl) [.cell 6 61, .cell 7 34] rfl rfl (by rw [hw14.same _ (by omega), hw13.same _ (by omega)]; exact hd) ?_
      intro h5 hw5
      have hC3 := (hw13.at_.wr hw14 hne34.symm).wr hw5 (by omega)
      have hC4 := hw14.at_.wr hw5 (by omega)
      simp only [splc, List.take_zero, List.nil_append, List.take, List.drop, List.append_nil, List.length_cons, List.length_nil] at hC3 hC4
      exact ⟨[chgV (0, 0, 0), .int .i64 28], by simp only [ev_tmp, ev_const, ev_func, set_get, Nat.reduceEqDiff, reduceIte, e0, e1, e2, hB1.cell, hB2.cell, hB3.cell, hB4.cell, hB5.cell, resv, ld61, ld34, readN, hC3.cell, hC4.cell, List.getElem?_toArray, List.getElem?_cons_zero, List.getElem?_cons_succ, Nat.zero_add, Nat.reduceAdd], rfl, hw5.ext (hw14.ext (hw13.ext hex hb3) hb4) (by omega)⟩
/-- What the reference's Changes selects. -/
def selC (a u : Int × Int) (c : Chg) : Bool := (decide (a.1 < c.1) || decide (a.2 < c.2.1)) && (decide (c.1 < u.1) || decide (c.2.1 ≤ u.2))
def chgR (bus : Int → Bool) (s : List Int) (a u : Int × Int) : List Chg := (allF bus s a.1 (u.1 + 1 - a.1).toNat).filter (selC a u)
theorem chgR_len (bus : Int → Bool) (s : List Int) (a u : Int × Int) (ha : 0 ≤ a.1) (hu : u.1 ≤ 73048) : (chgR bus s a u).length ≤ 500000 := by
  have h1 := allF_len bus s (u.1 + 1 - a.1).toNat a.1
  have h2 : (chgR bus s a u).length ≤ (allF bus s a.1 (u.1 + 1 - a.1).toNat).length := List.length_filter_le _ _
  omega
theorem c_rchanges (s0 s1 s2 s3 s4 s5 d m d' m' : Int) (ha : 0 ≤ d) (hu : d' ≤ 73048) (hd5 : d ≤ 73049) (hd6 : -1 ≤ d') (wk hol : List Int) (a a' : Option Addr) (c c' : Nat) {R : List Chg} (hR : R = chgR (busM wk hol) [s0, s1, s2, s3, s4, s5] (d, m) (d', m')) {h : Heap} (hw : SlI h a wk) (hh : SlI h a' hol) (lw : wk.length ≤ 9223372036854775807) (lh : hol.length ≤ 9223372036854775807) :
    HCalls Try.prog 26 #[sch s0 s1 s2 s3 s4 s5, .agg #[.int .i64 d, .int .i64 m], .agg #[.int .i64 d', .int .i64 m'], .agg #[.slice a wk.length c, .slice a' hol.length c']] h
      fun v h' => Ext h h' ∧ Own h' h.size 64 3 v R.length (R.flatMap chgL) := by
  refine hcalls2 Try.func26 rfl (by decide +kernel) (by simp only [Try.ntmps26]; exact of_decide_eq_true rfl) ?_
  intro e hin
  have e0 := hin 0 _ rfl
  have e1 := hin 1 _ rfl
  have e2 := hin 2 _ rfl
  have e3 := hin 3 _ rfl
  have hRl : R.length ≤ 500000 := by rw [hR]; exact chgR_len _ _ _ _ ha hu
  refine hx_seq ?_
  refine hx_region ?_
  refine WL.box2 (by simp only [ev_tmp, ev_const, ev_func, set_get, Nat.reduceEqDiff, reduceIte, Value.cells, e0, e1, e2, e3]; rfl) ?_
  intro h1 B1 hx1 hlt1 hB1
  replace hw := hw.ext hx1
  replace hh := hh.ext hx1
  refine WL.box2 (by simp only [ev_tmp, ev_const, ev_func, set_get, Nat.reduceEqDiff, reduceIte, Value.cells, e0, e1, e2, e3, hB1.cell]; rfl) ?_
  intro h2 B2 hx2 hlt2 hB2
  replace hw := hw.ext hx2
  replace hh := hh.ext hx2
  replace hB1 := hB1.ext hx2
  refine WL.box2 (by simp only [ev_tmp, ev_const, ev_func, set_get, Nat.reduceEqDiff, reduceIte, Value.cells, e0, e1, e2, e3, hB1.cell, hB2.cell]; rfl) ?_
  intro h3 B3 hx3 hlt3 hB3
  replace hw := hw.ext hx3
  replace hh := hh.ext hx3
  replace hB1 := hB1.ext hx3
  replace hB2 := hB2.ext hx3
  refine WL.box2 (by simp only [ev_tmp, ev_const, ev_func, set_get, Nat.reduceEqDiff, reduceIte, Value.cells, e0, e1, e2, e3, hB1.cell, hB2.cell, hB3.cell]; rfl) ?_
  intro h4 B4 hx4 hlt4 hB4
  replace hw := hw.ext hx4
  replace hh := hh.ext hx4
  replace hB1 := hB1.ext hx4
  replace hB2 := hB2.ext hx4
  replace hB3 := hB3.ext hx4
  refine WL.qq (by simp only [ev_tmp, ev_const, ev_func, set_get, Nat.reduceEqDiff, reduceIte, qv_assign, e0, e1, e2, e3, hB1.cell, hB2.cell, hB3.cell, hB4.cell]; rfl) ?_
  refine WL.nil ?_
  refine th_norm ?_
  refine hx_seq ?_
  refine hx_region ?_
  have kB1 := hB1
  have kB2 := hB2
  have kB3 := hB3
  have kB4 := hB4
  have kw := hw
  have kh := hh
  have hE0 : Ext h h4 := ((hx1).trans ((hx2).trans ((hx3).trans (hx4))))
  refine WL.qq (by simp only [ev_tmp, ev_const, ev_func, set_get, Nat.reduceEqDiff, reduceIte, qv_assign, e0, e1, e2, e3, hB1.cell, hB2.cell, hB3.cell, hB4.cell]; rfl) ?_
  refine WL.nil ?_
  refine th_norm ?_
  refine hx_seq ?_
  refine hx_seq ?_
  refine hx_region ?_
  refine WL.qq (by simp only [ev_tmp, ev_const, ev_func, set_get, Nat.reduceEqDiff, reduceIte, qv_fieldAddr, fa41_0, Nat.zero_add, Nat.reduceAdd, e0, e1, e2, e3, hB1.cell, hB2.cell, hB3.cell, hB4.cell]; rfl) ?_
  refine WL.qq (by simp only [ev_tmp, ev_const, ev_func, set_get, Nat.reduceEqDiff, reduceIte, qv_load, ld3, readN, List.getElem?_toArray, List.getElem?_cons_zero, List.getElem?_cons_succ, List.map_toArray, List.map_cons, List.map_nil, Option.map_some, Option.bind_some, Nat.zero_add, Nat.reduceAdd, e0, e1, e2, e3, hB1.cell, hB2.cell, hB3.cell, hB4.cell]; rfl) ?_
  refine WL.qq (by simp only [ev_tmp, ev_const, ev_func, set_get, Nat.reduceEqDiff, reduceIte, qv_assign, e0, e1, e2, e3, hB1.cell, hB2.cell, hB3.cell, hB4.cell]; rfl) ?_
  refine WL.nil ?_
  refine th_norm ?_
  refine hx_block ?_
  refine hx_loopG [9, 10, 11, 12, 13, 16, 17, 18, 19, 20, 21, 22, 23, 24, 25, 26, 27, 28, 29, 30, 31, 32, 33, 34, 35, 36, 37, 38, 39, 40, 41, 42, 43, 44, 45, 46, 47, 48, 49, 50, 51, 52, 53, 54, 55, 56, 57, 58, 59, 60, 61, 62, 63, 64, 65, 66, 67, 68] (fun k e hL0 => ∃ (day : Int) (v : Value) (M : List Chg), (d' + 1 - day).toNat = k ∧ (Ext h4 hL0) ∧ (Own hL0 h4.size 64 3 v M.length (M.flatMap chgL)) ∧ (d ≤ day ∧ (day ≤ d' + 1 ∨ day = d)) ∧ (M ++ (allF (busM wk hol) [s0, s1, s2, s3, s4, s5] day (d' + 1 - day).toNat).filter (selC (d, m) (d', m')) = R) ∧ e 10 = .int .i64 day ∧ e 9 = v) _ ⟨d, .slice none 0 0, [], rfl, ?_, ?_, ?_, ?_, ?_, ?_⟩ ?_
  · exact Ext.refl _
  · exact Own.nil
  · exact ⟨by omega, .inr rfl⟩
  · rw [hR]; rfl
  · simp only [ev_tmp, ev_const, ev_func, set_get, Nat.reduceEqDiff, reduceIte, e0, e1, e2, e3, hB1.cell, hB2.cell, hB3.cell, hB4.cell] <;> rfl
  · simp only [ev_tmp, ev_const, ev_func, set_get, Nat.reduceEqDiff, reduceIte, e0, e1, e2, e3, hB1.cell, hB2.cell, hB3.cell, hB4.cell] <;> rfl
  ·
    rintro k e0L hL0 hfr0 ⟨day, v, M, rfl, hE4, ho, hday, hM, i10_0, i9_0⟩
    have k4_0 := hfr0 4 rfl; simp only [ev_tmp, ev_const, ev_func, set_get, Nat.reduceEqDiff, reduceIte, e0, e1, e2, e3, hB1.cell, hB2.cell, hB3.cell, hB4.cell] at k4_0
    have k5_0 := hfr0 5 rfl; simp only [ev_tmp, ev_const, ev_func, set_get, Nat.reduceEqDiff, reduceIte, e0, e1, e2, e3, hB1.cell, hB2.cell, hB3.cell, hB4.cell] at k5_0
    have k6_0 := hfr0 6 rfl; simp only [ev_tmp, ev_const, ev_func, set_get, Nat.reduceEqDiff, reduceIte, e0, e1, e2, e3, hB1.cell, hB2.cell, hB3.cell, hB4.cell] at k6_0
    have k7_0 := hfr0 7 rfl; simp only [ev_tmp, ev_const, ev_func, set_get, Nat.reduceEqDiff, reduceIte, e0, e1, e2, e3, hB1.cell, hB2.cell, hB3.cell, hB4.cell] at k7_0
    have k8_0 := hfr0 8 rfl; simp only [ev_tmp, ev_const, ev_func, set_get, Nat.reduceEqDiff, reduceIte, e0, e1, e2, e3, hB1.cell, hB2.cell, hB3.cell, hB4.cell] at k8_0
    have hB1 := kB1.ext hE4; have hB2 := kB2.ext hE4; have hB3 := kB3.ext hE4; have hB4 := kB4.ext hE4; have hw := kw.ext hE4; have hh := kh.ext hE4
    refine hx_seq ?_
    refine hx_seq ?_
    refine hx_region ?_
    refine WL.qq (by simp only [ev_tmp, ev_const, ev_func, set_get, Nat.reduceEqDiff, reduceIte, qv_move, k4_0, k5_0, k6_0, k7_0, k8_0, i10_0, i9_0, hB1.cell, hB2.cell, hB3.cell, hB4.cell, hB1.cell, hB2.cell, hB3.cell, hB4.cell]; rfl) ?_
    refine WL.qq (by simp only [ev_tmp, ev_const, ev_func, set_get, Nat.reduceEqDiff, reduceIte, qv_fieldAddr, fa41_0, Nat.zero_add, Nat.reduceAdd, k4_0, k5_0, k6_0, k7_0, k8_0, i10_0, i9_0, hB1.cell, hB2.cell, hB3.cell, hB4.cell, hB1.cell, hB2.cell, hB3.cell, hB4.cell]; rfl) ?_
    refine WL.qq (by simp only [ev_tmp, ev_const, ev_func, set_get, Nat.reduceEqDiff, reduceIte, qv_load, ld3, readN, List.getElem?_toArray, List.getElem?_cons_zero, List.getElem?_cons_succ, List.map_toArray, List.map_cons, List.map_nil, Option.map_some, Option.bind_some, Nat.zero_add, Nat.reduceAdd, k4_0, k5_0, k6_0, k7_0, k8_0, i10_0, i9_0, hB1.cell, hB2.cell, hB3.cell, hB4.cell, hB1.cell, hB2.cell, hB3.cell, hB4.cell]; rfl) ?_
    refine WL.qq (by simp only [ev_tmp, ev_const, ev_func, set_get, Nat.reduceEqDiff, reduceIte, qv_binOp, binv_leq, k4_0, k5_0, k6_0, k7_0, k8_0, i10_0, i9_0, hB1.cell, hB2.cell, hB3.cell, hB4.cell, hB1.cell, hB2.cell, hB3.cell, hB4.cell]; rfl) ?_
    refine WL.nil ?_
    refine th_norm ?_
    refine hx_cond (by simp only [ev_tmp, ev_const, ev_func, set_get, Nat.reduceEqDiff, reduceIte, k4_0, k5_0, k6_0, k7_0, k8_0, i10_0, i9_0, hB1.cell, hB2.cell, hB3.cell, hB4.cell, hB1.cell, hB2.cell, hB3.cell, hB4.cell]; rfl) (fun hct19 => ?_) (fun hct19 => ?_)
    ·
      try simp only [decide_eq_true_eq, decide_eq_false_iff_not, Bool.and_eq_true, Bool.and_eq_false_iff, Bool.or_eq_true, Bool.or_eq_false_iff, Bool.not_eq_true', Bool.not_eq_false', Bool.not_eq_true, Bool.not_eq_false] at hct19
      refine hx_skip ?_
      refine th_norm ?_
      refine hx_seq ?_
      refine hx_block ?_
      refine hx_seq ?_
      refine hx_seq ?_
      refine hx_region ?_
      refine WL.qq (by simp only [ev_tmp, ev_const, ev_func, set_get, Nat.reduceEqDiff, reduceIte, qv_load, ld27, readN, List.getElem?_toArray, List.getElem?_cons_zero, List.getElem?_cons_succ, List.map_toArray, List.map_cons, List.map_nil, Option.map_some, Option.bind_some, Nat.zero_add, Nat.reduceAdd, k4_0, k5_0, k6_0, k7_0, k8_0, i10_0, i9_0, hB1.cell, hB2.cell, hB3.cell, hB4.cell, hB1.cell, hB2.cell, hB3.cell, hB4.cell]; rfl) ?_
      refine WL.qq (by simp only [ev_tmp, ev_const, ev_func, set_get, Nat.reduceEqDiff, reduceIte, qv_move, k4_0, k5_0, k6_0, k7_0, k8_0, i10_0, i9_0, hB1.cell, hB2.cell, hB3.cell, hB4.cell, hB1.cell, hB2.cell, hB3.cell, hB4.cell]; rfl) ?_
      refine WL.cg Try.call21 (by simp only [ev_tmp, ev_const, ev_func, set_get, Nat.reduceEqDiff, reduceIte, List.getElem?_toArray, List.getElem?_cons_zero, List.getElem?_cons_succ, List.map_toArray, List.map_cons, List.map_nil, Option.map_some, Option.bind_some, k4_0, k5_0, k6_0, k7_0, k8_0, i10_0, i9_0, hB1.cell, hB2.cell, hB3.cell, hB4.cell, hB1.cell, hB2.cell, hB3.cell, hB4.cell]; exact c_ris wk hol _ _ _ _ day hw hh lw lh) ?_
      intro h5 hx5
      replace hB1 := hB1.ext hx5
      replace hB2 := hB2.ext hx5
      replace hB3 := hB3.ext hx5
      replace hB4 := hB4.ext hx5
      replace hw := hw.ext hx5
      replace hh := hh.ext hx5
      replace ho := ho.ext hx5
      replace hE4 := hE4.ext hx5
      refine WL.qq (by simp only [ev_tmp, ev_const, ev_func, set_get, Nat.reduceEqDiff, reduceIte, qv_unOp, unv_not, k4_0, k5_0, k6_0, k7_0, k8_0, i10_0, i9_0, hB1.cell, hB2.cell, hB3.cell, hB4.cell, hB1.cell, hB2.cell, hB3.cell, hB4.cell]; rfl) ?_
      refine WL.nil ?_
      refine th_norm ?_
      refine hx_cond (by simp only [ev_tmp, ev_const, ev_func, set_get, Nat.reduceEqDiff, reduceIte, k4_0, k5_0, k6_0, k7_0, k8_0, i10_0, i9_0, hB1.cell, hB2.cell, hB3.cell, hB4.cell, hB1.cell, hB2.cell, hB3.cell, hB4.cell]; rfl) (fun hct25 => ?_) (fun hct25 => ?_)
      ·
        try simp only [decide_eq_true_eq, decide_eq_false_iff_not, Bool.and_eq_true, Bool.and_eq_false_iff, Bool.or_eq_true, Bool.or_eq_false_iff, Bool.not_eq_true', Bool.not_eq_false', Bool.not_eq_true, Bool.not_eq_false] at hct25
        refine hx_exit ?_
        refine th_exit ?_
        refine bl_hit ?_
        refine th_norm ?_
        refine hx_region ?_
        refine WL.qq (by simp only [ev_tmp, ev_const, ev_func, set_get, Nat.reduceEqDiff, reduceIte, qv_move, k4_0, k5_0, k6_0, k7_0, k8_0, i10_0, i9_0, hB1.cell, hB2.cell, hB3.cell, hB4.cell, hB1.cell, hB2.cell, hB3.cell, hB4.cell]; rfl) ?_
        refine WL.qq (by simp only [ev_tmp, ev_const, ev_func, set_get, Nat.reduceEqDiff, reduceIte, qv_binOp, binv_add, k4_0, k5_0, k6_0, k7_0, k8_0, i10_0, i9_0, hB1.cell, hB2.cell, hB3.cell, hB4.cell, hB1.cell, hB2.cell, hB3.cell, hB4.cell]; (try simp (disch := omega) only [w64, w8, wu64]); rfl) ?_
        refine WL.qq (by simp only [ev_tmp, ev_const, ev_func, set_get, Nat.reduceEqDiff, reduceIte, qv_assign, k4_0, k5_0, k6_0, k7_0, k8_0, i10_0, i9_0, hB1.cell, hB2.cell, hB3.cell, hB4.cell, hB1.cell, hB2.cell, hB3.cell, hB4.cell]; rfl) ?_
        refine WL.nil ?_
        refine th_norm ?_
        refine ⟨rfl, ?_, _, ?_, day + 1, v, M, rfl, ?_, ?_, ?_, ?_, ?_, ?_⟩  -- again 0 of loop 0
        · (repeat (first | exact Fr.refl _ _ | refine Fr.set rfl ?_ | refine Fr.put rfl ?_ | refine Fr.put0 ?_))
        · omega
        · exact hE4
        · exact ho
        · exact ⟨by omega, .inl (by omega)⟩
        · rw [← hM]; congr 2; have e1 : (d' + 1 - day).toNat = (d' + 1 - (day + 1)).toNat + 1 := (by omega); rw [e1, allF, hct25]; rfl
        · simp only [ev_tmp, ev_const, ev_func, set_get, Nat.reduceEqDiff, reduceIte, k4_0, k5_0, k6_0, k7_0, k8_0, i10_0, i9_0, hB1.cell, hB2.cell, hB3.cell, hB4.cell, hB1.cell, hB2.cell, hB3.cell, hB4.cell] <;> first | rfl | (congr 1; omega)
        · simp only [ev_tmp, ev_const, ev_func, set_get, Nat.reduceEqDiff, reduceIte, k4_0, k5_0, k6_0, k7_0, k8_0, i10_0, i9_0, hB1.cell, hB2.cell, hB3.cell, hB4.cell, hB1.cell, hB2.cell, hB3.cell, hB4.cell] <;> first | rfl | (congr 1; omega)
      ·
        try simp only [decide_eq_true_eq, decide_eq_false_iff_not, Bool.and_eq_true, Bool.and_eq_false_iff, Bool.or_eq_true, Bool.or_eq_false_iff, Bool.not_eq_true', Bool.not_eq_false', Bool.not_eq_true, Bool.not_eq_false] at hct25
        rw [allF_at _ _ _ _ hct25 (by omega), show (d' + 1 - day).toNat - 1 = (d' + 1 - (day + 1)).toNat by omega] at hM
        refine hx_skip ?_
        refine th_norm ?_
        refine hx_seq ?_
        refine hx_region ?_
        refine WL.qq (by simp only [ev_tmp, ev_const, ev_func, set_get, Nat.reduceEqDiff, reduceIte, qv_assign, k4_0, k5_0, k6_0, k7_0, k8_0, i10_0, i9_0, hB1.cell, hB2.cell, hB3.cell, hB4.cell, hB1.cell, hB2.cell, hB3.cell, hB4.cell]; rfl) ?_
        refine WL.nil ?_
        refine th_norm ?_
        refine hx_block ?_
        refine hx_loopG [9, 11, 12, 13, 26, 27, 28, 29, 30, 31, 32, 33, 34, 35, 36, 37, 38, 39, 40, 41, 42, 43, 44, 45, 46, 47, 48, 49, 50, 51, 52, 53, 54, 55, 56, 57, 58, 59, 60, 61, 62, 63, 64, 65, 66, 67, 68] (fun k e hL1 => ∃ (i : Nat) (v : Value) (M : List Chg), 6 - i = k ∧ (Ext h4 hL1) ∧ (Own hL1 h4.size 64 3 v M.length (M.flatMap chgL)) ∧ (i ≤ 6) ∧ (M ++ ((day6 [s0, s1, s2, s3, s4, s5] day).drop i ++ allF (busM wk hol) [s0, s1, s2, s3, s4, s5] (day + 1) (d' + 1 - (day + 1)).toNat).filter (selC (d, m) (d', m')) = R) ∧ e 11 = .int .i64 i ∧ e 9 = v) _ ⟨0, v, M, rfl, ?_, ?_, ?_, ?_, ?_, ?_⟩ ?_
        · exact hE4
        · exact ho
        · omega
        · exact hM
        · simp only [ev_tmp, ev_const, ev_func, set_get, Nat.reduceEqDiff, reduceIte, k4_0, k5_0, k6_0, k7_0, k8_0, i10_0, i9_0, hB1.cell, hB2.cell, hB3.cell, hB4.cell, hB1.cell, hB2.cell, hB3.cell, hB4.cell] <;> rfl
        · simp only [ev_tmp, ev_const, ev_func, set_get, Nat.reduceEqDiff, reduceIte, k4_0, k5_0, k6_0, k7_0, k8_0, i10_0, i9_0, hB1.cell, hB2.cell, hB3.cell, hB4.cell, hB1.cell, hB2.cell, hB3.cell, hB4.cell] <;> exact i9_0
        ·
          rintro k e1L hL1 hfr1 ⟨i, v, M, rfl, hE4, ho, hi, hM, i11_1, i9_1⟩
          have k4_1 := hfr1 4 rfl; simp only [ev_tmp, ev_const, ev_func, set_get, Nat.reduceEqDiff, reduceIte, k4_0, k5_0, k6_0, k7_0, k8_0, i10_0, i9_0, hB1.cell, hB2.cell, hB3.cell, hB4.cell, hB1.cell, hB2.cell, hB3.cell, hB4.cell] at k4_1
          have k5_1 := hfr1 5 rfl; simp only [ev_tmp, ev_const, ev_func, set_get, Nat.reduceEqDiff, reduceIte, k4_0, k5_0, k6_0, k7_0, k8_0, i10_0, i9_0, hB1.cell, hB2.cell, hB3.cell, hB4.cell, hB1.cell, hB2.cell, hB3.cell, hB4.cell] at k5_1
          have k6_1 := hfr1 6 rfl; simp only [ev_tmp, ev_const, ev_func, set_get, Nat.reduceEqDiff, reduceIte, k4_0, k5_0, k6_0, k7_0, k8_0, i10_0, i9_0, hB1.cell, hB2.cell, hB3.cell, hB4.cell, hB1.cell, hB2.cell, hB3.cell, hB4.cell] at k6_1
          have k7_1 := hfr1 7 rfl; simp only [ev_tmp, ev_const, ev_func, set_get, Nat.reduceEqDiff, reduceIte, k4_0, k5_0, k6_0, k7_0, k8_0, i10_0, i9_0, hB1.cell, hB2.cell, hB3.cell, hB4.cell, hB1.cell, hB2.cell, hB3.cell, hB4.cell] at k7_1
          have k8_1 := hfr1 8 rfl; simp only [ev_tmp, ev_const, ev_func, set_get, Nat.reduceEqDiff, reduceIte, k4_0, k5_0, k6_0, k7_0, k8_0, i10_0, i9_0, hB1.cell, hB2.cell, hB3.cell, hB4.cell, hB1.cell, hB2.cell, hB3.cell, hB4.cell] at k8_1
          have k10_1 := hfr1 10 rfl; simp only [ev_tmp, ev_const, ev_func, set_get, Nat.reduceEqDiff, reduceIte, k4_0, k5_0, k6_0, k7_0, k8_0, i10_0, i9_0, hB1.cell, hB2.cell, hB3.cell, hB4.cell, hB1.cell, hB2.cell, hB3.cell, hB4.cell] at k10_1
          have k16_1 := hfr1 16 rfl; simp only [ev_tmp, ev_const, ev_func, set_get, Nat.reduceEqDiff, reduceIte, k4_0, k5_0, k6_0, k7_0, k8_0, i10_0, i9_0, hB1.cell, hB2.cell, hB3.cell, hB4.cell, hB1.cell, hB2.cell, hB3.cell, hB4.cell] at k16_1
          have k17_1 := hfr1 17 rfl; simp only [ev_tmp, ev_const, ev_func, set_get, Nat.reduceEqDiff, reduceIte, k4_0, k5_0, k6_0, k7_0, k8_0, i10_0, i9_0, hB1.cell, hB2.cell, hB3.cell, hB4.cell, hB1.cell, hB2.cell, hB3.cell, hB4.cell] at k17_1
          have k18_1 := hfr1 18 rfl; simp only [ev_tmp, ev_const, ev_func, set_get, Nat.reduceEqDiff, reduceIte, k4_0, k5_0, k6_0, k7_0, k8_0, i10_0, i9_0, hB1.cell, hB2.cell, hB3.cell, hB4.cell, hB1.cell, hB2.cell, hB3.cell, hB4.cell] at k18_1
          have k19_1 := hfr1 19 rfl; simp only [ev_tmp, ev_const, ev_func, set_get, Nat.reduceEqDiff, reduceIte, k4_0, k5_0, k6_0, k7_0, k8_0, i10_0, i9_0, hB1.cell, hB2.cell, hB3.cell, hB4.cell, hB1.cell, hB2.cell, hB3.cell, hB4.cell] at k19_1
          have k22_1 := hfr1 22 rfl; simp only [ev_tmp, ev_const, ev_func, set_get, Nat.reduceEqDiff, reduceIte, k4_0, k5_0, k6_0, k7_0, k8_0, i10_0, i9_0, hB1.cell, hB2.cell, hB3.cell, hB4.cell, hB1.cell, hB2.cell, hB3.cell, hB4.cell] at k22_1
          have k23_1 := hfr1 23 rfl; simp only [ev_tmp, ev_const, ev_func, set_get, Nat.reduceEqDiff, reduceIte, k4_0, k5_0, k6_0, k7_0, k8_0, i10_0, i9_0, hB1.cell, hB2.cell, hB3.cell, hB4.cell, hB1.cell, hB2.cell, hB3.cell, hB4.cell] at k23_1
          have k24_1 := hfr1 24 rfl; simp only [ev_tmp, ev_const, ev_func, set_get, Nat.reduceEqDiff, reduceIte, k4_0, k5_0, k6_0, k7_0, k8_0, i10_0, i9_0, hB1.cell, hB2.cell, hB3.cell, hB4.cell, hB1.cell, hB2.cell, hB3.cell, hB4.cell] at k24_1
          have k25_1 := hfr1 25 rfl; simp only [ev_tmp, ev_const, ev_func, set_get, Nat.reduceEqDiff, reduceIte, k4_0, k5_0, k6_0, k7_0, k8_0, i10_0, i9_0, hB1.cell, hB2.cell, hB3.cell, hB4.cell, hB1.cell, hB2.cell, hB3.cell, hB4.cell] at k25_1
          have hB1 := kB1.ext hE4; have hB2 := kB2.ext hE4; have hB3 := kB3.ext hE4; have hB4 := kB4.ext hE4; have hw := kw.ext hE4; have hh := kh.ext hE4
          refine hx_seq ?_
          refine hx_seq ?_
          refine hx_region ?_
          refine WL.qq (by simp only [ev_tmp, ev_const, ev_func, set_get, Nat.reduceEqDiff, reduceIte, qv_move, k4_1, k5_1, k6_1, k7_1, k8_1, k10_1, k16_1, k17_1, k18_1, k19_1, k22_1, k23_1, k24_1, k25_1, i11_1, i9_1, hB1.cell, hB2.cell, hB3.cell, hB4.cell, hB1.cell, hB2.cell, hB3.cell, hB4.cell, hB1.cell, hB2.cell, hB3.cell, hB4.cell]; rfl) ?_
          refine WL.qq (by simp only [ev_tmp, ev_const, ev_func, set_get, Nat.reduceEqDiff, reduceIte, qv_binOp, binv_lss, k4_1, k5_1, k6_1, k7_1, k8_1, k10_1, k16_1, k17_1, k18_1, k19_1, k22_1, k23_1, k24_1, k25_1, i11_1, i9_1, hB1.cell, hB2.cell, hB3.cell, hB4.cell, hB1.cell, hB2.cell, hB3.cell, hB4.cell, hB1.cell, hB2.cell, hB3.cell, hB4.cell]; rfl) ?_
          refine WL.nil ?_
          refine th_norm ?_
          refine hx_cond (by simp only [ev_tmp, ev_const, ev_func, set_get, Nat.reduceEqDiff, reduceIte, k4_1, k5_1, k6_1, k7_1, k8_1, k10_1, k16_1, k17_1, k18_1, k19_1, k22_1, k23_1, k24_1, k25_1, i11_1, i9_1, hB1.cell, hB2.cell, hB3.cell, hB4.cell, hB1.cell, hB2.cell, hB3.cell, hB4.cell, hB1.cell, hB2.cell, hB3.cell, hB4.cell]; rfl) (fun hct27 => ?_) (fun hct27 => ?_)
          ·
            try simp only [decide_eq_true_eq, decide_eq_false_iff_not, Bool.and_eq_true, Bool.and_eq_false_iff, Bool.or_eq_true, Bool.or_eq_false_iff, Bool.not_eq_true', Bool.not_eq_false', Bool.not_eq_true, Bool.not_eq_false] at hct27
            obtain ⟨x, hm⟩ : ∃ m, [s0, s1, s2, s3, s4, s5][i]? = some m := ⟨[s0, s1, s2, s3, s4, s5][i]'(by simp; omega), by simp⟩
            rw [day6_drop (by omega) hm, List.cons_append, List.filter_cons] at hM
            refine hx_skip ?_
            refine th_norm ?_
            refine hx_seq ?_
            refine hx_block ?_
            refine hx_seq ?_
            apply hx_draw2 Rel.same [] [] [] rfl (by decide +kernel) rfl
            refine LD.qq rfl rfl (by simp only [ev_tmp, ev_const, ev_func, set_get, Nat.reduceEqDiff, reduceIte, qv_move, k4_1, k5_1, k6_1, k7_1, k8_1, k10_1, k16_1, k17_1, k18_1, k19_1, k22_1, k23_1, k24_1, k25_1, i11_1, i9_1, hB1.cell, hB2.cell, hB3.cell, hB4.cell, hB1.cell, hB2.cell, hB3.cell, hB4.cell, hB1.cell, hB2.cell, hB3.cell, hB4.cell]; rfl) ?_
            refine LD.qq rfl rfl (by simp only [ev_tmp, ev_const, ev_func, set_get, Nat.reduceEqDiff, reduceIte, qv_fieldAddr, fa41_0, Nat.zero_add, Nat.reduceAdd, k4_1, k5_1, k6_1, k7_1, k8_1, k10_1, k16_1, k17_1, k18_1, k19_1, k22_1, k23_1, k24_1, k25_1, i11_1, i9_1, hB1.cell, hB2.cell, hB3.cell, hB4.cell, hB1.cell, hB2.cell, hB3.cell, hB4.cell, hB1.cell, hB2.cell, hB3.cell, hB4.cell]; rfl) ?_
            refine LD.qq rfl rfl (by simp only [ev_tmp, ev_const, ev_func, set_get, Nat.reduceEqDiff, reduceIte, qv_load, ld3, readN, List.getElem?_toArray, List.getElem?_cons_zero, List.getElem?_cons_succ, List.map_toArray, List.map_cons, List.map_nil, Option.map_some, Option.bind_some, Nat.zero_add, Nat.reduceAdd, k4_1, k5_1, k6_1, k7_1, k8_1, k10_1, k16_1, k17_1, k18_1, k19_1, k22_1, k23_1, k24_1, k25_1, i11_1, i9_1, hB1.cell, hB2.cell, hB3.cell, hB4.cell, hB1.cell, hB2.cell, hB3.cell, hB4.cell, hB1.cell, hB2.cell, hB3.cell, hB4.cell]; rfl) ?_
            refine LD.qq rfl rfl (by simp only [ev_tmp, ev_const, ev_func, set_get, Nat.reduceEqDiff, reduceIte, qv_binOp, binv_gtr, k4_1, k5_1, k6_1, k7_1, k8_1, k10_1, k16_1, k17_1, k18_1, k19_1, k22_1, k23_1, k24_1, k25_1, i11_1, i9_1, hB1.cell, hB2.cell, hB3.cell, hB4.cell, hB1.cell, hB2.cell, hB3.cell, hB4.cell, hB1.cell, hB2.cell, hB3.cell, hB4.cell]; rfl) ?_
            refine LD.qq rfl rfl (by simp only [ev_tmp, ev_const, ev_func, set_get, Nat.reduceEqDiff, reduceIte, qv_move, k4_1, k5_1, k6_1, k7_1, k8_1, k10_1, k16_1, k17_1, k18_1, k19_1, k22_1, k23_1, k24_1, k25_1, i11_1, i9_1, hB1.cell, hB2.cell, hB3.cell, hB4.cell, hB1.cell, hB2.cell, hB3.cell, hB4.cell, hB1.cell, hB2.cell, hB3.cell, hB4.cell]; rfl) ?_
            refine LD.cq rfl rfl (gd_at (t := 34) rfl (by simp only [ev_tmp, ev_const, ev_func, set_get, Nat.reduceEqDiff, reduceIte, k4_1, k5_1, k6_1, k7_1, k8_1, k10_1, k16_1, k17_1, k18_1, k19_1, k22_1, k23_1, k24_1, k25_1, i11_1, i9_1, hB1.cell, hB2.cell, hB3.cell, hB4.cell, hB1.cell, hB2.cell, hB3.cell, hB4.cell, hB1.cell, hB2.cell, hB3.cell, hB4.cell]; rfl)) (fun hg9_5 => by simp only [ev_tmp, ev_const, ev_func, set_get, Nat.reduceEqDiff, reduceIte, qv_move, k4_1, k5_1, k6_1, k7_1, k8_1, k10_1, k16_1, k17_1, k18_1, k19_1, k22_1, k23_1, k24_1, k25_1, i11_1, i9_1, hB1.cell, hB2.cell, hB3.cell, hB4.cell, hB1.cell, hB2.cell, hB3.cell, hB4.cell, hB1.cell, hB2.cell, hB3.cell, hB4.cell, hg9_5, Bool.false_eq_true, Bool.true_eq_false, eq_self, if_true, if_false, true_and, and_true, false_and, and_false]; rfl) ?_
            refine LD.cq rfl rfl (gd_at (t := 34) rfl (by simp only [ev_tmp, ev_const, ev_func, set_get, Nat.reduceEqDiff, reduceIte, k4_1, k5_1, k6_1, k7_1, k8_1, k10_1, k16_1, k17_1, k18_1, k19_1, k22_1, k23_1, k24_1, k25_1, i11_1, i9_1, hB1.cell, hB2.cell, hB3.cell, hB4.cell, hB1.cell, hB2.cell, hB3.cell, hB4.cell, hB1.cell, hB2.cell, hB3.cell, hB4.cell]; rfl)) (fun hg9_6 => by simp only [ev_tmp, ev_const, ev_func, set_get, Nat.reduceEqDiff, reduceIte, k4_1, k5_1, k6_1, k7_1, k8_1, k10_1, k16_1, k17_1, k18_1, k19_1, k22_1, k23_1, k24_1, k25_1, i11_1, i9_1, hB1.cell, hB2.cell, hB3.cell, hB4.cell, hB1.cell, hB2.cell, hB3.cell, hB4.cell, hB1.cell, hB2.cell, hB3.cell, hB4.cell, qv_indexAddr, Bool.false_eq_true, Bool.true_eq_false, eq_self, if_true, if_false, true_and, and_true, false_and, and_false, hg9_6]; exact ix86 _ _ _ _ (by omega) (by omega)) ?_
            refine LD.cq rfl rfl (gd_at (t := 34) rfl (by simp only [ev_tmp, ev_const, ev_func, set_get, Nat.reduceEqDiff, reduceIte, k4_1, k5_1, k6_1, k7_1, k8_1, k10_1, k16_1, k17_1, k18_1, k19_1, k22_1, k23_1, k24_1, k25_1, i11_1, i9_1, hB1.cell, hB2.cell, hB3.cell, hB4.cell, hB1.cell, hB2.cell, hB3.cell, hB4.cell, hB1.cell, hB2.cell, hB3.cell, hB4.cell]; rfl)) (fun hg9_7 => by simp only [ev_tmp, ev_const, ev_func, set_get, Nat.reduceEqDiff, reduceIte, k4_1, k5_1, k6_1, k7_1, k8_1, k10_1, k16_1, k17_1, k18_1, k19_1, k22_1, k23_1, k24_1, k25_1, i11_1, i9_1, hB1.cell, hB2.cell, hB3.cell, hB4.cell, hB1.cell, hB2.cell, hB3.cell, hB4.cell, hB1.cell, hB2.cell, hB3.cell, hB4.cell, qv_load, ld3, Int.toNat_natCast, Nat.zero_add, at6 hm, Bool.false_eq_true, Bool.true_eq_false, eq_self, if_true, if_false, true_and, and_true, false_and, and_false, hg9_7]; rfl) ?_
            refine LD.cq rfl rfl (gd_at (t := 34) rfl (by simp only [ev_tmp, ev_const, ev_func, set_get, Nat.reduceEqDiff, reduceIte, k4_1, k5_1, k6_1, k7_1, k8_1, k10_1, k16_1, k17_1, k18_1, k19_1, k22_1, k23_1, k24_1, k25_1, i11_1, i9_1, hB1.cell, hB2.cell, hB3.cell, hB4.cell, hB1.cell, hB2.cell, hB3.cell, hB4.cell, hB1.cell, hB2.cell, hB3.cell, hB4.cell]; rfl)) (fun hg9_8 => by simp only [ev_tmp, ev_const, ev_func, set_get, Nat.reduceEqDiff, reduceIte, qv_fieldAddr, fa41_1, Nat.zero_add, Nat.reduceAdd, k4_1, k5_1, k6_1, k7_1, k8_1, k10_1, k16_1, k17_1, k18_1, k19_1, k22_1, k23_1, k24_1, k25_1, i11_1, i9_1, hB1.cell, hB2.cell, hB3.cell, hB4.cell, hB1.cell, hB2.cell, hB3.cell, hB4.cell, hB1.cell, hB2.cell, hB3.cell, hB4.cell, hg9_8, Bool.false_eq_true, Bool.true_eq_false, eq_self, if_true, if_false, true_and, and_true, false_and, and_false]; rfl) ?_
            refine LD.cq rfl rfl (gd_at (t := 34) rfl (by simp only [ev_tmp, ev_const, ev_func, set_get, Nat.reduceEqDiff, reduceIte, k4_1, k5_1, k6_1, k7_1, k8_1, k10_1, k16_1, k17_1, k18_1, k19_1, k22_1, k23_1, k24_1, k25_1, i11_1, i9_1, hB1.cell, hB2.cell, hB3.cell, hB4.cell, hB1.cell, hB2.cell, hB3.cell, hB4.cell, hB1.cell, hB2.cell, hB3.cell, hB4.cell]; rfl)) (fun hg9_9 => by simp only [ev_tmp, ev_const, ev_func, set_get, Nat.reduceEqDiff, reduceIte, qv_load, ld3, readN, List.getElem?_toArray, List.getElem?_cons_zero, List.getElem?_cons_succ, List.map_toArray, List.map_cons, List.map_nil, Option.map_some, Option.bind_some, Nat.zero_add, Nat.reduceAdd, k4_1, k5_1, k6_1, k7_1, k8_1, k10_1, k16_1, k17_1, k18_1, k19_1, k22_1, k23_1, k24_1, k25_1, i11_1, i9_1, hB1.cell, hB2.cell, hB3.cell, hB4.cell, hB1.cell, hB2.cell, hB3.cell, hB4.cell, hB1.cell, hB2.cell, hB3.cell, hB4.cell, hg9_9, Bool.false_eq_true, Bool.true_eq_false, eq_self, if_true, if_false, true_and, and_true, false_and, and_false]; rfl) ?_
            refine LD.cq rfl rfl (gd_at (t := 34) rfl (by simp only [ev_tmp, ev_const, ev_func, set_get, Nat.reduceEqDiff, reduceIte, k4_1, k5_1, k6_1, k7_1, k8_1, k10_1, k16_1, k17_1, k18_1, k19_1, k22_1, k23_1, k24_1, k25_1, i11_1, i9_1, hB1.cell, hB2.cell, hB3.cell, hB4.cell, hB1.cell, hB2.cell, hB3.cell, hB4.cell, hB1.cell, hB2.cell, hB3.cell, hB4.cell]; rfl)) (fun hg9_10 => by simp only [ev_tmp, ev_const, ev_func, set_get, Nat.reduceEqDiff, reduceIte, qv_binOp, binv_gtr, k4_1, k5_1, k6_1, k7_1, k8_1, k10_1, k16_1, k17_1, k18_1, k19_1, k22_1, k23_1, k24_1, k25_1, i11_1, i9_1, hB1.cell, hB2.cell, hB3.cell, hB4.cell, hB1.cell, hB2.cell, hB3.cell, hB4.cell, hB1.cell, hB2.cell, hB3.cell, hB4.cell, hg9_10, Bool.false_eq_true, Bool.true_eq_false, eq_self, if_true, if_false, true_and, and_true, false_and, and_false]; rfl) ?_
            refine LD.qq rfl rfl (by simp only [ev_tmp, ev_const, ev_func, set_get, Nat.reduceEqDiff, reduceIte, qv_pick, pk_and, pk_or, Bool.false_eq_true, Bool.true_eq_false, eq_self, if_true, if_false, true_and, and_true, false_and, and_false, k4_1, k5_1, k6_1, k7_1, k8_1, k10_1, k16_1, k17_1, k18_1, k19_1, k22_1, k23_1, k24_1, k25_1, i11_1, i9_1, hB1.cell, hB2.cell, hB3.cell, hB4.cell, hB1.cell, hB2.cell, hB3.cell, hB4.cell, hB1.cell, hB2.cell, hB3.cell, hB4.cell]; rfl) ?_
            refine LD.qq rfl rfl (by simp only [ev_tmp, ev_const, ev_func, set_get, Nat.reduceEqDiff, reduceIte, qv_assign, k4_1, k5_1, k6_1, k7_1, k8_1, k10_1, k16_1, k17_1, k18_1, k19_1, k22_1, k23_1, k24_1, k25_1, i11_1, i9_1, hB1.cell, hB2.cell, hB3.cell, hB4.cell, hB1.cell, hB2.cell, hB3.cell, hB4.cell, hB1.cell, hB2.cell, hB3.cell, hB4.cell]; rfl) ?_
            refine LD.nil ?_
            rintro _ rfl -
            refine WL.nil ?_
            refine th_norm ?_
            refine hx_seq ?_
            apply hx_draw2 Rel.same [] [] [] rfl (by decide +kernel) rfl
            refine LD.qq rfl rfl (by simp only [ev_tmp, ev_const, ev_func, set_get, Nat.reduceEqDiff, reduceIte, qv_move, k4_1, k5_1, k6_1, k7_1, k8_1, k10_1, k16_1, k17_1, k18_1, k19_1, k22_1, k23_1, k24_1, k25_1, i11_1, i9_1, hB1.cell, hB2.cell, hB3.cell, hB4.cell, hB1.cell, hB2.cell, hB3.cell, hB4.cell, hB1.cell, hB2.cell, hB3.cell, hB4.cell]; rfl) ?_
            refine LD.qq rfl rfl (by simp only [ev_tmp, ev_const, ev_func, set_get, Nat.reduceEqDiff, reduceIte, qv_fieldAddr, fa41_0, Nat.zero_add, Nat.reduceAdd, k4_1, k5_1, k6_1, k7_1, k8_1, k10_1, k16_1, k17_1, k18_1, k19_1, k22_1, k23_1, k24_1, k25_1, i11_1, i9_1, hB1.cell, hB2.cell, hB3.cell, hB4.cell, hB1.cell, hB2.cell, hB3.cell, hB4.cell, hB1.cell, hB2.cell, hB3.cell, hB4.cell]; rfl) ?_
            refine LD.qq rfl rfl (by simp only [ev_tmp, ev_const, ev_func, set_get, Nat.reduceEqDiff, reduceIte, qv_load, ld3, readN, List.getElem?_toArray, List.getElem?_cons_zero, List.getElem?_cons_succ, List.map_toArray, List.map_cons, List.map_nil, Option.map_some, Option.bind_some, Nat.zero_add, Nat.reduceAdd, k4_1, k5_1, k6_1, k7_1, k8_1, k10_1, k16_1, k17_1, k18_1, k19_1, k22_1, k23_1, k24_1, k25_1, i11_1, i9_1, hB1.cell, hB2.cell, hB3.cell, hB4.cell, hB1.cell, hB2.cell, hB3.cell, hB4.cell, hB1.cell, hB2.cell, hB3.cell, hB4.cell]; rfl) ?_
            refine LD.qq rfl rfl (by simp only [ev_tmp, ev_const, ev_func, set_get, Nat.reduceEqDiff, reduceIte, qv_binOp, binv_lss, k4_1, k5_1, k6_1, k7_1, k8_1, k10_1, k16_1, k17_1, k18_1, k19_1, k22_1, k23_1, k24_1, k25_1, i11_1, i9_1, hB1.cell, hB2.cell, hB3.cell, hB4.cell, hB1.cell, hB2.cell, hB3.cell, hB4.cell, hB1.cell, hB2.cell, hB3.cell, hB4.cell]; rfl) ?_
            refine LD.qq rfl rfl (by simp only [ev_tmp, ev_const, ev_func, set_get, Nat.reduceEqDiff, reduceIte, qv_move, k4_1, k5_1, k6_1, k7_1, k8_1, k10_1, k16_1, k17_1, k18_1, k19_1, k22_1, k23_1, k24_1, k25_1, i11_1, i9_1, hB1.cell, hB2.cell, hB3.cell, hB4.cell, hB1.cell, hB2.cell, hB3.cell, hB4.cell, hB1.cell, hB2.cell, hB3.cell, hB4.cell]; rfl) ?_
            refine LD.cq rfl rfl (gd_at (t := 46) rfl (by simp only [ev_tmp, ev_const, ev_func, set_get, Nat.reduceEqDiff, reduceIte, k4_1, k5_1, k6_1, k7_1, k8_1, k10_1, k16_1, k17_1, k18_1, k19_1, k22_1, k23_1, k24_1, k25_1, i11_1, i9_1, hB1.cell, hB2.cell, hB3.cell, hB4.cell, hB1.cell, hB2.cell, hB3.cell, hB4.cell, hB1.cell, hB2.cell, hB3.cell, hB4.cell]; rfl)) (fun hg10_5 => by simp only [ev_tmp, ev_const, ev_func, set_get, Nat.reduceEqDiff, reduceIte, qv_move, k4_1, k5_1, k6_1, k7_1, k8_1, k10_1, k16_1, k17_1, k18_1, k19_1, k22_1, k23_1, k24_1, k25_1, i11_1, i9_1, hB1.cell, hB2.cell, hB3.cell, hB4.cell, hB1.cell, hB2.cell, hB3.cell, hB4.cell, hB1.cell, hB2.cell, hB3.cell, hB4.cell, hg10_5, Bool.false_eq_true, Bool.true_eq_false, eq_self, if_true, if_false, true_and, and_true, false_and, and_false]; rfl) ?_
            refine LD.cq rfl rfl (gd_at (t := 46) rfl (by simp only [ev_tmp, ev_const, ev_func, set_get, Nat.reduceEqDiff, reduceIte, k4_1, k5_1, k6_1, k7_1, k8_1, k10_1, k16_1, k17_1, k18_1, k19_1, k22_1, k23_1, k24_1, k25_1, i11_1, i9_1, hB1.cell, hB2.cell, hB3.cell, hB4.cell, hB1.cell, hB2.cell, hB3.cell, hB4.cell, hB1.cell, hB2.cell, hB3.cell, hB4.cell]; rfl)) (fun hg10_6 => by simp only [ev_tmp, ev_const, ev_func, set_get, Nat.reduceEqDiff, reduceIte, k4_1, k5_1, k6_1, k7_1, k8_1, k10_1, k16_1, k17_1, k18_1, k19_1, k22_1, k23_1, k24_1, k25_1, i11_1, i9_1, hB1.cell, hB2.cell, hB3.cell, hB4.cell, hB1.cell, hB2.cell, hB3.cell, hB4.cell, hB1.cell, hB2.cell, hB3.cell, hB4.cell, qv_indexAddr, Bool.false_eq_true, Bool.true_eq_false, eq_self, if_true, if_false, true_and, and_true, false_and, and_false, hg10_6]; exact ix86 _ _ _ _ (by omega) (by omega)) ?_
            refine LD.cq rfl rfl (gd_at (t := 46) rfl (by simp only [ev_tmp, ev_const, ev_func, set_get, Nat.reduceEqDiff, reduceIte, k4_1, k5_1, k6_1, k7_1, k8_1, k10_1, k16_1, k17_1, k18_1, k19_1, k22_1, k23_1, k24_1, k25_1, i11_1, i9_1, hB1.cell, hB2.cell, hB3.cell, hB4.cell, hB1.cell, hB2.cell, hB3.cell, hB4.cell, hB1.cell, hB2.cell, hB3.cell, hB4.cell]; rfl)) (fun hg10_7 => by simp only [ev_tmp, ev_const, ev_func, set_get, Nat.reduceEqDiff, reduceIte, k4_1, k5_1, k6_1, k7_1, k8_1, k10_1, k16_1, k17_1, k18_1, k19_1, k22_1, k23_1, k24_1, k25_1, i11_1, i9_1, hB1.cell, hB2.cell, hB3.cell, hB4.cell, hB1.cell, hB2.cell, hB3.cell, hB4.cell, hB1.cell, hB2.cell, hB3.cell, hB4.cell, qv_load, ld3, Int.toNat_natCast, Nat.zero_add, at6 hm, Bool.false_eq_true, Bool.true_eq_false, eq_self, if_true, if_false, true_and, and_true, false_and, and_false, hg10_7]; rfl) ?_
            refine LD.cq rfl rfl (gd_at (t := 46) rfl (by simp only [ev_tmp, ev_const, ev_func, set_get, Nat.reduceEqDiff, reduceIte, k4_1, k5_1, k6_1, k7_1, k8_1, k10_1, k16_1, k17_1, k18_1, k19_1, k22_1, k23_1, k24_1, k25_1, i11_1, i9_1, hB1.cell, hB2.cell, hB3.cell, hB4.cell, hB1.cell, hB2.cell, hB3.cell, hB4.cell, hB1.cell, hB2.cell, hB3.cell, hB4.cell]; rfl)) (fun hg10_8 => by simp only [ev_tmp, ev_const, ev_func, set_get, Nat.reduceEqDiff, reduceIte, qv_fieldAddr, fa41_1, Nat.zero_add, Nat.reduceAdd, k4_1, k5_1, k6_1, k7_1, k8_1, k10_1, k16_1, k17_1, k18_1, k19_1, k22_1, k23_1, k24_1, k25_1, i11_1, i9_1, hB1.cell, hB2.cell, hB3.cell, hB4.cell, hB1.cell, hB2.cell, hB3.cell, hB4.cell, hB1.cell, hB2.cell, hB3.cell, hB4.cell, hg10_8, Bool.false_eq_true, Bool.true_eq_false, eq_self, if_true, if_false, true_and, and_true, false_and, and_false]; rfl) ?_
            refine LD.cq rfl rfl (gd_at (t := 46) rfl (by simp only [ev_tmp, ev_const, ev_func, set_get, Nat.reduceEqDiff, reduceIte, k4_1, k5_1, k6_1, k7_1, k8_1, k10_1, k16_1, k17_1, k18_1, k19_1, k22_1, k23_1, k24_1, k25_1, i11_1, i9_1, hB1.cell, hB2.cell, hB3.cell, hB4.cell, hB1.cell, hB2.cell, hB3.cell, hB4.cell, hB1.cell, hB2.cell, hB3.cell, hB4.cell]; rfl)) (fun hg10_9 => by simp only [ev_tmp, ev_const, ev_func, set_get, Nat.reduceEqDiff, reduceIte, qv_load, ld3, readN, List.getElem?_toArray, List.getElem?_cons_zero, List.getElem?_cons_succ, List.map_toArray, List.map_cons, List.map_nil, Option.map_some, Option.bind_some, Nat.zero_add, Nat.reduceAdd, k4_1, k5_1, k6_1, k7_1, k8_1, k10_1, k16_1, k17_1, k18_1, k19_1, k22_1, k23_1, k24_1, k25_1, i11_1, i9_1, hB1.cell, hB2.cell, hB3.cell, hB4.cell, hB1.cell, hB2.cell, hB3.cell, hB4.cell, hB1.cell, hB2.cell, hB3.cell, hB4.cell, hg10_9, Bool.false_eq_true, Bool.true_eq_false, eq_self, if_true, if_false, true_and, and_true, false_and, and_false]; rfl) ?_
            refine LD.cq rfl rfl (gd_at (t := 46) rfl (by simp only [ev_tmp, ev_const, ev_func, set_get, Nat.reduceEqDiff, reduceIte, k4_1, k5_1, k6_1, k7_1, k8_1, k10_1, k16_1, k17_1, k18_1, k19_1, k22_1, k23_1, k24_1, k25_1, i11_1, i9_1, hB1.cell, hB2.cell, hB3.cell, hB4.cell, hB1.cell, hB2.cell, hB3.cell, hB4.cell, hB1.cell, hB2.cell, hB3.cell, hB4.cell]; rfl)) (fun hg10_10 => by simp only [ev_tmp, ev_const, ev_func, set_get, Nat.reduceEqDiff, reduceIte, qv_binOp, binv_leq, k4_1, k5_1, k6_1, k7_1, k8_1, k10_1, k16_1, k17_1, k18_1, k19_1, k22_1, k23_1, k24_1, k25_1, i11_1, i9_1, hB1.cell, hB2.cell, hB3.cell, hB4.cell, hB1.cell, hB2.cell, hB3.cell, hB4.cell, hB1.cell, hB2.cell, hB3.cell, hB4.cell, hg10_10, Bool.false_eq_true, Bool.true_eq_false, eq_self, if_true, if_false, true_and, and_true, false_and, and_false]; rfl) ?_
            refine LD.qq rfl rfl (by simp only [ev_tmp, ev_const, ev_func, set_get, Nat.reduceEqDiff, reduceIte, qv_pick, pk_and, pk_or, Bool.false_eq_true, Bool.true_eq_false, eq_self, if_true, if_false, true_and, and_true, false_and, and_false, k4_1, k5_1, k6_1, k7_1, k8_1, k10_1, k16_1, k17_1, k18_1, k19_1, k22_1, k23_1, k24_1, k25_1, i11_1, i9_1, hB1.cell, hB2.cell, hB3.cell, hB4.cell, hB1.cell, hB2.cell, hB3.cell, hB4.cell, hB1.cell, hB2.cell, hB3.cell, hB4.cell]; rfl) ?_
            refine LD.qq rfl rfl (by simp only [ev_tmp, ev_const, ev_func, set_get, Nat.reduceEqDiff, reduceIte, qv_assign, k4_1, k5_1, k6_1, k7_1, k8_1, k10_1, k16_1, k17_1, k18_1, k19_1, k22_1, k23_1, k24_1, k25_1, i11_1, i9_1, hB1.cell, hB2.cell, hB3.cell, hB4.cell, hB1.cell, hB2.cell, hB3.cell, hB4.cell, hB1.cell, hB2.cell, hB3.cell, hB4.cell]; rfl) ?_
            refine LD.nil ?_
            rintro _ rfl -
            refine WL.nil ?_
            refine th_norm ?_
            refine hx_seq ?_
            refine hx_region ?_
            refine WL.qq (by simp only [ev_tmp, ev_const, ev_func, set_get, Nat.reduceEqDiff, reduceIte, qv_move, k4_1, k5_1, k6_1, k7_1, k8_1, k10_1, k16_1, k17_1, k18_1, k19_1, k22_1, k23_1, k24_1, k25_1, i11_1, i9_1, hB1.cell, hB2.cell, hB3.cell, hB4.cell, hB1.cell, hB2.cell, hB3.cell, hB4.cell, hB1.cell, hB2.cell, hB3.cell, hB4.cell]; rfl) ?_
            refine WL.qq (by simp only [ev_tmp, ev_const, ev_func, set_get, Nat.reduceEqDiff, reduceIte, qv_move, k4_1, k5_1, k6_1, k7_1, k8_1, k10_1, k16_1, k17_1, k18_1, k19_1, k22_1, k23_1, k24_1, k25_1, i11_1, i9_1, hB1.cell, hB2.cell, hB3.cell, hB4.cell, hB1.cell, hB2.cell, hB3.cell, hB4.cell, hB1.cell, hB2.cell, hB3.cell, hB4.cell]; rfl) ?_
            refine WL.cq (gd_at (t := 55) rfl (by simp only [ev_tmp, ev_const, ev_func, set_get, Nat.reduceEqDiff, reduceIte, k4_1, k5_1, k6_1, k7_1, k8_1, k10_1, k16_1, k17_1, k18_1, k19_1, k22_1, k23_1, k24_1, k25_1, i11_1, i9_1, hB1.cell, hB2.cell, hB3.cell, hB4.cell, hB1.cell, hB2.cell, hB3.cell, hB4.cell, hB1.cell, hB2.cell, hB3.cell, hB4.cell]; rfl)) (fun hg11_2 => by simp only [ev_tmp, ev_const, ev_func, set_get, Nat.reduceEqDiff, reduceIte, qv_move, k4_1, k5_1, k6_1, k7_1, k8_1, k10_1, k16_1, k17_1, k18_1, k19_1, k22_1, k23_1, k24_1, k25_1, i11_1, i9_1, hB1.cell, hB2.cell, hB3.cell, hB4.cell, hB1.cell, hB2.cell, hB3.cell, hB4.cell, hB1.cell, hB2.cell, hB3.cell, hB4.cell, hg11_2, Bool.false_eq_true, Bool.true_eq_false, eq_self, if_true, if_false, true_and, and_true, false_and, and_false]; rfl) ?_
            refine WL.qq (by simp only [ev_tmp, ev_const, ev_func, set_get, Nat.reduceEqDiff, reduceIte, qv_pick, pk_and, pk_or, Bool.false_eq_true, Bool.true_eq_false, eq_self, if_true, if_false, true_and, and_true, false_and, and_false, k4_1, k5_1, k6_1, k7_1, k8_1, k10_1, k16_1, k17_1, k18_1, k19_1, k22_1, k23_1, k24_1, k25_1, i11_1, i9_1, hB1.cell, hB2.cell, hB3.cell, hB4.cell, hB1.cell, hB2.cell, hB3.cell, hB4.cell, hB1.cell, hB2.cell, hB3.cell, hB4.cell]; rfl) ?_
            refine WL.nil ?_
            refine th_norm ?_
            refine hx_cond (by simp only [ev_tmp, ev_const, ev_func, set_get, Nat.reduceEqDiff, reduceIte, k4_1, k5_1, k6_1, k7_1, k8_1, k10_1, k16_1, k17_1, k18_1, k19_1, k22_1, k23_1, k24_1, k25_1, i11_1, i9_1, hB1.cell, hB2.cell, hB3.cell, hB4.cell, hB1.cell, hB2.cell, hB3.cell, hB4.cell, hB1.cell, hB2.cell, hB3.cell, hB4.cell]; rfl) (fun hct57 => ?_) (fun hct57 => ?_)
            ·
              try simp only [decide_eq_true_eq, decide_eq_false_iff_not, Bool.and_eq_true, Bool.and_eq_false_iff, Bool.or_eq_true, Bool.or_eq_false_iff, Bool.not_eq_true', Bool.not_eq_false', Bool.not_eq_true, Bool.not_eq_false] at hct57
              have hs : selC (d, m) (d', m') (day, x, (i : Int) + 1) = true := by simp only [selC, Bool.and_eq_true, Bool.or_eq_true, decide_eq_true_eq]; exact hct57
              rw [hs, if_pos rfl] at hM
              refine hx_region ?_
              refine WL.qq (by simp only [ev_tmp, ev_const, ev_func, set_get, Nat.reduceEqDiff, reduceIte, qv_move, k4_1, k5_1, k6_1, k7_1, k8_1, k10_1, k16_1, k17_1, k18_1, k19_1, k22_1, k23_1, k24_1, k25_1, i11_1, i9_1, hB1.cell, hB2.cell, hB3.cell, hB4.cell, hB1.cell, hB2.cell, hB3.cell, hB4.cell, hB1.cell, hB2.cell, hB3.cell, hB4.cell]; rfl) ?_
              refine WL.qq (by simp only [ev_tmp, ev_const, ev_func, set_get, Nat.reduceEqDiff, reduceIte, qv_move, k4_1, k5_1, k6_1, k7_1, k8_1, k10_1, k16_1, k17_1, k18_1, k19_1, k22_1, k23_1, k24_1, k25_1, i11_1, i9_1, hB1.cell, hB2.cell, hB3.cell, hB4.cell, hB1.cell, hB2.cell, hB3.cell, hB4.cell, hB1.cell, hB2.cell, hB3.cell, hB4.cell]; rfl) ?_
              refine WL.qq (by simp only [ev_tmp, ev_const, ev_func, set_get, Nat.reduceEqDiff, reduceIte, qv_move, k4_1, k5_1, k6_1, k7_1, k8_1, k10_1, k16_1, k17_1, k18_1, k19_1, k22_1, k23_1, k24_1, k25_1, i11_1, i9_1, hB1.cell, hB2.cell, hB3.cell, hB4.cell, hB1.cell, hB2.cell, hB3.cell, hB4.cell, hB1.cell, hB2.cell, hB3.cell, hB4.cell]; rfl) ?_
              refine WL.qq (by simp only [ev_tmp, ev_const, ev_func, set_get, Nat.reduceEqDiff, reduceIte, k4_1, k5_1, k6_1, k7_1, k8_1, k10_1, k16_1, k17_1, k18_1, k19_1, k22_1, k23_1, k24_1, k25_1, i11_1, i9_1, hB1.cell, hB2.cell, hB3.cell, hB4.cell, hB1.cell, hB2.cell, hB3.cell, hB4.cell, hB1.cell, hB2.cell, hB3.cell, hB4.cell, qv_indexAddr]; exact ix86 _ _ _ _ (by omega) (by omega)) ?_
              refine WL.qq (by simp only [ev_tmp, ev_const, ev_func, set_get, Nat.reduceEqDiff, reduceIte, k4_1, k5_1, k6_1, k7_1, k8_1, k10_1, k16_1, k17_1, k18_1, k19_1, k22_1, k23_1, k24_1, k25_1, i11_1, i9_1, hB1.cell, hB2.cell, hB3.cell, hB4.cell, hB1.cell, hB2.cell, hB3.cell, hB4.cell, hB1.cell, hB2.cell, hB3.cell, hB4.cell, qv_load, ld3, Int.toNat_natCast, Nat.zero_add, at6 hm]; rfl) ?_
              refine WL.qq (by refine qv_bld (by simp only [ev_tmp, ev_const, ev_func, set_get, Nat.reduceEqDiff, reduceIte, List.getElem?_toArray, List.getElem?_cons_zero, List.getElem?_cons_succ, List.map_toArray, List.map_cons, List.map_nil, Option.map_some, Option.bind_some, k4_1, k5_1, k6_1, k7_1, k8_1, k10_1, k16_1, k17_1, k18_1, k19_1, k22_1, k23_1, k24_1, k25_1, i11_1, i9_1, hB1.cell, hB2.cell, hB3.cell, hB4.cell, hB1.cell, hB2.cell, hB3.cell, hB4.cell, hB1.cell, hB2.cell, hB3.cell, hB4.cell] <;> rfl) (by rw [bl41]; simp [Instr.fill, Value.cells]; rfl)) ?_
              refine WL.qq (by simp only [ev_tmp, ev_const, ev_func, set_get, Nat.reduceEqDiff, reduceIte, qv_move, k4_1, k5_1, k6_1, k7_1, k8_1, k10_1, k16_1, k17_1, k18_1, k19_1, k22_1, k23_1, k24_1, k25_1, i11_1, i9_1, hB1.cell, hB2.cell, hB3.cell, hB4.cell, hB1.cell, hB2.cell, hB3.cell, hB4.cell, hB1.cell, hB2.cell, hB3.cell, hB4.cell]; rfl) ?_
              refine WL.qq (by simp only [ev_tmp, ev_const, ev_func, set_get, Nat.reduceEqDiff, reduceIte, qv_binOp, binv_add, k4_1, k5_1, k6_1, k7_1, k8_1, k10_1, k16_1, k17_1, k18_1, k19_1, k22_1, k23_1, k24_1, k25_1, i11_1, i9_1, hB1.cell, hB2.cell, hB3.cell, hB4.cell, hB1.cell, hB2.cell, hB3.cell, hB4.cell, hB1.cell, hB2.cell, hB3.cell, hB4.cell]; (try simp (disch := omega) only [w64, w8, wu64]); rfl) ?_
              refine WL.qq (by refine qv_bld (by simp only [ev_tmp, ev_const, ev_func, set_get, Nat.reduceEqDiff, reduceIte, List.getElem?_toArray, List.getElem?_cons_zero, List.getElem?_cons_succ, List.map_toArray, List.map_cons, List.map_nil, Option.map_some, Option.bind_some, k4_1, k5_1, k6_1, k7_1, k8_1, k10_1, k16_1, k17_1, k18_1, k19_1, k22_1, k23_1, k24_1, k25_1, i11_1, i9_1, hB1.cell, hB2.cell, hB3.cell, hB4.cell, hB1.cell, hB2.cell, hB3.cell, hB4.cell, hB1.cell, hB2.cell, hB3.cell, hB4.cell] <;> rfl) (by rw [bl64]; simp [Instr.fill, Value.cells]; rfl)) ?_
              have hil : M.length ≤ R.length := (by rw [← hM]; simp)
              refine WL.push (bytes := 24) Try.underlying58 (inf_of Try.type64) rfl rfl rfl rfl (by decide) (by decide) sz64 zr64 (fun u => by simp only [ev_tmp, ev_const, ev_func, set_get, Nat.reduceEqDiff, reduceIte, k4_1, k5_1, k6_1, k7_1, k8_1, k10_1, k16_1, k17_1, k18_1, k19_1, k22_1, k23_1, k24_1, k25_1, i11_1, i9_1, hB1.cell, hB2.cell, hB3.cell, hB4.cell, hB1.cell, hB2.cell, hB3.cell, hB4.cell, hB1.cell, hB2.cell, hB3.cell, hB4.cell]) ho (by simp only [ev_tmp, ev_const, ev_func, set_get, Nat.reduceEqDiff, reduceIte, k4_1, k5_1, k6_1, k7_1, k8_1, k10_1, k16_1, k17_1, k18_1, k19_1, k22_1, k23_1, k24_1, k25_1, i11_1, i9_1, hB1.cell, hB2.cell, hB3.cell, hB4.cell, hB1.cell, hB2.cell, hB3.cell, hB4.cell, hB1.cell, hB2.cell, hB3.cell, hB4.cell, Value.cells]; rfl) rfl (by simp [Value.oneCell']) (by simp only [maxLen]; omega) (by omega) hE4.size ?_
              intro h40 v40 B40 ho40 hg40 hp40 hn40
              replace hE4 := hg40.ext hE4 (fun c hc => (ho.block c hc).1)
              skip
              refine WL.qq (by simp only [ev_tmp, ev_const, ev_func, set_get, Nat.reduceEqDiff, reduceIte, qv_assign, k4_1, k5_1, k6_1, k7_1, k8_1, k10_1, k16_1, k17_1, k18_1, k19_1, k22_1, k23_1, k24_1, k25_1, i11_1, i9_1, hB1.cell, hB2.cell, hB3.cell, hB4.cell, hB1.cell, hB2.cell, hB3.cell, hB4.cell, hB1.cell, hB2.cell, hB3.cell, hB4.cell]; rfl) ?_
              refine WL.nil ?_
              refine bl_norm ?_
              refine th_norm ?_
              refine hx_region ?_
              refine WL.qq (by simp only [ev_tmp, ev_const, ev_func, set_get, Nat.reduceEqDiff, reduceIte, qv_move, k4_1, k5_1, k6_1, k7_1, k8_1, k10_1, k16_1, k17_1, k18_1, k19_1, k22_1, k23_1, k24_1, k25_1, i11_1, i9_1, hB1.cell, hB2.cell, hB3.cell, hB4.cell, hB1.cell, hB2.cell, hB3.cell, hB4.cell, hB1.cell, hB2.cell, hB3.cell, hB4.cell]; rfl) ?_
              refine WL.qq (by simp only [ev_tmp, ev_const, ev_func, set_get, Nat.reduceEqDiff, reduceIte, qv_binOp, binv_add, k4_1, k5_1, k6_1, k7_1, k8_1, k10_1, k16_1, k17_1, k18_1, k19_1, k22_1, k23_1, k24_1, k25_1, i11_1, i9_1, hB1.cell, hB2.cell, hB3.cell, hB4.cell, hB1.cell, hB2.cell, hB3.cell, hB4.cell, hB1.cell, hB2.cell, hB3.cell, hB4.cell]; (try simp (disch := omega) only [w64, w8, wu64]); rfl) ?_
              refine WL.qq (by simp only [ev_tmp, ev_const, ev_func, set_get, Nat.reduceEqDiff, reduceIte, qv_assign, k4_1, k5_1, k6_1, k7_1, k8_1, k10_1, k16_1, k17_1, k18_1, k19_1, k22_1, k23_1, k24_1, k25_1, i11_1, i9_1, hB1.cell, hB2.cell, hB3.cell, hB4.cell, hB1.cell, hB2.cell, hB3.cell, hB4.cell, hB1.cell, hB2.cell, hB3.cell, hB4.cell]; rfl) ?_
              refine WL.nil ?_
              refine th_norm ?_
              refine ⟨rfl, ?_, _, ?_, i + 1, v40, M ++ [(day, x, (i : Int) + 1)], rfl, ?_, ?_, ?_, ?_, ?_, ?_⟩  -- again 0 of loop 1
              · (repeat (first | exact Fr.refl _ _ | refine Fr.set rfl ?_ | refine Fr.put rfl ?_ | refine Fr.put0 ?_))
              · omega
              · exact hE4
              · rw [List.flatMap_append, List.length_append]; exact ho40
              · omega
              · rw [List.append_assoc]; exact hM
              · simp only [ev_tmp, ev_const, ev_func, set_get, Nat.reduceEqDiff, reduceIte, k4_1, k5_1, k6_1, k7_1, k8_1, k10_1, k16_1, k17_1, k18_1, k19_1, k22_1, k23_1, k24_1, k25_1, i11_1, i9_1, hB1.cell, hB2.cell, hB3.cell, hB4.cell, hB1.cell, hB2.cell, hB3.cell, hB4.cell, hB1.cell, hB2.cell, hB3.cell, hB4.cell] <;> first | rfl | (congr 1; omega)
              · simp only [ev_tmp, ev_const, ev_func, set_get, Nat.reduceEqDiff, reduceIte, k4_1, k5_1, k6_1, k7_1, k8_1, k10_1, k16_1, k17_1, k18_1, k19_1, k22_1, k23_1, k24_1, k25_1, i11_1, i9_1, hB1.cell, hB2.cell, hB3.cell, hB4.cell, hB1.cell, hB2.cell, hB3.cell, hB4.cell, hB1.cell, hB2.cell, hB3.cell, hB4.cell] <;> first | rfl | (congr 1; omega)
            ·
              try simp only [decide_eq_true_eq, decide_eq_false_iff_not, Bool.and_eq_true, Bool.and_eq_false_iff, Bool.or_eq_true, Bool.or_eq_false_iff, Bool.not_eq_true', Bool.not_eq_false', Bool.not_eq_true, Bool.not_eq_false] at hct57
              have hs : selC (d, m) (d', m') (day, x, (i : Int) + 1) = false := by rw [Bool.eq_false_iff]; simp only [selC, ne_eq, Bool.and_eq_true, Bool.or_eq_true, decide_eq_true_eq]; omega
              rw [hs, if_neg (by simp)] at hM
              refine hx_skip ?_
              refine bl_norm ?_
              refine th_norm ?_
              refine hx_region ?_
              refine WL.qq (by simp only [ev_tmp, ev_const, ev_func, set_get, Nat.reduceEqDiff, reduceIte, qv_move, k4_1, k5_1, k6_1, k7_1, k8_1, k10_1, k16_1, k17_1, k18_1, k19_1, k22_1, k23_1, k24_1, k25_1, i11_1, i9_1, hB1.cell, hB2.cell, hB3.cell, hB4.cell, hB1.cell, hB2.cell, hB3.cell, hB4.cell, hB1.cell, hB2.cell, hB3.cell, hB4.cell]; rfl) ?_
              refine WL.qq (by simp only [ev_tmp, ev_const, ev_func, set_get, Nat.reduceEqDiff, reduceIte, qv_binOp, binv_add, k4_1, k5_1, k6_1, k7_1, k8_1, k10_1, k16_1, k17_1, k18_1, k19_1, k22_1, k23_1, k24_1, k25_1, i11_1, i9_1, hB1.cell, hB2.cell, hB3.cell, hB4.cell, hB1.cell, hB2.cell, hB3.cell, hB4.cell, hB1.cell, hB2.cell, hB3.cell, hB4.cell]; (try simp (disch := omega) only [w64, w8, wu64]); rfl) ?_
              refine WL.qq (by simp only [ev_tmp, ev_const, ev_func, set_get, Nat.reduceEqDiff, reduceIte, qv_assign, k4_1, k5_1, k6_1, k7_1, k8_1, k10_1, k16_1, k17_1, k18_1, k19_1, k22_1, k23_1, k24_1, k25_1, i11_1, i9_1, hB1.cell, hB2.cell, hB3.cell, hB4.cell, hB1.cell, hB2.cell, hB3.cell, hB4.cell, hB1.cell, hB2.cell, hB3.cell, hB4.cell]; rfl) ?_
              refine WL.nil ?_
              refine th_norm ?_
              refine ⟨rfl, ?_, _, ?_, i + 1, v, M, rfl, ?_, ?_, ?_, ?_, ?_, ?_⟩  -- again 1 of loop 1
              · (repeat (first | exact Fr.refl _ _ | refine Fr.set rfl ?_ | refine Fr.put rfl ?_ | refine Fr.put0 ?_))
              · omega
              · exact hE4
              · exact ho
              · omega
              · exact hM
              · simp only [ev_tmp, ev_const, ev_func, set_get, Nat.reduceEqDiff, reduceIte, k4_1, k5_1, k6_1, k7_1, k8_1, k10_1, k16_1, k17_1, k18_1, k19_1, k22_1, k23_1, k24_1, k25_1, i11_1, i9_1, hB1.cell, hB2.cell, hB3.cell, hB4.cell, hB1.cell, hB2.cell, hB3.cell, hB4.cell, hB1.cell, hB2.cell, hB3.cell, hB4.cell] <;> first | rfl | (congr 1; omega)
              · simp only [ev_tmp, ev_const, ev_func, set_get, Nat.reduceEqDiff, reduceIte, k4_1, k5_1, k6_1, k7_1, k8_1, k10_1, k16_1, k17_1, k18_1, k19_1, k22_1, k23_1, k24_1, k25_1, i11_1, i9_1, hB1.cell, hB2.cell, hB3.cell, hB4.cell, hB1.cell, hB2.cell, hB3.cell, hB4.cell, hB1.cell, hB2.cell, hB3.cell, hB4.cell] <;> first | rfl | (congr 1; omega)
          ·
            try simp only [decide_eq_true_eq, decide_eq_false_iff_not, Bool.and_eq_true, Bool.and_eq_false_iff, Bool.or_eq_true, Bool.or_eq_false_iff, Bool.not_eq_true', Bool.not_eq_false', Bool.not_eq_true, Bool.not_eq_false] at hct27
            have hi6 : i = 6 := (by omega); subst hi6; rw [day6_end, List.nil_append] at hM
            refine hx_exit ?_
            refine th_exit ?_
            refine th_exit ?_
            refine bl_hit ?_
            refine bl_norm ?_
            refine th_norm ?_
            refine hx_region ?_
            refine WL.qq (by simp only [ev_tmp, ev_const, ev_func, set_get, Nat.reduceEqDiff, reduceIte, qv_move, k4_1, k5_1, k6_1, k7_1, k8_1, k10_1, k16_1, k17_1, k18_1, k19_1, k22_1, k23_1, k24_1, k25_1, i11_1, i9_1, hB1.cell, hB2.cell, hB3.cell, hB4.cell, hB1.cell, hB2.cell, hB3.cell, hB4.cell, hB1.cell, hB2.cell, hB3.cell, hB4.cell]; rfl) ?_
            refine WL.qq (by simp only [ev_tmp, ev_const, ev_func, set_get, Nat.reduceEqDiff, reduceIte, qv_binOp, binv_add, k4_1, k5_1, k6_1, k7_1, k8_1, k10_1, k16_1, k17_1, k18_1, k19_1, k22_1, k23_1, k24_1, k25_1, i11_1, i9_1, hB1.cell, hB2.cell, hB3.cell, hB4.cell, hB1.cell, hB2.cell, hB3.cell, hB4.cell, hB1.cell, hB2.cell, hB3.cell, hB4.cell]; (try simp (disch := omega) only [w64, w8, wu64]); rfl) ?_
            refine WL.qq (by simp only [ev_tmp, ev_const, ev_func, set_get, Nat.reduceEqDiff, reduceIte, qv_assign, k4_1, k5_1, k6_1, k7_1, k8_1, k10_1, k16_1, k17_1, k18_1, k19_1, k22_1, k23_1, k24_1, k25_1, i11_1, i9_1, hB1.cell, hB2.cell, hB3.cell, hB4.cell, hB1.cell, hB2.cell, hB3.cell, hB4.cell, hB1.cell, hB2.cell, hB3.cell, hB4.cell]; rfl) ?_
            refine WL.nil ?_
            refine th_norm ?_
            refine ⟨rfl, ?_, _, ?_, day + 1, v, M, rfl, ?_, ?_, ?_, ?_, ?_, ?_⟩  -- again 1 of loop 0
            · (repeat (first | exact Fr.refl _ _ | refine Fr.set rfl ?_ | refine Fr.put rfl ?_ | refine Fr.put0 ?_ | refine Fr.trans ?_ (Fr.of hfr1 rfl)))
            · omega
            · exact hE4
            · exact ho
            · exact ⟨by omega, .inl (by omega)⟩
            · exact hM
            · simp only [ev_tmp, ev_const, ev_func, set_get, Nat.reduceEqDiff, reduceIte, k4_1, k5_1, k6_1, k7_1, k8_1, k10_1, k16_1, k17_1, k18_1, k19_1, k22_1, k23_1, k24_1, k25_1, i11_1, i9_1, hB1.cell, hB2.cell, hB3.cell, hB4.cell, hB1.cell, hB2.cell, hB3.cell, hB4.cell, hB1.cell, hB2.cell, hB3.cell, hB4.cell] <;> first | rfl | (congr 1; omega)
            · simp only [ev_tmp, ev_const, ev_func, set_get, Nat.reduceEqDiff, reduceIte, k4_1, k5_1, k6_1, k7_1, k8_1, k10_1, k16_1, k17_1, k18_1, k19_1, k22_1, k23_1, k24_1, k25_1, i11_1, i9_1, hB1.cell, hB2.cell, hB3.cell, hB4.cell, hB1.cell, hB2.cell, hB3.cell, hB4.cell, hB1.cell, hB2.cell, hB3.cell, hB4.cell] <;> first | rfl | (congr 1; omega)
    ·
      try simp only [decide_eq_true_eq, decide_eq_false_iff_not, Bool.and_eq_true, Bool.and_eq_false_iff, Bool.or_eq_true, Bool.or_eq_false_iff, Bool.not_eq_true', Bool.not_eq_false', Bool.not_eq_true, Bool.not_eq_false] at hct19
      refine hx_exit ?_
      refine th_exit ?_
      refine th_exit ?_
      refine bl_hit ?_
      refine th_norm ?_
      refine hx_seq ?_
      refine hx_region ?_
      refine WL.qq (by simp only [ev_tmp, ev_const, ev_func, set_get, Nat.reduceEqDiff, reduceIte, qv_move, k4_0, k5_0, k6_0, k7_0, k8_0, i10_0, i9_0, hB1.cell, hB2.cell, hB3.cell, hB4.cell, hB1.cell, hB2.cell, hB3.cell, hB4.cell]; rfl) ?_
      refine WL.qq (by simp only [ev_tmp, ev_const, ev_func, set_get, Nat.reduceEqDiff, reduceIte, qv_assign, k4_0, k5_0, k6_0, k7_0, k8_0, i10_0, i9_0, hB1.cell, hB2.cell, hB3.cell, hB4.cell, hB1.cell, hB2.cell, hB3.cell, hB4.cell]; rfl) ?_
      refine WL.nil ?_
      refine th_norm ?_
      refine hx_ret ?_
      refine fin_ret [.tmp 8] rfl rfl (by simp only [ev_tmp, ev_const, ev_func, set_get, Nat.reduceEqDiff, reduceIte, resv, k4_0, k5_0, k6_0, k7_0, k8_0, i10_0, i9_0, hB1.cell, hB2.cell, hB3.cell, hB4.cell, hB1.cell, hB2.cell, hB3.cell, hB4.cell]; rfl) ?_  -- ret 0 r13
      have hz : (d' + 1 - day).toNat = 0 := (by omega)
      rw [hz, allF, List.filter_nil, List.append_nil] at hM
      subst hM
      exact ⟨hE0.trans hE4, ho.base hE0.size⟩
end GL

